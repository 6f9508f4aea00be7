import JvmDerived
import JvmDerived.Pilot.@@N@@Statement
import JvmDerived.Pilot.@@N@@Code
set_option linter.unusedVariables false
set_option linter.unusedSimpArgs false
@@BLOCK:NumsL.lean.txt@@
/- laws to paste: Road.backV, Road.eqW, Road.codOf (cut by pick.py; bodies as the Statement names them) -/
namespace Jvm.Pilot.@@N@@
namespace StrChars
open Jvm Sem ClassFile Op Lib Jvm.Stand Jvm.Free.XT Jvm.Free.ALB Jvm.Free.JM Jvm.Free
open Jvm.Lib.Cold (StaticIs)
/-- a char array whose places are chars -/
def Ch (a : Addr) (A : Cell) (U : State) : Prop := Arr .char a A U ∧ Typed .char A
theorem Ch.mv {a : Addr} {A : Cell} {U U' : State} (h : Ch a A U) (hal : U.vm.Alike U'.vm) (hh : U'.heap = U.heap) : Ch a A U' := ⟨h.1.mv hal hh, h.2⟩
theorem Ch.keep {a : Addr} {A : Cell} {U U' : State} (h : Ch a A U) (hal : U.vm.Alike U'.vm) (hk : U'.heap[a]? = some A) : Ch a A U' := ⟨h.1.keep hal hk, h.2⟩
/-- what place i of a char[]'s cell holds -/
def cv (A : Cell) (i : Nat) : Int32 := match A.slots[i]? with | some (.int x) => x | _ => 0
theorem Ch.get {a : Addr} {A : Cell} {U : State} (h : Ch a A U) {i : Nat} (hi : i < A.slots.size) : A.slots[i]? = some (.int (cv A i)) := by
  have e := Array.getElem?_eq_getElem hi
  have f := h.2 i _ e
  unfold cv; rw [e]
  generalize A.slots[i] = v at f
  cases v <;> simp [fits] at f ⊢
/-- the byte that i2b leaves of a char -/
def lo8 (x : Int32) : Int32 := x.toInt8.toInt32
theorem fits_lo8 (y : Int32) : fits .byte (.int (lo8 y)) = true := by
  have h1 := y.toInt8.le_toInt
  have h2 := y.toInt8.toInt_lt
  simp only [lo8, fits, Bool.and_eq_true, decide_eq_true_eq, Int32.le_iff_toInt_le, Int8.toInt_toInt32, show (-128 : Int32).toInt = -128 from by decide, show (127 : Int32).toInt = 127 from by decide]
  omega
/-- A' is A but that each place j of lo .. hi - 1 holds f j -/
def Laid (A A' : Cell) (lo hi : Nat) (f : Nat → Value) : Prop := A'.cls = A.cls ∧ A'.vm = A.vm ∧ A'.slots.size = A.slots.size ∧ ∀ i, A'.slots[i]? = if lo ≤ i ∧ i < hi then some (f i) else A.slots[i]?
theorem Laid.zero (A : Cell) (lo : Nat) (f : Nat → Value) : Laid A A lo (lo + 0) f := ⟨rfl, rfl, rfl, fun i => by rw [if_neg (by omega)]⟩
theorem Laid.step {A Ak : Cell} {lo k : Nat} {f : Nat → Value} {v : Value} (h : Laid A Ak lo k f) (hlo : lo ≤ k) (hk : k < Ak.slots.size) (hv : v = f k) : Laid A (Ak.setSlot k v) lo (k + 1) f := by
  refine ⟨h.1, h.2.1, by simpa [Cell.setSlot] using h.2.2.1, fun i => ?_⟩
  by_cases e : k = i
  · subst e; rw [Cell.slots_setSlot_self v hk, if_pos (by omega), hv]
  · rw [Cell.slots_setSlot_ne v e, h.2.2.2 i]
    by_cases q : lo ≤ i ∧ i < k
    · rw [if_pos q, if_pos (by omega)]
    · rw [if_neg q, if_neg (by omega)]
def U16 : String := "java/lang/StringUTF16"
namespace Cmp5
def yN : MethodName := ⟨"java/lang/StringUTF16", "compress", "([CI[BII)I"⟩
abbrev yB : ByteArray := jdk_52_method_21_code
theorem d0 : decode yB 0 = .ok (.iconst 0, 1) := by decide +kernel
theorem d1 : decode yB 1 = .ok (.istore 5, 2) := by decide +kernel
theorem d3 : decode yB 3 = .ok (.iload 5, 2) := by decide +kernel
theorem d5 : decode yB 5 = .ok (.iload 4, 2) := by decide +kernel
theorem d7 : decode yB 7 = .ok (.if_icmp (.ge) 37, 3) := by decide +kernel
theorem d10 : decode yB 10 = .ok (.aload_n 0, 1) := by decide +kernel
theorem d11 : decode yB 11 = .ok (.iload_n 1, 1) := by decide +kernel
theorem d12 : decode yB 12 = .ok (.caload, 1) := by decide +kernel
theorem d13 : decode yB 13 = .ok (.istore 6, 2) := by decide +kernel
theorem d15 : decode yB 15 = .ok (.iload 6, 2) := by decide +kernel
theorem d17 : decode yB 17 = .ok (.sipush 255, 3) := by decide +kernel
theorem d20 : decode yB 20 = .ok (.if_icmp (.le) 6, 3) := by decide +kernel
theorem d26 : decode yB 26 = .ok (.aload_n 2, 1) := by decide +kernel
theorem d27 : decode yB 27 = .ok (.iload_n 3, 1) := by decide +kernel
theorem d28 : decode yB 28 = .ok (.iload 6, 2) := by decide +kernel
theorem d30 : decode yB 30 = .ok (.i2b, 1) := by decide +kernel
theorem d31 : decode yB 31 = .ok (.bastore, 1) := by decide +kernel
theorem d32 : decode yB 32 = .ok (.iinc 1 1, 3) := by decide +kernel
theorem d35 : decode yB 35 = .ok (.iinc 3 1, 3) := by decide +kernel
theorem d38 : decode yB 38 = .ok (.iinc 5 1, 3) := by decide +kernel
theorem d41 : decode yB 41 = .ok (.goto (-38), 3) := by decide +kernel
theorem d44 : decode yB 44 = .ok (.iload 4, 2) := by decide +kernel
theorem d46 : decode yB 46 = .ok (.ireturn, 1) := by decide +kernel
def site : List Cond := []
def tab : Cond := tabOf yN yB 7 (some .int) site
def P (b : Addr) (A : Cell) (d : Addr) (B : Cell) (o q len : Nat) (args : Array Value) (s : State) : Prop := args = #[.ref b, .int (Int32.ofNat o), .ref d, .int (Int32.ofNat q), .int (Int32.ofNat len)] ∧ Ch b A s ∧ Arr .byte d B s ∧ b ≠ d ∧ o + len ≤ A.slots.size ∧ q + len ≤ B.slots.size ∧ ∀ i, i < len → ¬ 255 < cv A (o + i)
def E (b : Addr) (A : Cell) (d : Addr) (B : Cell) (o q len : Nat) (r : Option Value) (s u : State) : Prop := r = some (.int (Int32.ofNat len)) ∧ ∃ B', Put d B' s u ∧ Laid B B' q (q + len) (fun j => Value.int (lo8 (cv A (o + (j - q)))))
/-- no char of the range above 255: len; the places written hold each char's low byte -/
theorem law (l : Launch) (b : Addr) (A : Cell) (d : Addr) (B : Cell) (o q len : Nat) : Law l yN 5 5 0 0 yB 7 (some .int) site (P b A d B o q len) (E b A d B o q len) (copyLocs d q len) 0 0 := by
  refine Law.of_walk (plainFor_of_name (by decide +kernel)) (by decide +kernel) (by decide +kernel) (by decide) (fun _ _ h => by rw [h.1]; rfl) (fun _ U U' hal hh h => ⟨h.1, h.2.1.mv hal hh, h.2.2.1.mv hal hh, h.2.2.2⟩) (fun r U U' V V' h1 hal h2 h => ⟨h.1, h.2.elim fun B' q => ⟨B', q.1.mv h1 h2, q.2⟩⟩) ?_
  intro p e s m args below meth c s₁ X0 hexec hbytes hml hret hlk hnm hown hh0 W hP
  obtain ⟨rfl, hA, hB, hne, l1, l2, hp⟩ := hP
  have c1 : Steps p.tables e below (s₁.setTop (entryFrame m #[.ref b, .int (Int32.ofNat o), .ref d, .int (Int32.ofNat q), .int (Int32.ofNat len)] 7)) (s₁.setTop (mkF m 0 #[.val (.ref b), .val (.int (Int32.ofNat o)), .val (.ref d), .val (.int (Int32.ofNat q)), .val (.int (Int32.ofNat len)), .unset, .unset] [])) := entry rfl
  have hA0 := hA.1.mv X0.warmed.alike hh0
  have hB0 := hB.mv X0.warmed.alike hh0
  have a31 := hA.1.2.2.2
  have c2 : Steps p.tables e below (s₁.setTop (entryFrame m #[.ref b, .int (Int32.ofNat o), .ref d, .int (Int32.ofNat q), .int (Int32.ofNat len)] 7)) (s₁.setTop (mkF m 3 #[.val (.ref b), .val (.int (Int32.ofNat o)), .val (.ref d), .val (.int (Int32.ofNat q)), .val (.int (Int32.ofNat len)), .val (.int 0), .unset] [])) := c1.trans (by
    refine iconstV X0.here hexec rfl 0 (hb hbytes d0) (by decide) ?_
    refine XS.istore X0.here hexec rfl (hb hbytes d1) rfl rfl ?_
    exact Steps.refl _)
  have loop : ∀ (r i : Nat), i + r = len → ∀ (z : Slot), (z = .unset ∨ ∃ w, z = .val w ∧ w.category = 1) → ∀ (Tl : State) (Bk : Cell), Stand p l e { frames := 0, locals := 0, cells := 0, slots := 0 } s m #[.ref b, .int (Int32.ofNat o), .ref d, .int (Int32.ofNat q), .int (Int32.ofNat len)] below meth c Tl ([] ++ copyLocs d q i) 0 0 → Put d Bk s₁ Tl → Laid B Bk q (q + i) (fun j => Value.int (lo8 (cv A (o + (j - q))))) →
      Steps p.tables e below (s₁.setTop (entryFrame m #[.ref b, .int (Int32.ofNat o), .ref d, .int (Int32.ofNat q), .int (Int32.ofNat len)] 7)) (Tl.setTop (mkF m 3 #[.val (.ref b), .val (.int (Int32.ofNat (o + i))), .val (.ref d), .val (.int (Int32.ofNat (q + i))), .val (.int (Int32.ofNat len)), .val (.int (Int32.ofNat i)), z] [])) → ∃ (T' : State) (B' : Cell) (z' : Slot), Stand p l e { frames := 0, locals := 0, cells := 0, slots := 0 } s m #[.ref b, .int (Int32.ofNat o), .ref d, .int (Int32.ofNat q), .int (Int32.ofNat len)] below meth c T' ([] ++ copyLocs d q len) 0 0 ∧ Put d B' s₁ T' ∧ Laid B B' q (q + len) (fun j => Value.int (lo8 (cv A (o + (j - q))))) ∧
      Steps p.tables e below (s₁.setTop (entryFrame m #[.ref b, .int (Int32.ofNat o), .ref d, .int (Int32.ofNat q), .int (Int32.ofNat len)] 7)) (T'.setTop (mkF m 3 #[.val (.ref b), .val (.int (Int32.ofNat (o + len))), .val (.ref d), .val (.int (Int32.ofNat (q + len))), .val (.int (Int32.ofNat len)), .val (.int (Int32.ofNat len)), z'] [])) := by
    intro r
    induction r with
    | zero =>
      intro i hi z hz Tl Bk Xl pl fl cl
      have hil : i = len := by omega
      rw [hil] at Xl fl cl
      exact ⟨Tl, Bk, z, Xl, pl, fl, cl⟩
    | succ r ih =>
      intro i hi z hz Tl Bk Xl pl fl cl
      have all := X0.warmed.alike.symm.trans Xl.warmed.alike
      have hAl := hA0.keep all (pl.other hne hA0.1)
      have hBk := hB0.like all pl.1 fl.1 fl.2.1 fl.2.2.1
      have hlt : q + i < Bk.slots.size := by rw [fl.2.2.1]; omega
      have c3 : Steps p.tables e below (s₁.setTop (entryFrame m #[.ref b, .int (Int32.ofNat o), .ref d, .int (Int32.ofNat q), .int (Int32.ofNat len)] 7)) (Tl.setTop (mkF m 12 #[.val (.ref b), .val (.int (Int32.ofNat (o + i))), .val (.ref d), .val (.int (Int32.ofNat (q + i))), .val (.int (Int32.ofNat len)), .val (.int (Int32.ofNat i)), z] [.int (Int32.ofNat (o + i)), .ref b])) := cl.trans (by
        refine XS.iload Xl.here hexec rfl (hb hbytes d3) rfl ?_
        refine XS.iload Xl.here hexec rfl (hb hbytes d5) rfl ?_
        refine XS.icmpNo Xl.here hexec rfl (hb hbytes d7) rfl (ii_ge_f (lt32 (by omega) (by omega))) ?_
        refine XS.aloadN Xl.here hexec rfl (hb hbytes d10) rfl rfl ?_
        refine XS.iloadN Xl.here hexec rfl (hb hbytes d11) rfl ?_
        exact Steps.refl _)
      have c4 : Steps p.tables e below (s₁.setTop (entryFrame m #[.ref b, .int (Int32.ofNat o), .ref d, .int (Int32.ofNat q), .int (Int32.ofNat len)] 7)) (Tl.setTop (mkF m 13 #[.val (.ref b), .val (.int (Int32.ofNat (o + i))), .val (.ref d), .val (.int (Int32.ofNat (q + i))), .val (.int (Int32.ofNat len)), .val (.int (Int32.ofNat i)), z] [.int (cv A (o + i))])) := c3.trans (by
        refine Xl.aget hexec hAl rfl (hA.get (i := o + i) (by omega)) rfl rfl (hb hbytes d12) ?_
        exact Steps.refl _)
      have c5 : Steps p.tables e below (s₁.setTop (entryFrame m #[.ref b, .int (Int32.ofNat o), .ref d, .int (Int32.ofNat q), .int (Int32.ofNat len)] 7)) (Tl.setTop (mkF m 15 #[.val (.ref b), .val (.int (Int32.ofNat (o + i))), .val (.ref d), .val (.int (Int32.ofNat (q + i))), .val (.int (Int32.ofNat len)), .val (.int (Int32.ofNat i)), .val (.int (cv A (o + i)))] [])) := c4.trans (by
        refine XS.istoreS Xl.here hexec rfl (hb hbytes d13) rfl rfl hz ?_
        exact Steps.refl _)
      have c6 : Steps p.tables e below (s₁.setTop (entryFrame m #[.ref b, .int (Int32.ofNat o), .ref d, .int (Int32.ofNat q), .int (Int32.ofNat len)] 7)) (Tl.setTop (mkF m 31 #[.val (.ref b), .val (.int (Int32.ofNat (o + i))), .val (.ref d), .val (.int (Int32.ofNat (q + i))), .val (.int (Int32.ofNat len)), .val (.int (Int32.ofNat i)), .val (.int (cv A (o + i)))] [.int (lo8 (cv A (o + i))), .int (Int32.ofNat (q + i)), .ref d])) := c5.trans (by
        refine XS.iload Xl.here hexec rfl (hb hbytes d15) rfl ?_
        refine sipushV Xl.here hexec rfl 255 (hb hbytes d17) (by decide) ?_
        refine XS.icmpYes Xl.here hexec rfl (pc0 := 20) rfl (hb hbytes d20) rfl (ii_le_t (hp i (by omega))) (by decide) rfl ?_
        refine XS.aloadN Xl.here hexec rfl (hb hbytes d26) rfl rfl ?_
        refine XS.iloadN Xl.here hexec rfl (hb hbytes d27) rfl ?_
        refine XS.iload Xl.here hexec rfl (hb hbytes d28) rfl ?_
        refine i2b Xl.here hexec rfl (hb hbytes d30) rfl ?_
        exact Steps.refl _)
      obtain ⟨T7, X7, p7, st7⟩ := Xl.aput hexec hBk rfl hlt rfl (fits_lo8 (cv A (o + i))) (g := (mkF m 31 #[.val (.ref b), .val (.int (Int32.ofNat (o + i))), .val (.ref d), .val (.int (Int32.ofNat (q + i))), .val (.int (Int32.ofNat len)), .val (.int (Int32.ofNat i)), .val (.int (cv A (o + i)))] [.int (lo8 (cv A (o + i))), .int (Int32.ofNat (q + i)), .ref d])) rfl (rest := []) rfl (hb hbytes d31)
      have c8 : Steps p.tables e below (s₁.setTop (entryFrame m #[.ref b, .int (Int32.ofNat o), .ref d, .int (Int32.ofNat q), .int (Int32.ofNat len)] 7)) (T7.setTop (mkF m 32 #[.val (.ref b), .val (.int (Int32.ofNat (o + i))), .val (.ref d), .val (.int (Int32.ofNat (q + i))), .val (.int (Int32.ofNat len)), .val (.int (Int32.ofNat i)), .val (.int (cv A (o + i)))] [])) := c6.trans (st7 _ (Steps.refl _))
      have c9 : Steps p.tables e below (s₁.setTop (entryFrame m #[.ref b, .int (Int32.ofNat o), .ref d, .int (Int32.ofNat q), .int (Int32.ofNat len)] 7)) (T7.setTop (mkF m 3 #[.val (.ref b), .val (.int (Int32.ofNat (o + i) + 1)), .val (.ref d), .val (.int (Int32.ofNat (q + i) + 1)), .val (.int (Int32.ofNat len)), .val (.int (Int32.ofNat i + 1)), .val (.int (cv A (o + i)))] [])) := c8.trans (by
        refine iincV X7.here hexec rfl 1 (hb hbytes d32) (by decide) rfl rfl ?_
        refine iincV X7.here hexec rfl 1 (hb hbytes d35) (by decide) rfl rfl ?_
        refine iincV X7.here hexec rfl 1 (hb hbytes d38) (by decide) rfl rfl ?_
        refine XS.goto X7.here hexec rfl (pc0 := 41) rfl (hb hbytes d41) (by decide) rfl ?_
        exact Steps.refl _)
      have c10 : Steps p.tables e below (s₁.setTop (entryFrame m #[.ref b, .int (Int32.ofNat o), .ref d, .int (Int32.ofNat q), .int (Int32.ofNat len)] 7)) (T7.setTop (mkF m 3 #[.val (.ref b), .val (.int (Int32.ofNat (o + (i + 1)))), .val (.ref d), .val (.int (Int32.ofNat (q + (i + 1)))), .val (.int (Int32.ofNat len)), .val (.int (Int32.ofNat (i + 1))), .val (.int (cv A (o + i)))] [])) := by
        have := c9
        rw [succ32, succ32, succ32] at this
        exact this
      exact ih (i + 1) (by omega) _ (Or.inr ⟨_, rfl, rfl⟩) T7 _ (by rw [copyLocs_step, ← List.append_assoc]; exact X7) (pl.trans p7) (fl.step (by omega) hlt (by simp)) c10
  obtain ⟨T9, B9, z9, X9, p9, f9, g9⟩ := loop len 0 (by omega) .unset (Or.inl rfl) s₁ B (by simpa [copyLocs] using X0) ⟨hB0.1, fun _ _ => rfl, rfl⟩ (Laid.zero _ _ _) c2
  have c11 : Steps p.tables e below (s₁.setTop (entryFrame m #[.ref b, .int (Int32.ofNat o), .ref d, .int (Int32.ofNat q), .int (Int32.ofNat len)] 7)) (T9.setTop (mkF m 46 #[.val (.ref b), .val (.int (Int32.ofNat (o + len))), .val (.ref d), .val (.int (Int32.ofNat (q + len))), .val (.int (Int32.ofNat len)), .val (.int (Int32.ofNat len)), z9] [.int (Int32.ofNat len)])) := g9.trans (by
    refine XS.iload X9.here hexec rfl (hb hbytes d3) rfl ?_
    refine XS.iload X9.here hexec rfl (hb hbytes d5) rfl ?_
    refine XS.icmpYes X9.here hexec rfl (pc0 := 7) rfl (hb hbytes d7) rfl (ii_ge_t (nlt32 (by omega) (Nat.le_refl _))) (by decide) rfl ?_
    refine XS.iload X9.here hexec rfl (hb hbytes d44) rfl ?_
    exact Steps.refl _)
  exact ⟨T9, some (.int (Int32.ofNat len)), _, _, _, X9, by simp, rfl, rfl, (fun h => by cases h), ⟨rfl, B9, p9.from hh0, f9⟩, fun fs hl => c11.trans (X9.ireturnOut hexec hret rfl (Or.inl rfl) (hb hbytes d46) hl)⟩
end Cmp5
namespace Cmp3
def yN : MethodName := ⟨"java/lang/StringUTF16", "compress", "([CII)[B"⟩
abbrev yB : ByteArray := jdk_52_method_16_code
theorem d0 : decode yB 0 = .ok (.iload_n 2, 1) := by decide +kernel
theorem d1 : decode yB 1 = .ok (.newarray .byte, 2) := by decide +kernel
theorem d3 : decode yB 3 = .ok (.astore_n 3, 1) := by decide +kernel
theorem d4 : decode yB 4 = .ok (.aload_n 0, 1) := by decide +kernel
theorem d5 : decode yB 5 = .ok (.iload_n 1, 1) := by decide +kernel
theorem d6 : decode yB 6 = .ok (.aload_n 3, 1) := by decide +kernel
theorem d7 : decode yB 7 = .ok (.iconst 0, 1) := by decide +kernel
theorem d8 : decode yB 8 = .ok (.iload_n 2, 1) := by decide +kernel
theorem d9 : decode yB 9 = .ok (.invokestatic 115, 3) := by decide +kernel
theorem d12 : decode yB 12 = .ok (.istore 4, 2) := by decide +kernel
theorem d14 : decode yB 14 = .ok (.iload 4, 2) := by decide +kernel
theorem d16 : decode yB 16 = .ok (.iload_n 2, 1) := by decide +kernel
theorem d17 : decode yB 17 = .ok (.if_icmp (.eq) 40, 3) := by decide +kernel
theorem d57 : decode yB 57 = .ok (.aload_n 3, 1) := by decide +kernel
theorem d58 : decode yB 58 = .ok (.areturn, 1) := by decide +kernel
def site : List Cond := [.arrayClass .byte, Cmp5.tab] ++ staticW U16 115 Cmp5.yN
def tab : Cond := tabOf yN yB 6 (some (.array .byte)) site
def P (b : Addr) (A : Cell) (o len : Nat) (args : Array Value) (s : State) : Prop := args = #[.ref b, .int (Int32.ofNat o), .int (Int32.ofNat len)] ∧ Ch b A s ∧ o + len ≤ A.slots.size ∧ len ≤ 536870912 ∧ ∀ i, i < len → ¬ 255 < cv A (o + i)
def E (b : Addr) (A : Cell) (o len : Nat) (r : Option Value) (s u : State) : Prop := NewArr .byte "[B" len (fun j => .int (lo8 (cv A (o + j)))) r s u ∧ u.heap.size = s.heap.size + 1
/-- no char of the range above 255: a new byte[] of their low bytes -/
theorem law (l : Launch) (b : Addr) (A : Cell) (o len : Nat) : Law l yN 3 3 1 18 yB 6 (some (.array .byte)) site (P b A o len) (E b A o len) [] 1 len := by
  refine Law.of_walk (plainFor_of_name (by decide +kernel)) (by decide +kernel) (by decide +kernel) (by decide) (fun _ _ h => by rw [h.1]; rfl) (fun _ U U' hal hh h => ⟨h.1, h.2.1.mv hal hh, h.2.2⟩) (fun r U U' V V' h1 hal h2 h => ⟨NewArr.mv r U U' V V' h1 hal h2 h.1, by rw [h1, h2]; exact h.2⟩) ?_
  intro p e s m args below meth c s₁ X0 hexec hbytes hml hret hlk hnm hown hh0 W hP
  obtain ⟨rfl, hA, l1, l2, hp⟩ := hP
  have a31 := hA.1.2.2.2
  have c1 : Steps p.tables e below (s₁.setTop (entryFrame m #[.ref b, .int (Int32.ofNat o), .int (Int32.ofNat len)] 6)) (s₁.setTop (mkF m 0 #[.val (.ref b), .val (.int (Int32.ofNat o)), .val (.int (Int32.ofNat len)), .unset, .unset, .unset] [])) := entry rfl
  have c2 : Steps p.tables e below (s₁.setTop (entryFrame m #[.ref b, .int (Int32.ofNat o), .int (Int32.ofNat len)] 6)) (s₁.setTop (mkF m 1 #[.val (.ref b), .val (.int (Int32.ofNat o)), .val (.int (Int32.ofNat len)), .unset, .unset, .unset] [.int (Int32.ofNat len)])) := c1.trans (by
    refine XS.iloadN X0.here hexec rfl (hb hbytes d0) rfl ?_
    exact Steps.refl _)
  obtain ⟨T3, B3, X3, ba3, bs3, bv3, bh3, bf3, st3⟩ := X0.anew hexec (atype := .byte) (wk W (.arrayClass .byte)) rfl (by show len * 1 ≤ _; omega) (by omega) (g := (mkF m 1 #[.val (.ref b), .val (.int (Int32.ofNat o)), .val (.int (Int32.ofNat len)), .unset, .unset, .unset] [.int (Int32.ofNat len)])) rfl (hb hbytes d1) (rest := []) rfl (Nat.le_refl _) (by show 0 + len ≤ len; omega)
  rw [hh0] at ba3 st3
  have kp3 : XT.Kept s T3 := (XT.Kept.of_eq hh0).push bh3
  have hA3 := hA.keep X3.warmed.alike (kp3 _ _ hA.1.1)
  have hne : b ≠ s.heap.size := hA.1.ne
  have c4 : Steps p.tables e below (s₁.setTop (entryFrame m #[.ref b, .int (Int32.ofNat o), .int (Int32.ofNat len)] 6)) (T3.setTop (mkF m 3 #[.val (.ref b), .val (.int (Int32.ofNat o)), .val (.int (Int32.ofNat len)), .unset, .unset, .unset] [.ref s.heap.size])) := c2.trans (st3 _ (Steps.refl _))
  have c5 : Steps p.tables e below (s₁.setTop (entryFrame m #[.ref b, .int (Int32.ofNat o), .int (Int32.ofNat len)] 6)) (T3.setTop (mkF m 9 #[.val (.ref b), .val (.int (Int32.ofNat o)), .val (.int (Int32.ofNat len)), .val (.ref s.heap.size), .unset, .unset] [.int (Int32.ofNat len), .int 0, .ref s.heap.size, .int (Int32.ofNat o), .ref b])) := c4.trans (by
    refine XS.astoreN X3.here hexec rfl (hb hbytes d3) rfl rfl rfl ?_
    refine XS.aloadN X3.here hexec rfl (hb hbytes d4) rfl rfl ?_
    refine XS.iloadN X3.here hexec rfl (hb hbytes d5) rfl ?_
    refine XS.aloadN X3.here hexec rfl (hb hbytes d6) rfl rfl ?_
    refine iconstV X3.here hexec rfl 0 (hb hbytes d7) (by decide) ?_
    refine XS.iloadN X3.here hexec rfl (hb hbytes d8) rfl ?_
    exact Steps.refl _)
  obtain ⟨v6, T6, X6, E6, g6⟩ := X3.callS hexec (Cmp5.law l b A s.heap.size B3 o 0 len) hown (wks W (staticW U16 115 Cmp5.yN)) (wk W Cmp5.tab) (W := 0) (Nat.le_of_ble_eq_true rfl) (Nat.le_of_ble_eq_true rfl) (Nat.le_refl _) (by show 0 + len + 0 ≤ len; omega) (g := (mkF m 9 #[.val (.ref b), .val (.int (Int32.ofNat o)), .val (.int (Int32.ofNat len)), .val (.ref s.heap.size), .unset, .unset] [.int (Int32.ofNat len), .int (Int32.ofNat 0), .ref s.heap.size, .int (Int32.ofNat o), .ref b])) rfl (by rw [hml]; rfl) c5 (argsL := [.ref b, .int (Int32.ofNat o), .ref s.heap.size, .int (Int32.ofNat 0), .int (Int32.ofNat len)]) (rest := []) rfl rfl (by show 2 * 0 + 0 ≤ _; decide) (hb hbytes d9) (⟨rfl, hA3, ba3, hne, l1, by rw [bs3]; simp, hp⟩)
  obtain ⟨rfl, B6, p6, f6⟩ := E6
  have c7 : Steps p.tables e below (s₁.setTop (entryFrame m #[.ref b, .int (Int32.ofNat o), .int (Int32.ofNat len)] 6)) (T6.setTop (mkF m 12 #[.val (.ref b), .val (.int (Int32.ofNat o)), .val (.int (Int32.ofNat len)), .val (.ref s.heap.size), .unset, .unset] [.int (Int32.ofNat len)])) := g6
  have c8 : Steps p.tables e below (s₁.setTop (entryFrame m #[.ref b, .int (Int32.ofNat o), .int (Int32.ofNat len)] 6)) (T6.setTop (mkF m 58 #[.val (.ref b), .val (.int (Int32.ofNat o)), .val (.int (Int32.ofNat len)), .val (.ref s.heap.size), .val (.int (Int32.ofNat len)), .unset] [.ref s.heap.size])) := c7.trans (by
    refine XS.istore X6.here hexec rfl (hb hbytes d12) rfl rfl ?_
    refine XS.iload X6.here hexec rfl (hb hbytes d14) rfl ?_
    refine XS.iloadN X6.here hexec rfl (hb hbytes d16) rfl ?_
    refine XS.icmpYes X6.here hexec rfl (pc0 := 17) rfl (hb hbytes d17) rfl (ii_eq_t rfl) (by decide) rfl ?_
    refine XS.aloadN X6.here hexec rfl (hb hbytes d57) rfl rfl ?_
    exact Steps.refl _)
  have X8 := X6.wide (L' := []) (cells' := 1) (slots' := len) (fun x hx hlt => by
    simp only [List.nil_append, copyLocs, List.mem_map, List.mem_range] at hx
    obtain ⟨i, -, rfl⟩ := hx
    exact absurd hlt (Nat.lt_irrefl _)) (Nat.le_refl _) (by omega)
  exact ⟨T6, some (.ref s.heap.size), _, _, _, X8, rfl, rfl, rfl, (fun h => by cases h), ⟨⟨rfl, B6, ba3.like (X3.warmed.alike.symm.trans X6.warmed.alike) p6.1 f6.1 f6.2.1 f6.2.2.1, f6.2.1.trans bv3, by rw [X6.warmed.alike.findClass, f6.1]; exact bf3, by rw [f6.2.2.1, bs3]; simp, fun j hj => by rw [f6.2.2.2 j, if_pos (by omega)]; rfl, kp3.put p6 (Nat.le_refl _)⟩, by rw [p6.2.2, bh3, hh0]; simp⟩, fun fs hl => c8.trans (X8.areturnOut hexec rfl hret rfl (hb hbytes d58) hl)⟩
end Cmp3
namespace CodL
def yN : MethodName := ⟨"java/lang/StringUTF16", "coderFromArrayLen", "([BI)B"⟩
abbrev yB : ByteArray := jdk_52_method_15_code
theorem d0 : decode yB 0 = .ok (.iload_n 1, 1) := by decide +kernel
theorem d1 : decode yB 1 = .ok (.aload_n 0, 1) := by decide +kernel
theorem d2 : decode yB 2 = .ok (.arraylength, 1) := by decide +kernel
theorem d3 : decode yB 3 = .ok (.isub, 1) := by decide +kernel
theorem d4 : decode yB 4 = .ok (.bipush 31, 2) := by decide +kernel
theorem d6 : decode yB 6 = .ok (.iushr, 1) := by decide +kernel
theorem d7 : decode yB 7 = .ok (.i2b, 1) := by decide +kernel
theorem d8 : decode yB 8 = .ok (.ireturn, 1) := by decide +kernel
def site : List Cond := []
def tab : Cond := tabOf yN yB 2 (some .byte) site
def P (d : Addr) (B : Cell) (args : Array Value) (s : State) : Prop := args = #[.ref d, .int (Int32.ofNat B.slots.size)] ∧ Arr .byte d B s
def E (r : Option Value) (s u : State) : Prop := XT.PureE (some (.int 0)) r s u
/-- an array as long as the number of chars: LATIN1 -/
theorem law (l : Launch) (d : Addr) (B : Cell) : Law l yN 2 2 0 0 yB 2 (some .byte) site (P d B) E [] 0 0 := by
  refine Law.of_walk (plainFor_of_name (by decide +kernel)) (by decide +kernel) (by decide +kernel) (by decide) (fun _ _ h => by rw [h.1]; rfl) (fun _ U U' hal hh h => ⟨h.1, h.2.mv hal hh⟩) (fun r U U' V V' h1 hal h2 h => XT.PureE.mv r U U' V V' h1 hal h2 h) ?_
  intro p e s m args below meth c s₁ X0 hexec hbytes hml hret hlk hnm hown hh0 W hP
  obtain ⟨rfl, hB⟩ := hP
  have hB0 := hB.mv X0.warmed.alike hh0
  have c1 : Steps p.tables e below (s₁.setTop (entryFrame m #[.ref d, .int (Int32.ofNat B.slots.size)] 2)) (s₁.setTop (mkF m 0 #[.val (.ref d), .val (.int (Int32.ofNat B.slots.size))] [])) := entry rfl
  have c2 : Steps p.tables e below (s₁.setTop (entryFrame m #[.ref d, .int (Int32.ofNat B.slots.size)] 2)) (s₁.setTop (mkF m 2 #[.val (.ref d), .val (.int (Int32.ofNat B.slots.size))] [.ref d, .int (Int32.ofNat B.slots.size)])) := c1.trans (by
    refine XS.iloadN X0.here hexec rfl (hb hbytes d0) rfl ?_
    refine XS.aloadN X0.here hexec rfl (hb hbytes d1) rfl rfl ?_
    exact Steps.refl _)
  have c3 : Steps p.tables e below (s₁.setTop (entryFrame m #[.ref d, .int (Int32.ofNat B.slots.size)] 2)) (s₁.setTop (mkF m 8 #[.val (.ref d), .val (.int (Int32.ofNat B.slots.size))] [.int (lo8 (ushr (Int32.ofNat B.slots.size - Int32.ofNat B.slots.size) 31))])) := c2.trans (by
    refine X0.alen hexec hB0 rfl rfl (hb hbytes d2) ?_
    refine XS.isub X0.here hexec rfl (hb hbytes d3) rfl ?_
    refine bipushV X0.here hexec rfl 31 (hb hbytes d4) (by decide) ?_
    refine iushr X0.here hexec rfl (hb hbytes d6) rfl ?_
    refine i2b X0.here hexec rfl (hb hbytes d7) rfl ?_
    exact Steps.refl _)
  have e0 : lo8 (ushr (Int32.ofNat B.slots.size - Int32.ofNat B.slots.size) 31) = 0 := by rw [Int32.sub_self]; decide
  rw [e0] at c3
  exact ⟨s₁, some (.int 0), _, _, _, X0, rfl, rfl, rfl, (fun h => by cases h), ⟨rfl, hh0⟩, fun fs hl => c3.trans (X0.ireturnOut hexec hret rfl (Or.inr (Or.inr (Or.inl rfl))) (hb hbytes d8) hl)⟩
end CodL
/-- the String at a is Latin-1 over a new byte[] (the heap's one new cell): the low bytes of the len chars of A from o on; every cell but a is kept -/
def Got (a : Addr) (D : Cell) (fV fC : Field) (A : Cell) (o len : Nat) (r : Option Value) (s u : State) : Prop := r = none ∧ ∃ D' V : Cell, Blank "java/lang/String" a D' u ∧ Same D D' [fV.slot, fC.slot] ∧ D'.slots[fV.slot]? = some (.ref s.heap.size) ∧ D'.slots[fC.slot]? = some (.int 0) ∧ Arr .byte s.heap.size V u ∧ V.vm = .none ∧ u.vm.findClass "[B" = some V.cls ∧ V.slots.size = len ∧ (∀ j, j < len → V.slots[j]? = some (.int (lo8 (cv A (o + j))))) ∧ (∀ (y : Addr) (c : Cell), y ≠ a → s.heap[y]? = some c → u.heap[y]? = some c) ∧ u.heap.size = s.heap.size + 1
theorem Got.mv {a : Addr} {D A : Cell} {fV fC : Field} {o len : Nat} : ∀ r (U U' V V' : State), U'.heap = U.heap → V.vm.Alike V'.vm → V'.heap = V.heap → Got a D fV fC A o len r U V → Got a D fV fC A o len r U' V' :=
  fun r U U' V V' h1 hal h2 ⟨e0, D', X, a1, a2, a3, a4, a5, a6, a7, a8, a9, a10, a11⟩ => ⟨e0, D', X, a1.mv hal h2, a2, by rw [h1]; exact a3, a4, by rw [h1]; exact a5.mv hal h2, a6, by rw [hal.findClass]; exact a7, a8, a9, by rw [h1, h2]; exact a10, by rw [h1, h2]; exact a11⟩
namespace New4
def yN : MethodName := ⟨"java/lang/String", "<init>", "([CIILjava/lang/Void;)V"⟩
abbrev yB : ByteArray := jdk_42_method_149_code
theorem d0 : decode yB 0 = .ok (.aload_n 0, 1) := by decide +kernel
theorem d1 : decode yB 1 = .ok (.invokespecial 1, 3) := by decide +kernel
theorem d4 : decode yB 4 = .ok (.iload_n 3, 1) := by decide +kernel
theorem d5 : decode yB 5 = .ok (.ifCond (.ne) 22, 3) := by decide +kernel
theorem d27 : decode yB 27 = .ok (.getstatic 38, 3) := by decide +kernel
theorem d30 : decode yB 30 = .ok (.ifCond (.eq) 28, 3) := by decide +kernel
theorem d33 : decode yB 33 = .ok (.aload_n 1, 1) := by decide +kernel
theorem d34 : decode yB 34 = .ok (.iload_n 2, 1) := by decide +kernel
theorem d35 : decode yB 35 = .ok (.iload_n 3, 1) := by decide +kernel
theorem d36 : decode yB 36 = .ok (.invokestatic 177, 3) := by decide +kernel
theorem d39 : decode yB 39 = .ok (.astore 5, 2) := by decide +kernel
theorem d41 : decode yB 41 = .ok (.aload_n 0, 1) := by decide +kernel
theorem d42 : decode yB 42 = .ok (.aload 5, 2) := by decide +kernel
theorem d44 : decode yB 44 = .ok (.iload_n 3, 1) := by decide +kernel
theorem d45 : decode yB 45 = .ok (.invokestatic 47, 3) := by decide +kernel
theorem d48 : decode yB 48 = .ok (.putfield 15, 3) := by decide +kernel
theorem d51 : decode yB 51 = .ok (.aload_n 0, 1) := by decide +kernel
theorem d52 : decode yB 52 = .ok (.aload 5, 2) := by decide +kernel
theorem d54 : decode yB 54 = .ok (.putfield 9, 3) := by decide +kernel
theorem d57 : decode yB 57 = .ok (.return_, 1) := by decide +kernel
def site : List Cond := [.fieldLink "java/lang/String" 38 "java/lang/String" "COMPACT_STRINGS" "Z", Cmp3.tab, CodL.tab, .laysFinal "java/lang/String" "java/lang/String" "value" "[B", .fieldLink "java/lang/String" 9 "java/lang/String" "value" "[B", .laysFinal "java/lang/String" "java/lang/String" "coder" "B", .fieldLink "java/lang/String" 15 "java/lang/String" "coder" "B"] ++ objW "java/lang/String" 1 ++ staticW "java/lang/String" 177 Cmp3.yN ++ staticW "java/lang/String" 47 CodL.yN
def tab : Cond := tabOf yN yB 6 none site
def P (a : Addr) (D : Cell) (fV fC : Field) (b : Addr) (A : Cell) (z : Int32) (o len : Nat) (args : Array Value) (s : State) : Prop := args = #[.ref a, .ref b, .int (Int32.ofNat o), .int (Int32.ofNat len), .null] ∧ Blank "java/lang/String" a D s ∧ Found "java/lang/String" "value" "[B" fV s ∧ Found "java/lang/String" "coder" "B" fC s ∧ Ch b A s ∧ StaticIs s "java/lang/String" "COMPACT_STRINGS" "Z" (.int z) ∧ ¬ z = 0 ∧ 0 < len ∧ o + len ≤ A.slots.size ∧ len ≤ 536870912 ∧ ∀ i, i < len → ¬ 255 < cv A (o + i)
def E (a : Addr) (D : Cell) (fV fC : Field) (A : Cell) (o len : Nat) (r : Option Value) (s u : State) : Prop := Got a D fV fC A o len r s u
/-- len > 0, no char of the range above 255: a Latin-1 String of their low bytes -/
theorem law (l : Launch) (a : Addr) (D : Cell) (fV fC : Field) (b : Addr) (A : Cell) (z : Int32) (o len : Nat) : Law l yN 5 4 2 35 yB 6 none site (P a D fV fC b A z o len) (E a D fV fC A o len) [⟨a, fC.slot⟩, ⟨a, fV.slot⟩] 1 len := by
  refine Law.of_walk (plainFor_of_name (by decide +kernel)) (by decide +kernel) (by decide +kernel) (by decide) (fun _ _ h => by rw [h.1]; rfl) (fun _ U U' hal hh h => ⟨h.1, h.2.1.mv hal hh, h.2.2.1.al hal, h.2.2.2.1.al hal, h.2.2.2.2.1.mv hal hh, h.2.2.2.2.2.1.there hal hh, h.2.2.2.2.2.2⟩) (fun r U U' V V' h1 hal h2 h => Got.mv r U U' V V' h1 hal h2 h) ?_
  intro p e s m args below meth c s₁ X0 hexec hbytes hml hret hlk hnm hown hh0 W hP
  obtain ⟨rfl, hB, f1, f2, hA, s1, hz, l0, l1, l2, hp⟩ := hP
  have a31 := hA.1.2.2.2
  have c1 : Steps p.tables e below (s₁.setTop (entryFrame m #[.ref a, .ref b, .int (Int32.ofNat o), .int (Int32.ofNat len), .null] 6)) (s₁.setTop (mkF m 0 #[.val (.ref a), .val (.ref b), .val (.int (Int32.ofNat o)), .val (.int (Int32.ofNat len)), .val .null, .unset] [])) := entry rfl
  have c2 : Steps p.tables e below (s₁.setTop (entryFrame m #[.ref a, .ref b, .int (Int32.ofNat o), .int (Int32.ofNat len), .null] 6)) (s₁.setTop (mkF m 1 #[.val (.ref a), .val (.ref b), .val (.int (Int32.ofNat o)), .val (.int (Int32.ofNat len)), .val .null, .unset] [.ref a])) := c1.trans (by
    refine XS.aloadN X0.here hexec rfl (hb hbytes d0) rfl rfl ?_
    exact Steps.refl _)
  obtain ⟨T3, X3, q3, st3⟩ := X0.oinit hexec hown (wks W (objW "java/lang/String" 1)) (g := (mkF m 1 #[.val (.ref a), .val (.ref b), .val (.int (Int32.ofNat o)), .val (.int (Int32.ofNat len)), .val .null, .unset] [.ref a])) rfl (by rw [hml]; rfl) (rest := []) rfl (hb hbytes d1) (W := 0) (by show 2 * 0 + 0 ≤ _; decide) (Nat.le_of_ble_eq_true rfl) (Nat.le_of_ble_eq_true rfl)
  have hh3 := q3.trans hh0
  have c4 : Steps p.tables e below (s₁.setTop (entryFrame m #[.ref a, .ref b, .int (Int32.ofNat o), .int (Int32.ofNat len), .null] 6)) (T3.setTop (mkF m 27 #[.val (.ref a), .val (.ref b), .val (.int (Int32.ofNat o)), .val (.int (Int32.ofNat len)), .val .null, .unset] [])) := (c2.trans (st3 _ (Steps.refl _))).trans (by
    refine XS.iloadN X3.here hexec rfl (hb hbytes d4) rfl ?_
    refine XS.ifYes X3.here hexec rfl (pc0 := 5) rfl (hb hbytes d5) rfl (i0_ne_t (nz32 (by omega) l0)) (by decide) rfl ?_
    exact Steps.refl _)
  obtain ⟨T5, X5, q5, st5⟩ := X3.sget hexec hown (wk W (.fieldLink "java/lang/String" 38 "java/lang/String" "COMPACT_STRINGS" "Z")) s1 (fun _ _ h => by rw [hh3]; exact h) (g := (mkF m 27 #[.val (.ref a), .val (.ref b), .val (.int (Int32.ofNat o)), .val (.int (Int32.ofNat len)), .val .null, .unset] [])) rfl (hb hbytes d27)
  have hh5 := q5.trans hh3
  have c6 : Steps p.tables e below (s₁.setTop (entryFrame m #[.ref a, .ref b, .int (Int32.ofNat o), .int (Int32.ofNat len), .null] 6)) (T5.setTop (mkF m 30 #[.val (.ref a), .val (.ref b), .val (.int (Int32.ofNat o)), .val (.int (Int32.ofNat len)), .val .null, .unset] [.int z])) := c4.trans (st5 _ (Steps.refl _))
  have c7 : Steps p.tables e below (s₁.setTop (entryFrame m #[.ref a, .ref b, .int (Int32.ofNat o), .int (Int32.ofNat len), .null] 6)) (T5.setTop (mkF m 36 #[.val (.ref a), .val (.ref b), .val (.int (Int32.ofNat o)), .val (.int (Int32.ofNat len)), .val .null, .unset] [.int (Int32.ofNat len), .int (Int32.ofNat o), .ref b])) := c6.trans (by
    refine XS.ifNo X5.here hexec rfl (hb hbytes d30) rfl (i0_eq_f hz) ?_
    refine XS.aloadN X5.here hexec rfl (hb hbytes d33) rfl rfl ?_
    refine XS.iloadN X5.here hexec rfl (hb hbytes d34) rfl ?_
    refine XS.iloadN X5.here hexec rfl (hb hbytes d35) rfl ?_
    exact Steps.refl _)
  obtain ⟨v8, T8, X8, E8, g8⟩ := X5.callS hexec (Cmp3.law l b A o len) hown (wks W (staticW "java/lang/String" 177 Cmp3.yN)) (wk W Cmp3.tab) (W := 0) (Nat.le_of_ble_eq_true rfl) (Nat.le_of_ble_eq_true rfl) (Nat.le_refl _) (by show 0 + len ≤ len; omega) (g := (mkF m 36 #[.val (.ref a), .val (.ref b), .val (.int (Int32.ofNat o)), .val (.int (Int32.ofNat len)), .val .null, .unset] [.int (Int32.ofNat len), .int (Int32.ofNat o), .ref b])) rfl (by rw [hml]; rfl) c7 (argsL := [.ref b, .int (Int32.ofNat o), .int (Int32.ofNat len)]) (rest := []) rfl rfl (by show 2 * 0 + 0 ≤ _; decide) (hb hbytes d36) (⟨rfl, hA.mv X5.warmed.alike hh5, l1, l2, hp⟩)
  obtain ⟨e8, z8⟩ := E8
  obtain ⟨rfl, N, n1, n2, n3, n4, n5, n6⟩ := NewArr.mv _ T5 s _ _ hh5.symm (Vm.Alike.refl _) rfl e8
  rw [hh5] at z8
  have hB1 := hB.keep X8.warmed.alike (n6 _ _ hB.1)
  have hne : s.heap.size ≠ a := (Nat.ne_of_lt (Array.getElem?_eq_some_iff.mp hB.1).1).symm
  have c9 : Steps p.tables e below (s₁.setTop (entryFrame m #[.ref a, .ref b, .int (Int32.ofNat o), .int (Int32.ofNat len), .null] 6)) (T8.setTop (mkF m 39 #[.val (.ref a), .val (.ref b), .val (.int (Int32.ofNat o)), .val (.int (Int32.ofNat len)), .val .null, .unset] [.ref s.heap.size])) := g8
  have c10 : Steps p.tables e below (s₁.setTop (entryFrame m #[.ref a, .ref b, .int (Int32.ofNat o), .int (Int32.ofNat len), .null] 6)) (T8.setTop (mkF m 45 #[.val (.ref a), .val (.ref b), .val (.int (Int32.ofNat o)), .val (.int (Int32.ofNat len)), .val .null, .val (.ref s.heap.size)] [.int (Int32.ofNat N.slots.size), .ref s.heap.size, .ref a])) := by
    have hc : Steps p.tables e below (s₁.setTop (entryFrame m #[.ref a, .ref b, .int (Int32.ofNat o), .int (Int32.ofNat len), .null] 6)) (T8.setTop (mkF m 45 #[.val (.ref a), .val (.ref b), .val (.int (Int32.ofNat o)), .val (.int (Int32.ofNat len)), .val .null, .val (.ref s.heap.size)] [.int (Int32.ofNat len), .ref s.heap.size, .ref a])) := c9.trans (by
      refine XS.astore X8.here hexec rfl (hb hbytes d39) rfl rfl rfl ?_
      refine XS.aloadN X8.here hexec rfl (hb hbytes d41) rfl rfl ?_
      refine XS.aload X8.here hexec rfl (hb hbytes d42) rfl rfl ?_
      refine XS.iloadN X8.here hexec rfl (hb hbytes d44) rfl ?_
      exact Steps.refl _)
    rw [n4]; exact hc
  obtain ⟨v11, T11, X11, E11, g11⟩ := X8.callS hexec (CodL.law l s.heap.size N) hown (wks W (staticW "java/lang/String" 47 CodL.yN)) (wk W CodL.tab) (W := 1) (Nat.le_of_ble_eq_true rfl) (Nat.le_of_ble_eq_true rfl) (Nat.le_refl _) (by show 0 + len + 0 ≤ len; omega) (g := (mkF m 45 #[.val (.ref a), .val (.ref b), .val (.int (Int32.ofNat o)), .val (.int (Int32.ofNat len)), .val .null, .val (.ref s.heap.size)] [.int (Int32.ofNat N.slots.size), .ref s.heap.size, .ref a])) rfl (by rw [hml]; rfl) c10 (argsL := [.ref s.heap.size, .int (Int32.ofNat N.slots.size)]) (rest := [.ref a]) rfl rfl (by show 2 * 0 + (1 + 0) ≤ _; decide) (hb hbytes d45) (⟨rfl, n1⟩)
  obtain ⟨rfl, q11⟩ := E11
  have hB11 := hB1.mv (X8.warmed.alike.symm.trans X11.warmed.alike) q11
  have c12 : Steps p.tables e below (s₁.setTop (entryFrame m #[.ref a, .ref b, .int (Int32.ofNat o), .int (Int32.ofNat len), .null] 6)) (T11.setTop (mkF m 48 #[.val (.ref a), .val (.ref b), .val (.int (Int32.ofNat o)), .val (.int (Int32.ofNat len)), .val .null, .val (.ref s.heap.size)] [.int 0, .ref a])) := g11
  obtain ⟨T13, X13, p13, bl13, sl13, st13⟩ := X11.finit hexec hown (wk W (.fieldLink "java/lang/String" 15 "java/lang/String" "coder" "B")) (Or.inr ⟨_, (wk W (.laysFinal "java/lang/String" "java/lang/String" "coder" "B"))⟩) (Or.inl ⟨rfl, hnm⟩) f2 (Or.inl rfl) hB11 (t := .byte) (by decide +kernel) rfl (g := (mkF m 48 #[.val (.ref a), .val (.ref b), .val (.int (Int32.ofNat o)), .val (.int (Int32.ofNat len)), .val .null, .val (.ref s.heap.size)] [.int 0, .ref a])) rfl (rest := []) rfl (hb hbytes d48)
  have c14 : Steps p.tables e below (s₁.setTop (entryFrame m #[.ref a, .ref b, .int (Int32.ofNat o), .int (Int32.ofNat len), .null] 6)) (T13.setTop (mkF m 54 #[.val (.ref a), .val (.ref b), .val (.int (Int32.ofNat o)), .val (.int (Int32.ofNat len)), .val .null, .val (.ref s.heap.size)] [.ref s.heap.size, .ref a])) := (c12.trans (st13 _ (Steps.refl _))).trans (by
    refine XS.aloadN X13.here hexec rfl (hb hbytes d51) rfl rfl ?_
    refine XS.aload X13.here hexec rfl (hb hbytes d52) rfl rfl ?_
    exact Steps.refl _)
  obtain ⟨T15, X15, p15, bl15, sl15, st15⟩ := X13.finit hexec hown (wk W (.fieldLink "java/lang/String" 9 "java/lang/String" "value" "[B")) (Or.inr ⟨_, (wk W (.laysFinal "java/lang/String" "java/lang/String" "value" "[B"))⟩) (Or.inl ⟨rfl, hnm⟩) f1 (Or.inl rfl) bl13 (t := (.array .byte)) (by decide +kernel) rfl (g := (mkF m 54 #[.val (.ref a), .val (.ref b), .val (.int (Int32.ofNat o)), .val (.int (Int32.ofNat len)), .val .null, .val (.ref s.heap.size)] [.ref s.heap.size, .ref a])) rfl (rest := []) rfl (hb hbytes d54)
  have c16 : Steps p.tables e below (s₁.setTop (entryFrame m #[.ref a, .ref b, .int (Int32.ofNat o), .int (Int32.ofNat len), .null] 6)) (T15.setTop (mkF m 57 #[.val (.ref a), .val (.ref b), .val (.int (Int32.ofNat o)), .val (.int (Int32.ofNat len)), .val .null, .val (.ref s.heap.size)] [])) := c14.trans (st15 _ (Steps.refl _))
  have ap := apart (Or.inr ⟨_, (wk W (.laysFinal "java/lang/String" "java/lang/String" "value" "[B"))⟩) (Or.inr ⟨_, (wk W (.laysFinal "java/lang/String" "java/lang/String" "coder" "B"))⟩) f1 f2 (t₁ := .array .byte) (t₂ := .byte) (by decide +kernel) (by decide +kernel) (by decide)
  have al := X8.warmed.alike.symm.trans X15.warmed.alike
  have n7 : T11.heap[s.heap.size]? = some N := by rw [q11]; exact n1.1
  exact ⟨T15, none, _, _, _, X15, by simp, rfl, by omega, (fun _ => rfl), ⟨rfl, _, N, bl15, ((Same.refl D _).set _ (by simp)).set _ (by simp), sl15, (Cell.slots_setSlot_ne _ ap).trans sl13, n1.keep al (p15.other hne (p13.other hne n7)), n2, by rw [al.findClass]; exact n3, n4, n5, fun y c h1 h2 => p15.other h1 (p13.other h1 (by rw [q11]; exact n6 y c h2)), by rw [p15.2.2, p13.2.2, q11]; exact z8⟩, fun fs hl => c16.trans (X15.returnOut hexec hret (hb hbytes d57) hl)⟩
end New4
namespace New1
def yN : MethodName := ⟨"java/lang/String", "<init>", "([C)V"⟩
abbrev yB : ByteArray := jdk_42_method_3_code
theorem d0 : decode yB 0 = .ok (.aload_n 0, 1) := by decide +kernel
theorem d1 : decode yB 1 = .ok (.aload_n 1, 1) := by decide +kernel
theorem d2 : decode yB 2 = .ok (.iconst 0, 1) := by decide +kernel
theorem d3 : decode yB 3 = .ok (.aload_n 1, 1) := by decide +kernel
theorem d4 : decode yB 4 = .ok (.arraylength, 1) := by decide +kernel
theorem d5 : decode yB 5 = .ok (.aconst_null, 1) := by decide +kernel
theorem d6 : decode yB 6 = .ok (.invokespecial 27, 3) := by decide +kernel
theorem d9 : decode yB 9 = .ok (.return_, 1) := by decide +kernel
def site : List Cond := [New4.tab] ++ initW "java/lang/String" 27 New4.yN
def tab : Cond := tabOf yN yB 2 none site
def P (a : Addr) (D : Cell) (fV fC : Field) (b : Addr) (A : Cell) (z : Int32) (args : Array Value) (s : State) : Prop := args = #[.ref a, .ref b] ∧ Blank "java/lang/String" a D s ∧ Found "java/lang/String" "value" "[B" fV s ∧ Found "java/lang/String" "coder" "B" fC s ∧ Ch b A s ∧ StaticIs s "java/lang/String" "COMPACT_STRINGS" "Z" (.int z) ∧ ¬ z = 0 ∧ 0 < A.slots.size ∧ A.slots.size ≤ 536870912 ∧ ∀ i, i < A.slots.size → ¬ 255 < cv A i
def E (a : Addr) (D : Cell) (fV fC : Field) (A : Cell) (r : Option Value) (s u : State) : Prop := Got a D fV fC A 0 A.slots.size r s u
/-- new String(chars), not empty, no char above 255: a Latin-1 String of their low bytes -/
theorem law (l : Launch) (a : Addr) (D : Cell) (fV fC : Field) (b : Addr) (A : Cell) (z : Int32) : Law l yN 2 1 3 52 yB 2 none site (P a D fV fC b A z) (E a D fV fC A) [⟨a, fC.slot⟩, ⟨a, fV.slot⟩] 1 A.slots.size := by
  refine Law.of_walk (plainFor_of_name (by decide +kernel)) (by decide +kernel) (by decide +kernel) (by decide) (fun _ _ h => by rw [h.1]; rfl) (fun _ U U' hal hh h => ⟨h.1, h.2.1.mv hal hh, h.2.2.1.al hal, h.2.2.2.1.al hal, h.2.2.2.2.1.mv hal hh, h.2.2.2.2.2.1.there hal hh, h.2.2.2.2.2.2⟩) (fun r U U' V V' h1 hal h2 h => Got.mv r U U' V V' h1 hal h2 h) ?_
  intro p e s m args below meth c s₁ X0 hexec hbytes hml hret hlk hnm hown hh0 W hP
  obtain ⟨rfl, hB, f1, f2, hA, s1, hz, l0, l2, hp⟩ := hP
  have c1 : Steps p.tables e below (s₁.setTop (entryFrame m #[.ref a, .ref b] 2)) (s₁.setTop (mkF m 0 #[.val (.ref a), .val (.ref b)] [])) := entry rfl
  have c2 : Steps p.tables e below (s₁.setTop (entryFrame m #[.ref a, .ref b] 2)) (s₁.setTop (mkF m 6 #[.val (.ref a), .val (.ref b)] [.null, .int (Int32.ofNat A.slots.size), .int 0, .ref b, .ref a])) := c1.trans (by
    refine XS.aloadN X0.here hexec rfl (hb hbytes d0) rfl rfl ?_
    refine XS.aloadN X0.here hexec rfl (hb hbytes d1) rfl rfl ?_
    refine iconstV X0.here hexec rfl 0 (hb hbytes d2) (by decide) ?_
    refine XS.aloadN X0.here hexec rfl (hb hbytes d3) rfl rfl ?_
    refine X0.alen hexec (hA.1.mv X0.warmed.alike hh0) rfl rfl (hb hbytes d4) ?_
    refine XS.aconstNull X0.here hexec rfl (hb hbytes d5) ?_
    exact Steps.refl _)
  obtain ⟨v3, T3, X3, E3, g3⟩ := X0.callN hexec (New4.law l a D fV fC b A z 0 A.slots.size) rfl hown (wks W (initW "java/lang/String" 27 New4.yN)) (W New4.tab (by simp only [site, List.mem_cons, List.mem_append, true_or, or_true])) (W := 0) (Nat.le_of_ble_eq_true rfl) (Nat.le_of_ble_eq_true rfl) (Nat.le_refl _) (by show 0 + A.slots.size ≤ A.slots.size; omega) (g := (mkF m 6 #[.val (.ref a), .val (.ref b)] [.null, .int (Int32.ofNat A.slots.size), .int (Int32.ofNat 0), .ref b, .ref a])) rfl (by rw [hml]; rfl) c2 (argsL := [.ref b, .int (Int32.ofNat 0), .int (Int32.ofNat A.slots.size), .null]) (rest := []) rfl rfl (by show 2 * 0 + 0 ≤ _; decide) (hb hbytes d6) (⟨rfl, hB.mv X0.warmed.alike hh0, f1.al X0.warmed.alike, f2.al X0.warmed.alike, hA.mv X0.warmed.alike hh0, s1.there X0.warmed.alike hh0, hz, l0, by omega, l2, fun i hi => by rw [Nat.zero_add]; exact hp i hi⟩)
  have e0 := Got.mv _ s₁ s _ _ hh0.symm (Vm.Alike.refl _) rfl E3
  obtain rfl := e0.1
  have c4 : Steps p.tables e below (s₁.setTop (entryFrame m #[.ref a, .ref b] 2)) (T3.setTop (mkF m 9 #[.val (.ref a), .val (.ref b)] [])) := g3
  exact ⟨T3, none, _, _, _, X3, by simp, rfl, by omega, (fun _ => rfl), e0, fun fs hl => c4.trans (X3.returnOut hexec hret (hb hbytes d9) hl)⟩
theorem pays {l : Launch} {R : Room} {p : Program} {e : Env} {below : List Frame} {s : State} {sargs : Array Value} {len W : Nat} (a : Addr) (D : Cell) (fV fC : Field) (b : Addr) (A : Cell) (z : Int32) (htab : tab.before sargs s = true) (hfr : 4 ≤ R.frames) (hlo : W + 65 ≤ R.locals) :
    Back l R p e below s sargs yN len W (fun A₁ a₁ => A₁.cells + 1 ≤ R.cells ∧ A₁.slots + A.slots.size ≤ R.slots ∧ P a D fV fC b A z a₁ A₁.U) (fun A₁ _ v₁ B₁ => E a D fV fC A v₁ A₁.U B₁.U ∧ B₁.locs = A₁.locs ++ [⟨a, fC.slot⟩, ⟨a, fV.slot⟩] ∧ B₁.cells = A₁.cells + 1 ∧ B₁.slots = A₁.slots + A.slots.size) :=
  (law l a D fV fC b A z).pays htab hfr (by omega)
end New1
/-- the byte, read back as charAt reads it, is the char -/
theorem lo8_mask {x : Int32} (h0 : ¬ x < 0) (h1 : ¬ 255 < x) : lo8 x &&& 255 = x := by
  have t : ∀ k : Fin 256, lo8 (Int32.ofNat k.val) &&& 255 = Int32.ofNat k.val := by decide +kernel
  rw [Int32.lt_iff_toInt_lt] at h0 h1
  have e0 : (0 : Int32).toInt = 0 := rfl
  have e1 : (255 : Int32).toInt = 255 := rfl
  obtain ⟨k, hk⟩ : ∃ k : Nat, x.toInt = k := ⟨x.toInt.toNat, by omega⟩
  have hx : x = Int32.ofNat k := Int32.toInt_inj.mp (by rw [hk, Int32.toInt_ofNat_small (by omega)])
  rw [hx]
  exact t ⟨k, by omega⟩
end StrChars
namespace StrChars.Road
open Jvm Sem ClassFile Op Lib Jvm.Stand Jvm.Free Jvm.Free.XT
open Jvm.Lib.Cold (StaticIs)
abbrev ST : String := "java/lang/String"
/-- every table word that New1's law asks, flat -/
abbrev words : List Jvm.Cond := [.code New1.yN New1.yB 2 none, .initialized ST, .methodLink ST 27 New4.yN, .instanceMethod New4.yN,
  .code New4.yN New4.yB 6 none, .fieldLink ST 38 ST "COMPACT_STRINGS" "Z", .laysFinal ST ST "value" "[B", .fieldLink ST 9 ST "value" "[B", .laysFinal ST ST "coder" "B", .fieldLink ST 15 ST "coder" "B",
  .methodLink ST 1 Lib.objectInit, .instanceMethod Lib.objectInit, .code Lib.objectInit ⟨#[0xb1]⟩ 1 none, .methodLink ST 177 Cmp3.yN, .static Cmp3.yN, .methodLink ST 47 CodL.yN, .static CodL.yN,
  .code Cmp3.yN Cmp3.yB 6 (some (.array .byte)), .initialized U16, .arrayClass .byte, .methodLink U16 115 Cmp5.yN, .static Cmp5.yN, .code Cmp5.yN Cmp5.yB 7 (some .int), .code CodL.yN CodL.yB 2 (some .byte)]
theorem tab_of {a : Array Value} {s : State} (h : ∀ w ∈ words, w.before a s = true) : New1.tab.before a s = true := by
  have h5 : Cmp5.tab.before a s = true := unparts (wk h (.code Cmp5.yN Cmp5.yB 7 (some .int))) (wks h (.initialized Cmp5.yN.cls :: Cmp5.site))
  have hc : CodL.tab.before a s = true := unparts (wk h (.code CodL.yN CodL.yB 2 (some .byte))) (wks h (.initialized CodL.yN.cls :: CodL.site))
  have q5 : ∀ w ∈ Cmp5.tab :: words, w.before a s = true := fun w hw => (List.mem_cons.mp hw).elim (fun e => e ▸ h5) (h w)
  have h3 : Cmp3.tab.before a s = true := unparts (wk q5 (.code Cmp3.yN Cmp3.yB 6 (some (.array .byte)))) (wks q5 (.initialized Cmp3.yN.cls :: Cmp3.site))
  have q3 : ∀ w ∈ Cmp3.tab :: CodL.tab :: words, w.before a s = true := fun w hw => (List.mem_cons.mp hw).elim (fun e => e ▸ h3) fun hw => (List.mem_cons.mp hw).elim (fun e => e ▸ hc) (h w)
  have h4 : New4.tab.before a s = true := unparts (wk q3 (.code New4.yN New4.yB 6 none)) (wks q3 (.initialized New4.yN.cls :: New4.site))
  have q4 : ∀ w ∈ New4.tab :: words, w.before a s = true := fun w hw => (List.mem_cons.mp hw).elim (fun e => e ▸ h4) (h w)
  exact unparts (wk q4 (.code New1.yN New1.yB 2 none)) (wks q4 (.initialized New1.yN.cls :: New1.site))
/-- the words ride from the start Z to the walk's own state -/
theorem moved {Z s : State} {a0 args : Array Value} (hZ : Z.Warmed39 s.vm) (hw : ∀ d ∈ words, d.before a0 Z = true) : ∀ d ∈ words, d.before args s = true := fun d hd => by
  have q := hw d hd
  have t : ∀ d ∈ words, d = .arrayClass .byte ∨ (d.onTables && d.keepsFace) = true := by decide +kernel
  rcases t d hd with rfl | t
  · exact RoadKit.mvA hZ q
  · exact RoadKit.mv hZ q t
/-- WHAT COMES BACK, over the tables of the start Z: h the heap at the call, h' behind it -/
def Q (Z : State) (x : Addr) (A : Cell) (h : Heap) (v : Option Value) (h' : Heap) (L : List Loc) : Prop := v = none ∧ (∀ y ∈ L, y.base = x) ∧ RoadKit.Keep h h' [x] ∧ h'.size = h.size + 1 ∧ RoadKit.Exa Z h' x ST ∧ RoadKit.Fld Z h' x ST "value" "[B" (.ref h.size) ∧ RoadKit.Fld Z h' x ST "coder" "B" (.int 0) ∧
  (∃ V : Cell, RoadKit.Arr Z h' h.size V .byte ∧ V.vm = .none ∧ Z.vm.findClass "[B" = some V.cls ∧ V.slots.size = A.slots.size ∧ ∀ j, j < A.slots.size → V.slots[j]? = some (.int (lo8 (cv A j)))) ∧
  ∀ (O n d : String) (w : Value), RoadKit.Fld Z h x O n d w → RoadKit.slotOf Z O n d ≠ RoadKit.slotOf Z ST "value" "[B" → RoadKit.slotOf Z O n d ≠ RoadKit.slotOf Z ST "coder" "B" → RoadKit.Fld Z h' x O n d w
/-- **new String(chars) AT A CALL, IN THE ROAD'S FORM**: for specialBack behind newO: x the fresh String, b the char[] with the cell A -/
theorem back {p : Program} {l : Launch} {e : Env} {R : Room} {s : State} {args : Array Value} {below : List Frame} {len W : Nat} {Z : State} {a0 : Array Value} {h : Heap} (hZ : Z.Warmed39 s.vm) (hw : ∀ d ∈ words, d.before a0 Z = true) {kI : Nat} (wi : (Jvm.Cond.instantiable ST kI).before a0 Z = true)
    {x b : Addr} {A : Cell} {z : Int32} {v0 c0 : Value} (E : RoadKit.Exa Z h x ST) (V : RoadKit.Fld Z h x ST "value" "[B" v0) (C : RoadKit.Fld Z h x ST "coder" "B" c0) (K : RoadKit.Arr Z h b A .char) (hty : Typed .char A) (S : RoadKit.Sta Z h ST "COMPACT_STRINGS" "Z" (.int z)) (hz : ¬ z = 0)
    (l0 : 0 < A.slots.size) (l2 : A.slots.size ≤ 536870912) (hp : ∀ i, i < A.slots.size → ¬ 255 < cv A i) (hfr : 4 ≤ R.frames) (hlo : W + 65 ≤ R.locals) :
    Back l R p e below s args New1.yN len W (fun P a => a = #[.ref x, .ref b] ∧ P.U.heap = h ∧ P.cells + 1 ≤ R.cells ∧ P.slots + A.slots.size ≤ R.slots)
      (fun P _ v B => ∃ L, Q Z x A h v B.U.heap L ∧ B.locs = P.locs ++ L ∧ B.cells = P.cells + 1 ∧ B.slots = P.slots + A.slots.size) := by
  intro m meth c P g ig mk a X hg hsize hdg hW hn hp'
  obtain ⟨rfl, rfl, r1, r2⟩ := hp'
  have al : Z.vm.Alike P.U.vm := hZ.alike.trans X.warmed.alike
  obtain ⟨D, cfV, kV, iV, fV, hD, gV, stV, knV, obV, asV, slV⟩ := id V
  obtain ⟨D', cfC, kC, iC, fC, hD', gC, stC, -, -, asC, slC⟩ := id C
  cases hD.symm.trans hD'
  obtain ⟨D2, kD, e1, e2, e3, e4, e5⟩ := id E
  cases hD.symm.trans e1
  obtain ⟨c2, k2, i1, i2, i3, -⟩ := Cond.instantiable_spec wi
  cases e2.symm.trans i1
  cases e3.symm.trans i2
  obtain ⟨kU, u1, u2⟩ := al.2.2 _ _ e3
  have hB : Blank ST x D P.U := ⟨hD, ⟨knV, fun q hq => by rw [hq] at obV; cases obV⟩, by rw [al.findClass]; exact e2, kU, u1, by rw [u2]; exact i3, by rw [u2]; exact e5 i3⟩
  have F1 : Found ST "value" "[B" fV P.U := ⟨SBG.found_only al ⟨cfV, kV, iV, gV⟩, stV⟩
  have F2 : Found ST "coder" "B" fC P.U := ⟨SBG.found_only al ⟨cfC, kC, iC, gC⟩, stC⟩
  have hA : Ch b A P.U := ⟨⟨K.1, State.isArrayOf_alike al K.2.1, K.2.2, by omega⟩, hty⟩
  have hS : StaticIs P.U ST "COMPACT_STRINGS" "Z" (.int z) := by
    obtain ⟨cfS, iS, kS, fS, st, cS, t1, t2, t3, t4, t5, t6, t7⟩ := S
    exact StaticIs.there (s := { Z with heap := P.U.heap }) ⟨cfS, iS, kS, fS, st, cS, t1, t2, t3, t4, t5, (fun q => by rw [q] at t6; cases t6), t7⟩ al rfl
  obtain ⟨v, B, X', ⟨⟨hv, E', V', q1, q2, q3, q4, q5, q6, q7, q8, q9, q10, q11⟩, hl, hc, hs⟩, st⟩ := New1.pays x D fV fC b A z (tab_of (moved hZ hw)) hfr hlo m meth c P g ig mk _ X hg hsize hdg hW hn ⟨r1, r2, rfl, hB, F1, F2, hA, hS, hz, l0, l2, hp⟩
  have al' : Z.vm.Alike B.U.vm := hZ.alike.trans X'.warmed.alike
  have hsz : E'.slots.size = D.slots.size := by
    obtain ⟨-, -, -, kB, w1, w2, w3⟩ := q1
    obtain ⟨kB', y1, y2⟩ := al'.2.2 _ _ e3
    rw [q2.2.1] at w1
    cases w1.symm.trans y1
    rw [w3, e5 i3, y2]
  refine ⟨v, B, X', ⟨_, ⟨hv, ?_, ⟨by omega, fun y cy hy hn' => q10 y cy (by simpa using hn') hy, fun y cy hy => ?_⟩, q11, ⟨E', _, q1.1, by rw [q2.2.1]; exact e2, by rw [q2.2.1]; exact e3, by rw [q2.1]; exact obV, fun _ => by rw [hsz]; exact e5 i3⟩,
    ⟨E', cfV, kV, iV, fV, q1.1, gV, stV, by rw [q2.1]; exact knV, by rw [q2.1]; exact obV, by rw [q2.2.1]; exact asV, q3⟩, ⟨E', cfC, kC, iC, fC, q1.1, gC, stC, by rw [q2.1]; exact knV, by rw [q2.1]; exact obV, by rw [q2.2.1]; exact asC, q4⟩,
    ⟨V', ⟨q5.1, State.isArrayOf_alike al'.symm q5.2.1, q5.2.2.1⟩, q6, by rw [← al'.findClass]; exact q7, q8, fun j hj => by have := q9 j hj; rwa [Nat.zero_add] at this⟩, fun O n d w F n1 n2 => ?_⟩, hl, hc, hs⟩, st⟩
  · intro y hy
    simp only [List.mem_cons, List.not_mem_nil, or_false] at hy
    rcases hy with rfl | rfl <;> rfl
  · by_cases q : y = x
    · subst q
      cases hD.symm.trans hy
      exact ⟨E', q1.1, q2.2.1, q2.1, hsz⟩
    · exact ⟨cy, q10 y cy q hy, rfl, rfl, rfl⟩
  · obtain ⟨D3, cf, k, i, f, g1, g2, g3, g4, g5, g6, g7⟩ := F
    cases hD.symm.trans g1
    simp only [RoadKit.slotOf, g2, gV, gC, Option.map_some, Option.getD_some] at n1 n2
    exact ⟨E', cf, k, i, f, q1.1, g2, g3, by rw [q2.1]; exact g4, by rw [q2.1]; exact g5, by rw [q2.2.1]; exact g6, by rw [q2.2.2 f.slot (by simp [n1, n2])]; exact g7⟩
end StrChars.Road
namespace StrChars.Road
open Jvm Sem ClassFile Op Lib Jvm.Stand Jvm.Free Jvm.Free.XT
/-- WHAT COMES BACK, the byte[] as a list of values -/
def QA (Z : State) (x : Addr) (zn : Int32) (cs : List Int32) (h : Heap) (v : Option Value) (h' : Heap) (L : List Loc) : Prop := v = none ∧ (∀ y ∈ L, y.base = x) ∧ RoadKit.Keep h h' [x] ∧ h'.size = h.size + 1 ∧ RoadKit.Exa Z h' x ST ∧ RoadKit.Fld Z h' x ST "value" "[B" (.ref h.size) ∧ RoadKit.Fld Z h' x ST "coder" "B" (.int 0) ∧
  (∃ kb, Z.vm.findClass "[B" = some kb ∧ RoadKit.Arv Z h' h.size kb .byte zn (cs.map fun c => .int (lo8 c)) (.int 0)) ∧
  ∀ (O n d : String) (w : Value), RoadKit.Fld Z h x O n d w → RoadKit.slotOf Z O n d ≠ RoadKit.slotOf Z ST "value" "[B" → RoadKit.slotOf Z O n d ≠ RoadKit.slotOf Z ST "coder" "B" → RoadKit.Fld Z h' x O n d w
/-- **new String(chars) AT A CALL, THE ARRAYS AS LISTS**: the char[] at b holds cs, not empty, no char above 255 -/
theorem backArv {p : Program} {l : Launch} {e : Env} {R : Room} {s : State} {args : Array Value} {below : List Frame} {len W : Nat} {Z : State} {a0 : Array Value} {h : Heap} (hZ : Z.Warmed39 s.vm) (hw : ∀ d ∈ words, d.before a0 Z = true) {kI : Nat} (wi : (Jvm.Cond.instantiable ST kI).before a0 Z = true)
    {x b : Addr} {k : ClassId} {zn z : Int32} {cs : List Int32} {dv v0 c0 : Value} (E : RoadKit.Exa Z h x ST) (V : RoadKit.Fld Z h x ST "value" "[B" v0) (C : RoadKit.Fld Z h x ST "coder" "B" c0) (K : RoadKit.Arv Z h b k .char zn (cs.map Value.int) dv) (S : RoadKit.Sta Z h ST "COMPACT_STRINGS" "Z" (.int z)) (hz : ¬ z = 0)
    (hlen : zn.toNatClampNeg = cs.length) (h0 : 0 < cs.length) (hbig : cs.length ≤ 536870912) (hall : ∀ c ∈ cs, ¬ 255 < c) (hfr : 4 ≤ R.frames) (hlo : W + 65 ≤ R.locals) :
    Back l R p e below s args New1.yN len W (fun P a => a = #[.ref x, .ref b] ∧ P.U.heap = h ∧ P.cells + 1 ≤ R.cells ∧ P.slots + cs.length ≤ R.slots)
      (fun P _ v B => ∃ L, QA Z x zn cs h v B.U.heap L ∧ B.locs = P.locs ++ L ∧ B.cells = P.cells + 1 ∧ B.slots = P.slots + cs.length) := by
  obtain ⟨A, K1, K2, K3, K4, K5, K6⟩ := K
  have e : A.slots.size = cs.length := K3.trans hlen
  have hat : ∀ (i : Nat) (hi : i < cs.length), A.slots[i]? = some (.int cs[i]) := fun i hi => by rw [K5 i (by omega)]; simp [List.getD_eq_getElem?_getD, hi]
  have hcv : ∀ (i : Nat) (hi : i < cs.length), cv A i = cs[i] := fun i hi => by unfold cv; rw [hat i hi]
  have hty : Typed .char A := fun i v hv => by
    have hi : i < A.slots.size := (Array.getElem?_eq_some_iff.mp hv).1
    have q := K5 i hi
    rw [hv] at q
    rw [Option.some.inj q]
    exact K6 i hi
  refine Back.mono (back hZ hw wi E V C K1 hty S hz (by omega) (by omega) (fun i hi => by rw [hcv i (by omega)]; exact hall _ (List.getElem_mem _)) hfr hlo) (fun P a hp => ⟨hp.1, hp.2.1, hp.2.2.1, by rw [e]; exact hp.2.2.2⟩) (fun P a v B hp hq => ?_)
  obtain ⟨L, ⟨q1, q2, q3, q4, q5, q6, q7, ⟨V', v1, v2, v3, v4, v5⟩, q9⟩, hl, hc, hs⟩ := hq
  refine ⟨L, ⟨q1, q2, q3, q4, q5, q6, q7, ⟨V'.cls, v3, V', v1, rfl, by rw [v4, e, hlen], K4, fun i hi => ?_, fun i hi => ?_⟩, q9⟩, hl, hc, by rw [hs, e]⟩
  · have hi' : i < cs.length := by omega
    rw [v5 i (by omega), hcv i hi']; simp [List.getD_eq_getElem?_getD, hi']
  · have hi' : i < cs.length := by omega
    simp only [List.getD_eq_getElem?_getD, List.getElem?_map, List.getElem?_eq_getElem hi', Option.map_some, Option.getD_some]
    exact fits_lo8 _
end StrChars.Road
namespace StrChars.Road
open Jvm Sem ClassFile Op Lib Jvm.Stand Jvm.Free Jvm.Free.XT
/-- WHAT COMES BACK, in the writer's own shape -/
def QV (Z : State) (x : Addr) (N : Int32) (bs : List Int32) (h : Heap) (n0 : Nat) (v : Option Value) (h' : Heap) (L : List Loc) : Prop := v = none ∧ RoadKit.Fr n0 L ∧ RoadKit.Keep h h' [x] ∧ RoadKit.Exa Z h' x ST ∧ RoadKit.Fld Z h' x ST "coder" "B" (.int 0) ∧
  ∃ (t : Addr) (kb : ClassId), n0 ≤ t ∧ h.size ≤ t ∧ ¬ t = x ∧ RoadKit.Fld Z h' x ST "value" "[B" (.ref t) ∧ RoadKit.Arv Z h' t kb .byte N (bs.map Value.int) (.int 0)
/-- **new String(chars) AT A CALL, FOR THE WRITER**: a char[] of n known ints, each 0 to 255 -/
theorem backV {p : Program} {l : Launch} {e : Env} {R : Room} {s : State} {args : Array Value} {below : List Frame} {len W : Nat} {Z : State} {a0 : Array Value} {h : Heap} (hZ : Z.Warmed39 s.vm) (hw : ∀ d ∈ words, d.before a0 Z = true) {kI : Nat} (wi : (Jvm.Cond.instantiable ST kI).before a0 Z = true)
    {x b : Addr} {kC : ClassId} {cs bs : List Int32} {d v0 c0 : Value} {z N : Int32} {n n0 : Nat} (hx0 : n0 ≤ x) (hh0 : n0 ≤ h.size) (E : RoadKit.Exa Z h x ST) (V : RoadKit.Fld Z h x ST "value" "[B" v0) (C : RoadKit.Fld Z h x ST "coder" "B" c0) (K : RoadKit.Arv Z h b kC .char N (cs.map Value.int) d) (S : RoadKit.Sta Z h ST "COMPACT_STRINGS" "Z" (.int z)) (hz : ¬ z = 0)
    (hn : cs.length = n) (hN : N = Int32.ofNat n) (l0 : 0 < n) (l2 : n ≤ 4000) (hp : ∀ c ∈ cs, ¬ c < 0 ∧ ¬ (255 : Int32) < c) (hb : bs = cs.map (fun c => c.toInt8.toInt32)) (hfr : 4 ≤ R.frames) (hlo : W + 65 ≤ R.locals) :
    Back l R p e below s args (⟨"java/lang/String", "<init>", "([C)V"⟩ : MethodName) len W (fun P a => a = #[.ref x, .ref b] ∧ P.U.heap = h ∧ P.cells + 1 ≤ R.cells ∧ P.slots + n ≤ R.slots)
      (fun P _ v B => ∃ L, QV Z x N bs h n0 v B.U.heap L ∧ B.locs = P.locs ++ L ∧ B.cells = P.cells + 1 ∧ B.slots = P.slots + n) := by
  subst hn hN hb
  refine Back.mono (backArv hZ hw wi E V C K S hz (n32 (by omega)) l0 (by omega) (fun c hc => (hp c hc).2) hfr hlo) (fun P a hp => hp) (fun P a v B hp hq => ?_)
  obtain ⟨L, ⟨q1, q2, q3, q4, q5, q6, q7, ⟨kb, v1, v2⟩, q9⟩, hl, hc, hs⟩ := hq
  exact ⟨L, ⟨q1, fun y hy => by rw [q2 y hy]; exact hx0, q3, q5, q7, h.size, kb, hh0, Nat.le_refl _, Nat.ne_of_gt E.lt, q6, by rw [List.map_map]; exact v2⟩, hl, hc, hs⟩
end StrChars.Road
namespace StrChars
open Jvm Sem ClassFile Op Lib Jvm.Stand Jvm.Free.XT Jvm.Free.ALB Jvm.Free.JM Jvm.Free
open Jvm.Lib.Cold (StaticIs)
def hi8 (x : Int32) : Int32 := lo8 (x >>> ((8 : Int32) &&& 31))
/-- what StringUTF16.getChar makes of two bytes -/
def pairCh (u v : Int32) : Int32 := (((u &&& 255) <<< ((0 : Int32) &&& 31)) ||| ((v &&& 255) <<< ((8 : Int32) &&& 31))).toUInt32.toUInt16.toUInt32.toInt32
theorem lo8_and (x : Int32) : (lo8 x &&& 255).toBitVec.toNat = x.toBitVec.toNat % 256 := by
  have h : (lo8 x).toBitVec = (x.toBitVec.signExtend 8).signExtend 32 := by rw [lo8, Int8.toBitVec_toInt32, Int32.toBitVec_toInt8]
  rw [Int32.toBitVec_and, BitVec.toNat_and, h]
  have e : ((x.toBitVec.signExtend 8).signExtend 32).toNat % 256 = x.toBitVec.toNat % 256 := by
    rw [BitVec.toNat_signExtend]
    have hlt := x.toBitVec.isLt
    simp only [BitVec.toNat_setWidth, BitVec.toNat_signExtend]
    split <;> split <;> omega
  rw [← e]
  exact Nat.and_two_pow_sub_one_eq_mod _ 8
theorem pair_says {c : Int32} (h0 : ¬ c < 0) (h1 : ¬ 65535 < c) : pairCh (lo8 c) (hi8 c) = c := by
  rw [Int32.lt_iff_toInt_lt] at h0 h1
  have e0 : (0 : Int32).toInt = 0 := rfl
  have e1 : (65535 : Int32).toInt = 65535 := rfl
  have hc : c.toInt = c.toBitVec.toNat := by
    have := c.toBitVec.isLt
    have e : c.toInt = c.toBitVec.toInt := rfl
    rw [e] at h0 h1
    rw [e]
    rw [BitVec.toInt_eq_toNat_cond] at h0 h1 ⊢
    split at h0 <;> split <;> omega
  have hn : c.toBitVec.toNat < 65536 := by omega
  have a1 := lo8_and c
  have a2 : (hi8 c &&& 255).toBitVec.toNat = c.toBitVec.toNat / 256 := by
    rw [hi8, lo8_and]
    have e : ((8 : Int32) &&& 31) = 8 := by decide
    rw [e, Int32.toBitVec_shiftRight]
    have e2 : ((8 : Int32).toBitVec.smod 32) = 8#32 := by decide
    rw [e2, BitVec.sshiftRight_eq', BitVec.toNat_sshiftRight_of_msb_false (by rw [BitVec.msb_eq_false_iff_two_mul_lt]; omega)]
    show c.toBitVec.toNat >>> 8 % 256 = _
    rw [Nat.shiftRight_eq_div_pow]
    omega
  unfold pairCh
  apply Int32.toBitVec_inj.mp
  apply BitVec.eq_of_toNat_eq
  have f0 : ((0 : Int32) &&& 31) = 0 := by decide
  have f8 : ((8 : Int32) &&& 31) = 8 := by decide
  rw [f0, f8]
  have g : (((lo8 c &&& 255) <<< (0 : Int32)) ||| ((hi8 c &&& 255) <<< (8 : Int32))).toBitVec.toNat = c.toBitVec.toNat := by
    rw [Int32.toBitVec_or, Int32.toBitVec_shiftLeft, Int32.toBitVec_shiftLeft]
    have s0 : ((0 : Int32).toBitVec.smod 32) = 0#32 := by decide
    have s8 : ((8 : Int32).toBitVec.smod 32) = 8#32 := by decide
    rw [s0, s8, BitVec.toNat_or]
    simp only [BitVec.shiftLeft_eq', BitVec.toNat_shiftLeft, a1, a2]
    show (c.toBitVec.toNat % 256) <<< 0 % 2 ^ 32 ||| (c.toBitVec.toNat / 256) <<< 8 % 2 ^ 32 = _
    rw [Nat.shiftLeft_zero, Nat.mod_eq_of_lt (show c.toBitVec.toNat % 256 < 2 ^ 32 by omega), Nat.mod_eq_of_lt (show (c.toBitVec.toNat / 256) <<< 8 < 2 ^ 32 by rw [Nat.shiftLeft_eq]; omega), Nat.or_comm, ← Nat.shiftLeft_add_eq_or_of_lt (by omega), Nat.shiftLeft_eq]
    omega
  show BitVec.toNat (((((lo8 c &&& 255) <<< (0 : Int32)) ||| ((hi8 c &&& 255) <<< (8 : Int32))).toBitVec.setWidth 16).setWidth 32) = _
  rw [BitVec.toNat_setWidth, BitVec.toNat_setWidth, g]
  omega
end StrChars
namespace StrChars
open Jvm Sem ClassFile Op Lib Jvm.Stand Jvm.Free.XT Jvm.Free.ALB Jvm.Free.JM Jvm.Free
open Jvm.Lib.Cold (StaticIs)
/-- the array's cell V codes the n chars f 0 .. f (n - 1) by the coder cd, as the JDK does: coder 1 just where some char is above 255 -/
def Cod (cd : Int32) (n : Nat) (f : Nat → Int32) (V : Cell) : Prop := (cd = 0 ∧ V.slots.size = n ∧ ∀ j, j < n → V.slots[j]? = some (.int (lo8 (f j))) ∧ ¬ 255 < f j) ∨ (cd = 1 ∧ V.slots.size = 2 * n ∧ (∀ j, j < n → V.slots[2 * j]? = some (.int (lo8 (f j))) ∧ V.slots[2 * j + 1]? = some (.int (hi8 (f j)))) ∧ ∃ j, j < n ∧ 255 < f j)
/-- **x is a String of the n chars f 0 .. f (n - 1)**, Latin-1 or UTF-16; its array at t has the cell V -/
def Txt (x t : Addr) (V : Cell) (cd : Int32) (n : Nat) (f : Nat → Int32) (U : State) : Prop := Exact "java/lang/String" x U ∧ Has x "java/lang/String" "value" "[B" (.ref t) U ∧ Has x "java/lang/String" "coder" "B" (.int cd) U ∧ XT.Arr .byte t V U ∧ Cod cd n f V ∧ ∀ j, j < n → ¬ f j < 0 ∧ ¬ 65535 < f j
theorem Txt.mv {x t : Addr} {V : Cell} {cd : Int32} {n : Nat} {f : Nat → Int32} {U U' : State} (h : Txt x t V cd n f U) (hal : U.vm.Alike U'.vm) (hh : U'.heap = U.heap) : Txt x t V cd n f U' := ⟨h.1.mv hal hh, h.2.1.mv hal hh, h.2.2.1.mv hal hh, h.2.2.2.1.mv hal hh, h.2.2.2.2⟩
end StrChars
namespace StrChars.Road
open Jvm Sem ClassFile Op Lib Jvm.Stand Jvm.Free Jvm.Free.XT
open Jvm.Lib.Cold (StaticIs)
theorem consq {a : Array Value} {s : State} {c : Jvm.Cond} {L : List Jvm.Cond} (h0 : c.before a s = true) (h : ∀ w ∈ L, w.before a s = true) : ∀ w ∈ c :: L, w.before a s = true := fun w hw => (List.mem_cons.mp hw).elim (fun e => e ▸ h0) (h w)
/-- the bytes of the chars cs, low before high -/
def wideBytes : List Int32 → List Value
  | [] => []
  | c :: cs => .int (lo8 c) :: .int (hi8 c) :: wideBytes cs
theorem wide_lo (d : Value) : ∀ (cs : List Int32) (j : Nat), j < cs.length → (wideBytes cs).getD (2 * j) d = .int (lo8 (cs.getD j 0))
  | [], j, h => absurd h (Nat.not_lt_zero j)
  | c :: cs, 0, _ => rfl
  | c :: cs, j + 1, h => by
    have q := wide_lo d cs j (by simpa using h)
    rw [show 2 * (j + 1) = 2 * j + 1 + 1 from by omega]
    simpa [wideBytes] using q
theorem wide_hi (d : Value) : ∀ (cs : List Int32) (j : Nat), j < cs.length → (wideBytes cs).getD (2 * j + 1) d = .int (hi8 (cs.getD j 0))
  | [], j, h => absurd h (Nat.not_lt_zero j)
  | c :: cs, 0, _ => rfl
  | c :: cs, j + 1, h => by
    have q := wide_hi d cs j (by simpa using h)
    rw [show 2 * (j + 1) + 1 = 2 * j + 1 + 1 + 1 from by omega]
    simpa [wideBytes] using q
theorem low_at (d : Value) (cs : List Int32) (j : Nat) (h : j < cs.length) : (cs.map fun c => Value.int (lo8 c)).getD j d = .int (lo8 (cs.getD j 0)) := by
  simp [List.getD_eq_getElem?_getD, h]
/-- an array of N2 bytes vs codes the chars cs by the coder cd -/
def CodA (cs : List Int32) (cd N2 : Int32) (vs : List Value) : Prop := (cd = 0 ∧ N2 = Int32.ofNat cs.length ∧ vs = (cs.map fun c => Value.int (lo8 c)) ∧ ∀ c ∈ cs, ¬ 255 < c) ∨ (cd = 1 ∧ N2 = Int32.ofNat (2 * cs.length) ∧ vs = wideBytes cs ∧ ∃ c ∈ cs, 255 < c)
theorem CodA.cod {cs : List Int32} {cd N2 : Int32} {vs : List Value} {V : Cell} (h : CodA cs cd N2 vs) (hn : 2 * cs.length < 2 ^ 31) (hs : V.slots.size = N2.toNatClampNeg) (hv : RoadKit.Has V vs (.int 0)) : Cod cd cs.length (fun j => cs.getD j 0) V := by
  rcases h with ⟨rfl, rfl, rfl, h⟩ | ⟨rfl, rfl, rfl, c, hc, hw⟩
  · rw [n32 (by omega)] at hs
    exact Or.inl ⟨rfl, hs, fun j hj => ⟨by rw [hv j (by omega), low_at _ _ _ hj], by
      have e : cs.getD j 0 = cs[j] := by simp [List.getD_eq_getElem?_getD, hj]
      show ¬ 255 < cs.getD j 0
      rw [e]; exact h _ (List.getElem_mem _)⟩⟩
  · rw [n32 (by omega)] at hs
    obtain ⟨j, hj, rfl⟩ := List.getElem_of_mem hc
    exact Or.inr ⟨rfl, hs, fun j hj => ⟨by rw [hv _ (by omega), wide_lo _ _ _ hj], by rw [hv _ (by omega), wide_hi _ _ _ hj]⟩, j, hj, by
      have e : cs.getD j 0 = cs[j] := by simp [List.getD_eq_getElem?_getD, hj]
      show 255 < cs.getD j 0
      rw [e]; exact hw⟩
/-- an object of exactly java/lang/String, its two fields found: as the laws ask it -/
theorem strObj {Z U : State} {a0 : Array Value} {kI : Nat} (wi : (Jvm.Cond.instantiable ST kI).before a0 Z = true) (al : Z.vm.Alike U.vm) {x : Addr} {v0 c0 : Value} (E : RoadKit.Exa Z U.heap x ST) (V : RoadKit.Fld Z U.heap x ST "value" "[B" v0) (C : RoadKit.Fld Z U.heap x ST "coder" "B" c0) :
    ∃ (D : Cell) (fV fC : Field), Blank ST x D U ∧ Found ST "value" "[B" fV U ∧ Found ST "coder" "B" fC U ∧ D.slots[fV.slot]? = some v0 ∧ D.slots[fC.slot]? = some c0 ∧ RoadKit.slotOf Z ST "value" "[B" = fV.slot ∧ RoadKit.slotOf Z ST "coder" "B" = fC.slot := by
  obtain ⟨D, cfV, kV, iV, fV, hD, gV, stV, knV, obV, asV, slV⟩ := V
  obtain ⟨D', cfC, kC, iC, fC, hD', gC, stC, -, -, asC, slC⟩ := C
  cases hD.symm.trans hD'
  obtain ⟨D2, kD, e1, e2, e3, e4, e5⟩ := E
  cases hD.symm.trans e1
  obtain ⟨c2, k2, i1, i2, i3, -⟩ := Cond.instantiable_spec wi
  cases e2.symm.trans i1
  cases e3.symm.trans i2
  obtain ⟨kU, u1, u2⟩ := al.2.2 _ _ e3
  exact ⟨D, fV, fC, ⟨hD, ⟨knV, fun q hq => by rw [hq] at obV; cases obV⟩, by rw [al.findClass]; exact e2, kU, u1, by rw [u2]; exact i3, by rw [u2]; exact e5 i3⟩, ⟨SBG.found_only al ⟨cfV, kV, iV, gV⟩, stV⟩, ⟨SBG.found_only al ⟨cfC, kC, iC, gC⟩, stC⟩, slV, slC, by simp [RoadKit.slotOf, gV], by simp [RoadKit.slotOf, gC]⟩
theorem sta_is {Z U : State} (al : Z.vm.Alike U.vm) {C n d : String} {v : Value} (S : RoadKit.Sta Z U.heap C n d v) : StaticIs U C n d v := by
  obtain ⟨cfS, iS, kS, fS, st, cS, t1, t2, t3, t4, t5, t6, t7⟩ := S
  exact StaticIs.there (s := { Z with heap := U.heap }) ⟨cfS, iS, kS, fS, st, cS, t1, t2, t3, t4, t5, (fun q => by rw [q] at t6; cases t6), t7⟩ al rfl
end StrChars.Road
namespace StrChars
open Jvm Sem ClassFile Op Lib Jvm.Stand Jvm.Free.XT Jvm.Free.ALB Jvm.Free.JM Jvm.Free
open Jvm.Lib.Cold (StaticIs)
/-- what place i of a byte[]'s cell holds -/
def yv (A : Cell) (i : Nat) : Int32 := match A.slots[i]? with | some (.int x) => x | _ => 0
theorem yv_get {a : Addr} {A : Cell} {U : State} (h : XT.Arr .byte a A U) (ht : Typed .byte A) {i : Nat} (hi : i < A.slots.size) : A.slots[i]? = some (.int (yv A i)) := by
  have e := Array.getElem?_eq_getElem hi
  have f := ht i _ e
  unfold yv; rw [e]
  generalize A.slots[i] = v at f
  cases v <;> simp [fits] at f ⊢
/-- the two arrays are equal, place for place -/
def EqC (A B : Cell) : Prop := A.slots.size = B.slots.size ∧ ∀ i, i < A.slots.size → yv A i = yv B i
/-- a boolean that says whether p -/
def Says01 (q : Prop) (r : Option Value) (s u : State) : Prop := ∃ v : Int32, r = some (.int v) ∧ u.heap = s.heap ∧ ((v = 1 ∧ q) ∨ (v = 0 ∧ ¬ q))
theorem Says01.mv {q : Prop} : ∀ r (U U' V V' : State), U'.heap = U.heap → V.vm.Alike V'.vm → V'.heap = V.heap → Says01 q r U V → Says01 q r U' V' :=
  fun r U U' V V' h1 _ h2 ⟨v, a, b, c⟩ => ⟨v, a, by rw [h1, h2]; exact b, c⟩
namespace LEq
def yN : MethodName := ⟨"java/lang/StringLatin1", "equals", "([B[B)Z"⟩
abbrev yB : ByteArray := jdk_43_method_13_code
theorem d0 : decode yB 0 = .ok (.aload_n 0, 1) := by decide +kernel
theorem d1 : decode yB 1 = .ok (.arraylength, 1) := by decide +kernel
theorem d2 : decode yB 2 = .ok (.aload_n 1, 1) := by decide +kernel
theorem d3 : decode yB 3 = .ok (.arraylength, 1) := by decide +kernel
theorem d4 : decode yB 4 = .ok (.if_icmp (.ne) 30, 3) := by decide +kernel
theorem d7 : decode yB 7 = .ok (.iconst 0, 1) := by decide +kernel
theorem d8 : decode yB 8 = .ok (.istore_n 2, 1) := by decide +kernel
theorem d9 : decode yB 9 = .ok (.iload_n 2, 1) := by decide +kernel
theorem d10 : decode yB 10 = .ok (.aload_n 0, 1) := by decide +kernel
theorem d11 : decode yB 11 = .ok (.arraylength, 1) := by decide +kernel
theorem d12 : decode yB 12 = .ok (.if_icmp (.ge) 20, 3) := by decide +kernel
theorem d15 : decode yB 15 = .ok (.aload_n 0, 1) := by decide +kernel
theorem d16 : decode yB 16 = .ok (.iload_n 2, 1) := by decide +kernel
theorem d17 : decode yB 17 = .ok (.baload, 1) := by decide +kernel
theorem d18 : decode yB 18 = .ok (.aload_n 1, 1) := by decide +kernel
theorem d19 : decode yB 19 = .ok (.iload_n 2, 1) := by decide +kernel
theorem d20 : decode yB 20 = .ok (.baload, 1) := by decide +kernel
theorem d21 : decode yB 21 = .ok (.if_icmp (.eq) 5, 3) := by decide +kernel
theorem d24 : decode yB 24 = .ok (.iconst 0, 1) := by decide +kernel
theorem d25 : decode yB 25 = .ok (.ireturn, 1) := by decide +kernel
theorem d26 : decode yB 26 = .ok (.iinc 2 1, 3) := by decide +kernel
theorem d29 : decode yB 29 = .ok (.goto (-20), 3) := by decide +kernel
theorem d32 : decode yB 32 = .ok (.iconst 1, 1) := by decide +kernel
theorem d33 : decode yB 33 = .ok (.ireturn, 1) := by decide +kernel
theorem d34 : decode yB 34 = .ok (.iconst 0, 1) := by decide +kernel
theorem d35 : decode yB 35 = .ok (.ireturn, 1) := by decide +kernel
def site : List Cond := []
def tab : Cond := tabOf yN yB 3 (some .boolean) site
def P (a : Addr) (A : Cell) (b : Addr) (B : Cell) (args : Array Value) (s : State) : Prop := args = #[.ref a, .ref b] ∧ XT.Arr .byte a A s ∧ Typed .byte A ∧ XT.Arr .byte b B s ∧ Typed .byte B
/-- whether two byte[] are equal, place for place -/
theorem law (l : Launch) (a : Addr) (A : Cell) (b : Addr) (B : Cell) : Law l yN 2 2 0 0 yB 3 (some .boolean) site (P a A b B) (Says01 (EqC A B)) [] 0 0 := by
  refine Law.of_walk (plainFor_of_name (by decide +kernel)) (by decide +kernel) (by decide +kernel) (by decide) (fun _ _ h => by rw [h.1]; rfl) (fun _ U U' hal hh h => ⟨h.1, h.2.1.mv hal hh, h.2.2.1, h.2.2.2.1.mv hal hh, h.2.2.2.2⟩) (fun r U U' V V' h1 hal h2 h => Says01.mv r U U' V V' h1 hal h2 h) ?_
  intro p e s m args below meth c s₁ X0 hexec hbytes hml hret hlk hnm hown hh0 W hP
  obtain ⟨rfl, hA, tA, hB, tB⟩ := hP
  have a31 := hA.2.2.2
  have b31 := hB.2.2.2
  have hA0 := hA.mv X0.warmed.alike hh0
  have hB0 := hB.mv X0.warmed.alike hh0
  have c1 : Steps p.tables e below (s₁.setTop (entryFrame m #[.ref a, .ref b] 3)) (s₁.setTop (mkF m 0 #[.val (.ref a), .val (.ref b), .unset] [])) := entry rfl
  have c2 : Steps p.tables e below (s₁.setTop (entryFrame m #[.ref a, .ref b] 3)) (s₁.setTop (mkF m 4 #[.val (.ref a), .val (.ref b), .unset] [.int (Int32.ofNat B.slots.size), .int (Int32.ofNat A.slots.size)])) := c1.trans (by
    refine XS.aloadN X0.here hexec rfl (hb hbytes d0) rfl rfl ?_
    refine X0.alen hexec hA0 rfl rfl (hb hbytes d1) ?_
    refine XS.aloadN X0.here hexec rfl (hb hbytes d2) rfl rfl ?_
    refine X0.alen hexec hB0 rfl rfl (hb hbytes d3) ?_
    exact Steps.refl _)
  by_cases hs : A.slots.size = B.slots.size
  · have c3 : Steps p.tables e below (s₁.setTop (entryFrame m #[.ref a, .ref b] 3)) (s₁.setTop (mkF m 9 #[.val (.ref a), .val (.ref b), .val (.int 0)] [])) := c2.trans (by
      refine XS.icmpNo X0.here hexec rfl (hb hbytes d4) rfl (ii_ne_f (by rw [hs])) ?_
      refine iconstV X0.here hexec rfl 0 (hb hbytes d7) (by decide) ?_
      refine XS.istoreN X0.here hexec rfl (hb hbytes d8) rfl rfl ?_
      exact Steps.refl _)
    have loop : ∀ (r i : Nat), i + r = A.slots.size → (∀ j, j < i → yv A j = yv B j) → Steps p.tables e below (s₁.setTop (entryFrame m #[.ref a, .ref b] 3)) (s₁.setTop (mkF m 9 #[.val (.ref a), .val (.ref b), .val (.int (Int32.ofNat i))] [])) → ∃ (pc : Nat) (Ls : Array Slot) (v : Int32), (pc = 25 ∨ pc = 33) ∧ ((v = 1 ∧ EqC A B) ∨ (v = 0 ∧ ¬ EqC A B)) ∧ Steps p.tables e below (s₁.setTop (entryFrame m #[.ref a, .ref b] 3)) (s₁.setTop (mkF m pc Ls [.int v])) := by
      intro r
      induction r with
      | zero =>
        intro i hi he cl
        exact ⟨33, _, 1, Or.inr rfl, Or.inl ⟨rfl, hs, fun j hj => he j (by omega)⟩, cl.trans (by
          refine XS.iloadN X0.here hexec rfl (hb hbytes d9) rfl ?_
          refine XS.aloadN X0.here hexec rfl (hb hbytes d10) rfl rfl ?_
          refine X0.alen hexec hA0 rfl rfl (hb hbytes d11) ?_
          refine XS.icmpYes X0.here hexec rfl (pc0 := 12) rfl (hb hbytes d12) rfl (ii_ge_t (nlt32 (by omega) (by omega))) (by decide) rfl ?_
          refine iconstV X0.here hexec rfl 1 (hb hbytes d32) (by decide) ?_
          exact Steps.refl _)⟩
      | succ r ih =>
        intro i hi he cl
        have c4 : Steps p.tables e below (s₁.setTop (entryFrame m #[.ref a, .ref b] 3)) (s₁.setTop (mkF m 21 #[.val (.ref a), .val (.ref b), .val (.int (Int32.ofNat i))] [.int (yv B i), .int (yv A i)])) := cl.trans (by
          refine XS.iloadN X0.here hexec rfl (hb hbytes d9) rfl ?_
          refine XS.aloadN X0.here hexec rfl (hb hbytes d10) rfl rfl ?_
          refine X0.alen hexec hA0 rfl rfl (hb hbytes d11) ?_
          refine XS.icmpNo X0.here hexec rfl (hb hbytes d12) rfl (ii_ge_f (lt32 (by omega) (by omega))) ?_
          refine XS.aloadN X0.here hexec rfl (hb hbytes d15) rfl rfl ?_
          refine XS.iloadN X0.here hexec rfl (hb hbytes d16) rfl ?_
          refine X0.aget hexec hA0 rfl (yv_get hA tA (i := i) (by omega)) rfl rfl (hb hbytes d17) ?_
          refine XS.aloadN X0.here hexec rfl (hb hbytes d18) rfl rfl ?_
          refine XS.iloadN X0.here hexec rfl (hb hbytes d19) rfl ?_
          refine X0.aget hexec hB0 rfl (yv_get hB tB (i := i) (by omega)) rfl rfl (hb hbytes d20) ?_
          exact Steps.refl _)
        by_cases hv : yv A i = yv B i
        · have c5 : Steps p.tables e below (s₁.setTop (entryFrame m #[.ref a, .ref b] 3)) (s₁.setTop (mkF m 9 #[.val (.ref a), .val (.ref b), .val (.int (Int32.ofNat i + 1))] [])) := c4.trans (by
            refine XS.icmpYes X0.here hexec rfl (pc0 := 21) rfl (hb hbytes d21) rfl (ii_eq_t hv) (by decide) rfl ?_
            refine iincV X0.here hexec rfl 1 (hb hbytes d26) (by decide) rfl rfl ?_
            refine XS.goto X0.here hexec rfl (pc0 := 29) rfl (hb hbytes d29) (by decide) rfl ?_
            exact Steps.refl _)
          rw [succ32] at c5
          exact ih (i + 1) (by omega) (fun j hj => by
            by_cases e : j = i
            · rw [e]; exact hv
            · exact he j (by omega)) c5
        · exact ⟨25, _, 0, Or.inl rfl, Or.inr ⟨rfl, fun q => hv (q.2 i (by omega))⟩, c4.trans (by
            refine XS.icmpNo X0.here hexec rfl (hb hbytes d21) rfl (ii_eq_f hv) ?_
            refine iconstV X0.here hexec rfl 0 (hb hbytes d24) (by decide) ?_
            exact Steps.refl _)⟩
    obtain ⟨pc, Ls, v, hpc, hv, cz⟩ := loop A.slots.size 0 (by omega) (fun j hj => absurd hj (Nat.not_lt_zero j)) c3
    have nv : narrow .boolean (.int v) = .int v := by rcases hv with ⟨rfl, -⟩ | ⟨rfl, -⟩ <;> rfl
    rcases hpc with rfl | rfl
    · exact ⟨s₁, some (.int v), _, _, _, X0, rfl, rfl, rfl, (fun h => by cases h), ⟨v, rfl, hh0, hv⟩, fun fs hl => cz.trans (X0.ireturnOut hexec hret nv (Or.inr (Or.inl rfl)) (hb hbytes d25) hl)⟩
    · exact ⟨s₁, some (.int v), _, _, _, X0, rfl, rfl, rfl, (fun h => by cases h), ⟨v, rfl, hh0, hv⟩, fun fs hl => cz.trans (X0.ireturnOut hexec hret nv (Or.inr (Or.inl rfl)) (hb hbytes d33) hl)⟩
  · have c3 : Steps p.tables e below (s₁.setTop (entryFrame m #[.ref a, .ref b] 3)) (s₁.setTop (mkF m 35 #[.val (.ref a), .val (.ref b), .unset] [.int 0])) := c2.trans (by
      refine XS.icmpYes X0.here hexec rfl (pc0 := 4) rfl (hb hbytes d4) rfl (ii_ne_t (ne32 a31 b31 hs)) (by decide) rfl ?_
      refine iconstV X0.here hexec rfl 0 (hb hbytes d34) (by decide) ?_
      exact Steps.refl _)
    exact ⟨s₁, some (.int 0), _, _, _, X0, rfl, rfl, rfl, (fun h => by cases h), ⟨0, rfl, hh0, Or.inr ⟨rfl, fun q => hs q.1⟩⟩, fun fs hl => c3.trans (X0.ireturnOut hexec hret rfl (Or.inr (Or.inl rfl)) (hb hbytes d35) hl)⟩
end LEq
theorem Cod.ty {cd : Int32} {n : Nat} {f : Nat → Int32} {V : Cell} (h : Cod cd n f V) : Typed .byte V := fun i v hv => by
  have hi : i < V.slots.size := (Array.getElem?_eq_some_iff.mp hv).1
  rcases h with ⟨-, k1, k2⟩ | ⟨-, k1, k2, -⟩
  · rw [(k2 i (by omega)).1] at hv; cases hv; exact fits_lo8 _
  · rcases Nat.mod_two_eq_zero_or_one i with e | e
    · obtain ⟨j, rfl⟩ : ∃ j, i = 2 * j := ⟨i / 2, by omega⟩
      rw [(k2 j (by omega)).1] at hv; cases hv; exact fits_lo8 _
    · obtain ⟨j, rfl⟩ : ∃ j, i = 2 * j + 1 := ⟨i / 2, by omega⟩
      rw [(k2 j (by omega)).2] at hv; cases hv; exact fits_lo8 _
/-- the same text -/
def SameT (n : Nat) (f : Nat → Int32) (k : Nat) (g : Nat → Int32) : Prop := n = k ∧ ∀ j, j < n → f j = g j
theorem lo8_inj {x y : Int32} (h0 : ¬ x < 0) (h1 : ¬ 255 < x) (k0 : ¬ y < 0) (k1 : ¬ 255 < y) (h : lo8 x = lo8 y) : x = y := by
  rw [← lo8_mask h0 h1, ← lo8_mask k0 k1, h]
/-- arrays coded by one coder are equal just where the texts are -/
theorem Cod.eqv {cd : Int32} {n k : Nat} {f g : Nat → Int32} {V V' : Cell} (h : Cod cd n f V) (h' : Cod cd k g V') (hf : ∀ j, j < n → ¬ f j < 0 ∧ ¬ 65535 < f j) (hg : ∀ j, j < k → ¬ g j < 0 ∧ ¬ 65535 < g j) : EqC V V' ↔ SameT n f k g := by
  have yvv : ∀ {W : Cell} {i : Nat} {x : Int32}, W.slots[i]? = some (.int x) → yv W i = x := fun q => by unfold yv; rw [q]
  rcases h with ⟨rfl, k1, k2⟩ | ⟨rfl, k1, k2, -⟩
  · rcases h' with ⟨-, m1, m2⟩ | ⟨e, -⟩
    · constructor
      · rintro ⟨e1, e2⟩
        refine ⟨by omega, fun j hj => ?_⟩
        have q := e2 j (by omega)
        rw [yvv (k2 j hj).1, yvv (m2 j (by omega)).1] at q
        exact lo8_inj (hf j hj).1 (k2 j hj).2 (hg j (by omega)).1 (m2 j (by omega)).2 q
      · rintro ⟨rfl, e2⟩
        refine ⟨by omega, fun j hj => ?_⟩
        rw [yvv (k2 j (by omega)).1, yvv (m2 j (by omega)).1, e2 j (by omega)]
    · exact absurd e (by decide)
  · rcases h' with ⟨e, -⟩ | ⟨-, m1, m2, -⟩
    · exact absurd e (by decide)
    · constructor
      · rintro ⟨e1, e2⟩
        refine ⟨by omega, fun j hj => ?_⟩
        have q1 := e2 (2 * j) (by omega)
        have q2 := e2 (2 * j + 1) (by omega)
        rw [yvv (k2 j hj).1, yvv (m2 j (by omega)).1] at q1
        rw [yvv (k2 j hj).2, yvv (m2 j (by omega)).2] at q2
        rw [← pair_says (hf j hj).1 (hf j hj).2, ← pair_says (hg j (by omega)).1 (hg j (by omega)).2, q1, q2]
      · rintro ⟨rfl, e2⟩
        refine ⟨by omega, fun i hi => ?_⟩
        rcases Nat.mod_two_eq_zero_or_one i with e | e
        · obtain ⟨j, rfl⟩ : ∃ j, i = 2 * j := ⟨i / 2, by omega⟩
          rw [yvv (k2 j (by omega)).1, yvv (m2 j (by omega)).1, e2 j (by omega)]
        · obtain ⟨j, rfl⟩ : ∃ j, i = 2 * j + 1 := ⟨i / 2, by omega⟩
          rw [yvv (k2 j (by omega)).2, yvv (m2 j (by omega)).2, e2 j (by omega)]
/-- two codings differ: so do the texts -/
theorem Cod.dif {cd cd' : Int32} {n k : Nat} {f g : Nat → Int32} {V V' : Cell} (h : Cod cd n f V) (h' : Cod cd' k g V') (hne : ¬ cd = cd') : ¬ SameT n f k g := by
  rintro ⟨rfl, e⟩
  rcases h with ⟨rfl, -, k2⟩ | ⟨rfl, -, -, j, hj, hw⟩
  · rcases h' with ⟨rfl, -⟩ | ⟨-, -, -, j, hj, hw⟩
    · exact hne rfl
    · exact (k2 j hj).2 (by rw [e j hj]; exact hw)
  · rcases h' with ⟨-, -, m2⟩ | ⟨rfl, -⟩
    · exact (m2 j hj).2 (by rw [← e j hj]; exact hw)
    · exact hne rfl
/-- an object of exactly C is an instance of C -/
theorem cinst {p : Program} {l : Launch} {e : Env} {R : Room} {s : State} {m : MethodId} {args : Array Value} {below : List Frame} {meth : Method} {c : Code} {T : State} {locs : List Loc} {cells slots : Nat} (X : Stand p l e R s m args below meth c T locs cells slots) (hexec : p.tables.exec = Jvm.exec) {own C : String} {index : Nat} (hown : s.vm.findClass own = some m.cls) (hlink : (Cond.classLink own index C).before args s = true) {a : Addr} (hE : Exact C a T)
    {g : JFrame} (hg : g.method = m) {rest : List Value} (hstack : g.stack = .ref a :: rest) (hdg : decode c.code g.pc = .ok (.instanceof index, 3)) :
    ∃ T', Stand p l e R s m args below meth c T' locs cells slots ∧ T'.heap = T.heap ∧ ∀ target, Steps p.tables e below (T'.setTop { g with pc := g.pc + 3, stack := .int 1 :: rest }) target → Steps p.tables e below (T.setTop g) target := by
  obtain ⟨cB, h1, D, h2, h3, h4⟩ := hE
  have h1' : s.vm.findClass C = some cB := by rw [← X.warmed.alike.findClass]; exact h1
  obtain ⟨vm', X', st⟩ := X.instanceofYes hexec hown hlink h2 h4 h1' (by rw [h3]; exact Jvm.Free.SB.assignable_self _ _) hg hstack hdg
  exact ⟨_, X', rfl, st⟩
theorem cself {p : Program} {l : Launch} {e : Env} {R : Room} {s : State} {m : MethodId} {args : Array Value} {below : List Frame} {meth : Method} {c : Code} {T : State} {locs : List Loc} {cells slots : Nat} (X : Stand p l e R s m args below meth c T locs cells slots) (hexec : p.tables.exec = Jvm.exec) {own C : String} {index : Nat} (hown : s.vm.findClass own = some m.cls) (hlink : (Cond.classLink own index C).before args s = true) {a : Addr} (hE : Exact C a T)
    {g : JFrame} (hg : g.method = m) {rest : List Value} (hstack : g.stack = .ref a :: rest) (hdg : decode c.code g.pc = .ok (.checkcast index, 3)) :
    ∃ T', Stand p l e R s m args below meth c T' locs cells slots ∧ T'.heap = T.heap ∧ ∀ target, Steps p.tables e below (T'.setTop { g with pc := g.pc + 3, stack := .ref a :: rest }) target → Steps p.tables e below (T.setTop g) target := by
  obtain ⟨cB, h1, D, h2, h3, h4⟩ := hE
  have h1' : s.vm.findClass C = some cB := by rw [← X.warmed.alike.findClass]; exact h1
  obtain ⟨vm', X', st⟩ := X.checkcastYes hexec hown hlink h2 h4 h1' (by rw [h3]; exact Jvm.Free.SB.assignable_self _ _) hg hstack hdg
  exact ⟨_, X', rfl, fun t h => st t (by rw [← hstack] at h; exact h)⟩
namespace SEq
def yN : MethodName := ⟨"java/lang/String", "equals", "(Ljava/lang/Object;)Z"⟩
abbrev yB : ByteArray := jdk_42_method_66_code
theorem d0 : decode yB 0 = .ok (.aload_n 0, 1) := by decide +kernel
theorem d1 : decode yB 1 = .ok (.aload_n 1, 1) := by decide +kernel
theorem d2 : decode yB 2 = .ok (.if_acmp (.ne) 5, 3) := by decide +kernel
theorem d5 : decode yB 5 = .ok (.iconst 1, 1) := by decide +kernel
theorem d6 : decode yB 6 = .ok (.ireturn, 1) := by decide +kernel
theorem d7 : decode yB 7 = .ok (.aload_n 1, 1) := by decide +kernel
theorem d8 : decode yB 8 = .ok (.instanceof 10, 3) := by decide +kernel
theorem d11 : decode yB 11 = .ok (.ifCond (.eq) 43, 3) := by decide +kernel
theorem d14 : decode yB 14 = .ok (.aload_n 1, 1) := by decide +kernel
theorem d15 : decode yB 15 = .ok (.checkcast 10, 3) := by decide +kernel
theorem d18 : decode yB 18 = .ok (.astore_n 2, 1) := by decide +kernel
theorem d19 : decode yB 19 = .ok (.getstatic 38, 3) := by decide +kernel
theorem d22 : decode yB 22 = .ok (.ifCond (.eq) 14, 3) := by decide +kernel
theorem d25 : decode yB 25 = .ok (.aload_n 0, 1) := by decide +kernel
theorem d26 : decode yB 26 = .ok (.getfield 15, 3) := by decide +kernel
theorem d29 : decode yB 29 = .ok (.aload_n 2, 1) := by decide +kernel
theorem d30 : decode yB 30 = .ok (.getfield 15, 3) := by decide +kernel
theorem d33 : decode yB 33 = .ok (.if_icmp (.ne) 21, 3) := by decide +kernel
theorem d36 : decode yB 36 = .ok (.aload_n 0, 1) := by decide +kernel
theorem d37 : decode yB 37 = .ok (.getfield 9, 3) := by decide +kernel
theorem d40 : decode yB 40 = .ok (.aload_n 2, 1) := by decide +kernel
theorem d41 : decode yB 41 = .ok (.getfield 9, 3) := by decide +kernel
theorem d44 : decode yB 44 = .ok (.invokestatic 541, 3) := by decide +kernel
theorem d47 : decode yB 47 = .ok (.ifCond (.eq) 7, 3) := by decide +kernel
theorem d50 : decode yB 50 = .ok (.iconst 1, 1) := by decide +kernel
theorem d51 : decode yB 51 = .ok (.goto 4, 3) := by decide +kernel
theorem d54 : decode yB 54 = .ok (.iconst 0, 1) := by decide +kernel
theorem d55 : decode yB 55 = .ok (.ireturn, 1) := by decide +kernel
def site : List Cond := [.classLink "java/lang/String" 10 "java/lang/String", .fieldLink "java/lang/String" 38 "java/lang/String" "COMPACT_STRINGS" "Z", .fieldLink "java/lang/String" 15 "java/lang/String" "coder" "B", .fieldLink "java/lang/String" 9 "java/lang/String" "value" "[B", LEq.tab] ++ staticW "java/lang/String" 541 LEq.yN
def tab : Cond := tabOf yN yB 3 (some .boolean) site
def P (x t : Addr) (V : Cell) (cd : Int32) (n : Nat) (f : Nat → Int32) (y t' : Addr) (V' : Cell) (cd' : Int32) (k : Nat) (g : Nat → Int32) (z : Int32) (args : Array Value) (s : State) : Prop := args = #[.ref x, .ref y] ∧ Txt x t V cd n f s ∧ Txt y t' V' cd' k g s ∧ StaticIs s "java/lang/String" "COMPACT_STRINGS" "Z" (.int z) ∧ ¬ z = 0
/-- equals(Object) of two Strings: whether the texts are the same -/
theorem law (l : Launch) (x t : Addr) (V : Cell) (cd : Int32) (n : Nat) (f : Nat → Int32) (y t' : Addr) (V' : Cell) (cd' : Int32) (k : Nat) (g : Nat → Int32) (z : Int32) : Law l yN 2 1 1 14 yB 3 (some .boolean) site (P x t V cd n f y t' V' cd' k g z) (Says01 (SameT n f k g)) [] 0 0 := by
  refine Law.of_walk (plainFor_of_name (by decide +kernel)) (by decide +kernel) (by decide +kernel) (by decide) (fun _ _ h => by rw [h.1]; rfl) (fun _ U U' hal hh h => ⟨h.1, h.2.1.mv hal hh, h.2.2.1.mv hal hh, h.2.2.2.1.there hal hh, h.2.2.2.2⟩) (fun r U U' V V' h1 hal h2 h => Says01.mv r U U' V V' h1 hal h2 h) ?_
  intro p e s m args below meth c s₁ X0 hexec hbytes hml hret hlk hnm hown hh0 W hP
  obtain ⟨rfl, hx, hy, s1, hz⟩ := hP
  have c1 : Steps p.tables e below (s₁.setTop (entryFrame m #[.ref x, .ref y] 3)) (s₁.setTop (mkF m 2 #[.val (.ref x), .val (.ref y), .unset] [.ref y, .ref x])) := Steps.trans (entry rfl) (by
    show Steps p.tables e below (s₁.setTop (mkF m 0 #[.val (.ref x), .val (.ref y), .unset] [])) _
    refine XS.aloadN X0.here hexec rfl (hb hbytes d0) rfl rfl ?_
    refine XS.aloadN X0.here hexec rfl (hb hbytes d1) rfl rfl ?_
    exact Steps.refl _)
  by_cases hxy : x = y
  · have c2 : Steps p.tables e below (s₁.setTop (entryFrame m #[.ref x, .ref y] 3)) (s₁.setTop (mkF m 6 #[.val (.ref x), .val (.ref y), .unset] [.int 1])) := c1.trans (by
      refine acmpNo X0.here hexec rfl (hb hbytes d2) rfl rfl rfl (by simp [acmp, hxy]) ?_
      refine iconstV X0.here hexec rfl 1 (hb hbytes d5) (by decide) ?_
      exact Steps.refl _)
    subst hxy
    have ec : cd = cd' := by
      obtain ⟨D, fd, a1, a2, a3⟩ := hx.2.2.1
      obtain ⟨D', fd', b1, b2, b3⟩ := hy.2.2.1
      cases a1.symm.trans b1
      obtain ⟨q1, q2, q3, q4⟩ := a2.1
      obtain ⟨r1, r2, r3, r4⟩ := b2.1
      cases q4.symm.trans r4
      cases a3.symm.trans b3; rfl
    have et : t = t' := by
      obtain ⟨D, fd, a1, a2, a3⟩ := hx.2.1
      obtain ⟨D', fd', b1, b2, b3⟩ := hy.2.1
      cases a1.symm.trans b1
      obtain ⟨q1, q2, q3, q4⟩ := a2.1
      obtain ⟨r1, r2, r3, r4⟩ := b2.1
      cases q4.symm.trans r4
      cases a3.symm.trans b3; rfl
    subst ec et
    have ev : V = V' := by cases hx.2.2.2.1.1.symm.trans hy.2.2.2.1.1; rfl
    subst ev
    have hs : SameT n f k g := (Cod.eqv hx.2.2.2.2.1 hy.2.2.2.2.1 hx.2.2.2.2.2 hy.2.2.2.2.2).mp ⟨rfl, fun _ _ => rfl⟩
    exact ⟨s₁, some (.int 1), _, _, _, X0, rfl, rfl, rfl, (fun h => by cases h), ⟨1, rfl, hh0, Or.inl ⟨rfl, hs⟩⟩, fun fs hl => c2.trans (X0.ireturnOut hexec hret rfl (Or.inr (Or.inl rfl)) (hb hbytes d6) hl)⟩
  · have c2 : Steps p.tables e below (s₁.setTop (entryFrame m #[.ref x, .ref y] 3)) (s₁.setTop (mkF m 8 #[.val (.ref x), .val (.ref y), .unset] [.ref y])) := c1.trans (by
      refine acmpYes X0.here hexec rfl (pc0 := 2) rfl (hb hbytes d2) rfl rfl rfl (by simp [acmp, hxy]) (by decide) rfl ?_
      refine XS.aloadN X0.here hexec rfl (hb hbytes d7) rfl rfl ?_
      exact Steps.refl _)
    obtain ⟨T3, X3, q3, st3⟩ := cinst X0 hexec hown (wk W (.classLink "java/lang/String" 10 "java/lang/String")) (hy.mv X0.warmed.alike hh0).1 (g := (mkF m 8 #[.val (.ref x), .val (.ref y), .unset] [.ref y])) rfl (rest := []) rfl (hb hbytes d8)
    have hh3 := q3.trans hh0
    have c4 : Steps p.tables e below (s₁.setTop (entryFrame m #[.ref x, .ref y] 3)) (T3.setTop (mkF m 15 #[.val (.ref x), .val (.ref y), .unset] [.ref y])) := (c2.trans (st3 _ (Steps.refl _))).trans (by
      refine XS.ifNo X3.here hexec rfl (hb hbytes d11) rfl (i0_eq_f (by decide)) ?_
      refine XS.aloadN X3.here hexec rfl (hb hbytes d14) rfl rfl ?_
      exact Steps.refl _)
    obtain ⟨T5, X5, q5, st5⟩ := cself X3 hexec hown (wk W (.classLink "java/lang/String" 10 "java/lang/String")) (hy.mv X3.warmed.alike hh3).1 (g := (mkF m 15 #[.val (.ref x), .val (.ref y), .unset] [.ref y])) rfl (rest := []) rfl (hb hbytes d15)
    have hh5 := q5.trans hh3
    have c6 : Steps p.tables e below (s₁.setTop (entryFrame m #[.ref x, .ref y] 3)) (T5.setTop (mkF m 19 #[.val (.ref x), .val (.ref y), .val (.ref y)] [])) := (c4.trans (st5 _ (Steps.refl _))).trans (by
      refine XS.astoreN X5.here hexec rfl (hb hbytes d18) rfl rfl rfl ?_
      exact Steps.refl _)
    obtain ⟨T7, X7, q7, st7⟩ := X5.sget hexec hown (wk W (.fieldLink "java/lang/String" 38 "java/lang/String" "COMPACT_STRINGS" "Z")) s1 (fun _ _ h => by rw [hh5]; exact h) (g := (mkF m 19 #[.val (.ref x), .val (.ref y), .val (.ref y)] [])) rfl (hb hbytes d19)
    have hh7 := q7.trans hh5
    have c8 : Steps p.tables e below (s₁.setTop (entryFrame m #[.ref x, .ref y] 3)) (T7.setTop (mkF m 26 #[.val (.ref x), .val (.ref y), .val (.ref y)] [.ref x])) := (c6.trans (st7 _ (Steps.refl _))).trans (by
      refine XS.ifNo X7.here hexec rfl (hb hbytes d22) rfl (i0_eq_f hz) ?_
      refine XS.aloadN X7.here hexec rfl (hb hbytes d25) rfl rfl ?_
      exact Steps.refl _)
    obtain ⟨T9, X9, q9, st9⟩ := X7.hget hexec hown (wk W (.fieldLink "java/lang/String" 15 "java/lang/String" "coder" "B")) (hx.mv X7.warmed.alike hh7).2.2.1 (g := (mkF m 26 #[.val (.ref x), .val (.ref y), .val (.ref y)] [.ref x])) rfl (rest := []) rfl (hb hbytes d26)
    have hh9 := q9.trans hh7
    have c10 : Steps p.tables e below (s₁.setTop (entryFrame m #[.ref x, .ref y] 3)) (T9.setTop (mkF m 30 #[.val (.ref x), .val (.ref y), .val (.ref y)] [.ref y, .int cd])) := (c8.trans (st9 _ (Steps.refl _))).trans (by
      refine XS.aloadN X9.here hexec rfl (hb hbytes d29) rfl rfl ?_
      exact Steps.refl _)
    obtain ⟨T11, X11, q11, st11⟩ := X9.hget hexec hown (wk W (.fieldLink "java/lang/String" 15 "java/lang/String" "coder" "B")) (hy.mv X9.warmed.alike hh9).2.2.1 (g := (mkF m 30 #[.val (.ref x), .val (.ref y), .val (.ref y)] [.ref y, .int cd])) rfl (rest := [.int cd]) rfl (hb hbytes d30)
    have hh11 := q11.trans hh9
    have c12 : Steps p.tables e below (s₁.setTop (entryFrame m #[.ref x, .ref y] 3)) (T11.setTop (mkF m 33 #[.val (.ref x), .val (.ref y), .val (.ref y)] [.int cd', .int cd])) := c10.trans (st11 _ (Steps.refl _))
    by_cases hcd : cd = cd'
    · subst hcd
      have c13 : Steps p.tables e below (s₁.setTop (entryFrame m #[.ref x, .ref y] 3)) (T11.setTop (mkF m 37 #[.val (.ref x), .val (.ref y), .val (.ref y)] [.ref x])) := c12.trans (by
        refine XS.icmpNo X11.here hexec rfl (hb hbytes d33) rfl (ii_ne_f rfl) ?_
        refine XS.aloadN X11.here hexec rfl (hb hbytes d36) rfl rfl ?_
        exact Steps.refl _)
      obtain ⟨T14, X14, q14, st14⟩ := X11.hget hexec hown (wk W (.fieldLink "java/lang/String" 9 "java/lang/String" "value" "[B")) (hx.mv X11.warmed.alike hh11).2.1 (g := (mkF m 37 #[.val (.ref x), .val (.ref y), .val (.ref y)] [.ref x])) rfl (rest := []) rfl (hb hbytes d37)
      have hh14 := q14.trans hh11
      have c15 : Steps p.tables e below (s₁.setTop (entryFrame m #[.ref x, .ref y] 3)) (T14.setTop (mkF m 41 #[.val (.ref x), .val (.ref y), .val (.ref y)] [.ref y, .ref t])) := (c13.trans (st14 _ (Steps.refl _))).trans (by
        refine XS.aloadN X14.here hexec rfl (hb hbytes d40) rfl rfl ?_
        exact Steps.refl _)
      obtain ⟨T16, X16, q16, st16⟩ := X14.hget hexec hown (wk W (.fieldLink "java/lang/String" 9 "java/lang/String" "value" "[B")) (hy.mv X14.warmed.alike hh14).2.1 (g := (mkF m 41 #[.val (.ref x), .val (.ref y), .val (.ref y)] [.ref y, .ref t])) rfl (rest := [.ref t]) rfl (hb hbytes d41)
      have hh16 := q16.trans hh14
      have c17 : Steps p.tables e below (s₁.setTop (entryFrame m #[.ref x, .ref y] 3)) (T16.setTop (mkF m 44 #[.val (.ref x), .val (.ref y), .val (.ref y)] [.ref t', .ref t])) := c15.trans (st16 _ (Steps.refl _))
      obtain ⟨v18, T18, X18, E18, g18⟩ := X16.callS hexec (LEq.law l t V t' V') hown (wks W (staticW "java/lang/String" 541 LEq.yN)) (wk W LEq.tab) (W := 0) (Nat.le_of_ble_eq_true rfl) (Nat.le_of_ble_eq_true rfl) (Nat.le_refl _) (Nat.le_refl _) (g := (mkF m 44 #[.val (.ref x), .val (.ref y), .val (.ref y)] [.ref t', .ref t])) rfl (by rw [hml]; rfl) c17 (argsL := [.ref t, .ref t']) (rest := []) rfl rfl (by show 2 * 0 + 0 ≤ _; decide) (hb hbytes d44) (⟨rfl, hx.2.2.2.1.mv X16.warmed.alike hh16, hx.2.2.2.2.1.ty, hy.2.2.2.1.mv X16.warmed.alike hh16, hy.2.2.2.2.1.ty⟩)
      obtain ⟨v, rfl, q18, hv⟩ := E18
      have iff := Cod.eqv hx.2.2.2.2.1 hy.2.2.2.2.1 hx.2.2.2.2.2 hy.2.2.2.2.2
      rcases hv with ⟨rfl, he⟩ | ⟨rfl, he⟩
      · have c19 : Steps p.tables e below (s₁.setTop (entryFrame m #[.ref x, .ref y] 3)) (T18.setTop (mkF m 55 #[.val (.ref x), .val (.ref y), .val (.ref y)] [.int 1])) := Steps.trans g18 (by
          refine XS.ifNo X18.here hexec rfl (hb hbytes d47) rfl (i0_eq_f (by decide)) ?_
          refine iconstV X18.here hexec rfl 1 (hb hbytes d50) (by decide) ?_
          refine XS.goto X18.here hexec rfl (pc0 := 51) rfl (hb hbytes d51) (by decide) rfl ?_
          exact Steps.refl _)
        exact ⟨T18, some (.int 1), _, _, _, X18, rfl, rfl, rfl, (fun h => by cases h), ⟨1, rfl, q18.trans hh16, Or.inl ⟨rfl, iff.mp he⟩⟩, fun fs hl => c19.trans (X18.ireturnOut hexec hret rfl (Or.inr (Or.inl rfl)) (hb hbytes d55) hl)⟩
      · have c19 : Steps p.tables e below (s₁.setTop (entryFrame m #[.ref x, .ref y] 3)) (T18.setTop (mkF m 55 #[.val (.ref x), .val (.ref y), .val (.ref y)] [.int 0])) := Steps.trans g18 (by
          refine XS.ifYes X18.here hexec rfl (pc0 := 47) rfl (hb hbytes d47) rfl (i0_eq_t rfl) (by decide) rfl ?_
          refine iconstV X18.here hexec rfl 0 (hb hbytes d54) (by decide) ?_
          exact Steps.refl _)
        exact ⟨T18, some (.int 0), _, _, _, X18, rfl, rfl, rfl, (fun h => by cases h), ⟨0, rfl, q18.trans hh16, Or.inr ⟨rfl, fun q => he (iff.mpr q)⟩⟩, fun fs hl => c19.trans (X18.ireturnOut hexec hret rfl (Or.inr (Or.inl rfl)) (hb hbytes d55) hl)⟩
    · have c13 : Steps p.tables e below (s₁.setTop (entryFrame m #[.ref x, .ref y] 3)) (T11.setTop (mkF m 55 #[.val (.ref x), .val (.ref y), .val (.ref y)] [.int 0])) := c12.trans (by
        refine XS.icmpYes X11.here hexec rfl (pc0 := 33) rfl (hb hbytes d33) rfl (ii_ne_t hcd) (by decide) rfl ?_
        refine iconstV X11.here hexec rfl 0 (hb hbytes d54) (by decide) ?_
        exact Steps.refl _)
      exact ⟨T11, some (.int 0), _, _, _, X11, rfl, rfl, rfl, (fun h => by cases h), ⟨0, rfl, hh11, Or.inr ⟨rfl, Cod.dif hx.2.2.2.2.1 hy.2.2.2.2.1 hcd⟩⟩, fun fs hl => c13.trans (X11.ireturnOut hexec hret rfl (Or.inr (Or.inl rfl)) (hb hbytes d55) hl)⟩
theorem pays {l : Launch} {R : Room} {p : Program} {e : Env} {below : List Frame} {s : State} {sargs : Array Value} {len W : Nat} (x t : Addr) (V : Cell) (cd : Int32) (n : Nat) (f : Nat → Int32) (y t' : Addr) (V' : Cell) (cd' : Int32) (k : Nat) (g : Nat → Int32) (z : Int32) (htab : tab.before sargs s = true) (hfr : 2 ≤ R.frames) (hlo : W + 28 ≤ R.locals) :
    Back l R p e below s sargs yN len W (fun A₁ a₁ => A₁.cells + 0 ≤ R.cells ∧ A₁.slots + 0 ≤ R.slots ∧ P x t V cd n f y t' V' cd' k g z a₁ A₁.U) (fun A₁ _ v₁ B₁ => Says01 (SameT n f k g) v₁ A₁.U B₁.U ∧ B₁.locs = A₁.locs ++ [] ∧ B₁.cells = A₁.cells + 0 ∧ B₁.slots = A₁.slots + 0) :=
  (law l x t V cd n f y t' V' cd' k g z).pays htab hfr (by omega)
end SEq
end StrChars
namespace StrChars.Road
open Jvm Sem ClassFile Op Lib Jvm.Stand Jvm.Free Jvm.Free.XT
open Jvm.Lib.Cold (StaticIs)
/-- the words of String.equals(Object) -/
abbrev wordsEq : List Jvm.Cond := [.code SEq.yN SEq.yB 3 (some .boolean), .initialized ST, .classLink ST 10 ST, .fieldLink ST 38 ST "COMPACT_STRINGS" "Z", .fieldLink ST 15 ST "coder" "B", .fieldLink ST 9 ST "value" "[B", .methodLink ST 541 LEq.yN, .static LEq.yN, .code LEq.yN LEq.yB 3 (some .boolean), .initialized "java/lang/StringLatin1"]
theorem tabEq_of {a : Array Value} {s : State} (h : ∀ w ∈ wordsEq, w.before a s = true) : SEq.tab.before a s = true := by
  have hl : LEq.tab.before a s = true := unparts (wk h (.code LEq.yN LEq.yB 3 (some .boolean))) (wks h (.initialized LEq.yN.cls :: LEq.site))
  have q := consq hl h
  exact unparts (wk q (.code SEq.yN SEq.yB 3 (some .boolean))) (wks q (.initialized SEq.yN.cls :: SEq.site))
theorem movedEq {Z s : State} {a0 args : Array Value} (hZ : Z.Warmed39 s.vm) (hw : ∀ d ∈ wordsEq, d.before a0 Z = true) : ∀ d ∈ wordsEq, d.before args s = true := fun d hd => by
  have t : ∀ d ∈ wordsEq, (d.onTables && d.keepsFace) = true := by decide +kernel
  exact RoadKit.mv hZ (hw d hd) (t d hd)
/-- the road's facts of a String, as the laws ask it -/
theorem txt_of {Z U : State} {a0 : Array Value} {kI : Nat} (wi : (Jvm.Cond.instantiable ST kI).before a0 Z = true) (al : Z.vm.Alike U.vm) {x t : Addr} {kb : ClassId} {cs : List Int32} {cd N2 : Int32} {vs : List Value} (E : RoadKit.Exa Z U.heap x ST) (V : RoadKit.Fld Z U.heap x ST "value" "[B" (.ref t)) (C : RoadKit.Fld Z U.heap x ST "coder" "B" (.int cd)) (K : RoadKit.Arv Z U.heap t kb .byte N2 vs (.int 0)) (hc : CodA cs cd N2 vs) (hb : ∀ c ∈ cs, ¬ c < 0 ∧ ¬ (65535 : Int32) < c) (l2 : cs.length ≤ 4000) :
    ∃ A, Txt x t A cd cs.length (fun j => cs.getD j 0) U := by
  obtain ⟨A, K1, K2, K3, K4, K5, K6⟩ := K
  have hcod := hc.cod (by omega) K3 K5
  obtain ⟨D, fV, fC, hB, F1, F2, g1, g2, -, -⟩ := strObj wi al E V C
  exact ⟨A, ⟨_, hB.2.2.1, D, hB.1, rfl, by cases q : D.vm <;> first | rfl | exact absurd q (hB.2.1.2 _)⟩, Has.of hB F1 g1, Has.of hB F2 g2, ⟨K1.1, State.isArrayOf_alike al K1.2.1, K1.2.2, by rcases hcod with ⟨-, q, -⟩ | ⟨-, q, -⟩ <;> omega⟩, hcod, fun j hj => by
    have e : cs.getD j 0 = cs[j] := by simp [List.getD_eq_getElem?_getD, hj]
    show ¬ cs.getD j 0 < 0 ∧ ¬ 65535 < cs.getD j 0
    rw [e]; exact hb _ (List.getElem_mem _)⟩
theorem same_list (cs ds : List Int32) : SameT cs.length (fun j => cs.getD j 0) ds.length (fun j => ds.getD j 0) ↔ cs = ds := by
  constructor
  · rintro ⟨e, q⟩
    refine List.ext_getElem e fun j h1 h2 => ?_
    have := q j h1
    simpa [List.getD_eq_getElem?_getD, h1, h2] using this
  · rintro rfl
    exact ⟨rfl, fun _ _ => rfl⟩
/-- **equals(Object) OF TWO SUCH STRINGS**: 1 just where the chars are the same -/
theorem eqW {p : Program} {l : Launch} {e : Env} {R : Room} {s : State} {args : Array Value} {below : List Frame} {len W : Nat} {Z : State} {a0 : Array Value} {h : Heap} (hZ : Z.Warmed39 s.vm) (hw : ∀ d ∈ wordsEq, d.before a0 Z = true) {kI : Nat} (wi : (Jvm.Cond.instantiable ST kI).before a0 Z = true)
    {x t : Addr} {kb : ClassId} {cs : List Int32} {cd N2 : Int32} {vs : List Value} (E : RoadKit.Exa Z h x ST) (V : RoadKit.Fld Z h x ST "value" "[B" (.ref t)) (C : RoadKit.Fld Z h x ST "coder" "B" (.int cd)) (K : RoadKit.Arv Z h t kb .byte N2 vs (.int 0)) (hc : CodA cs cd N2 vs) (hb : ∀ c ∈ cs, ¬ c < 0 ∧ ¬ (65535 : Int32) < c) (l2 : cs.length ≤ 4000)
    {y t' : Addr} {kb' : ClassId} {ds : List Int32} {cd' N2' : Int32} {vs' : List Value} (E' : RoadKit.Exa Z h y ST) (V' : RoadKit.Fld Z h y ST "value" "[B" (.ref t')) (C' : RoadKit.Fld Z h y ST "coder" "B" (.int cd')) (K' : RoadKit.Arv Z h t' kb' .byte N2' vs' (.int 0)) (hc' : CodA ds cd' N2' vs') (hb' : ∀ c ∈ ds, ¬ c < 0 ∧ ¬ (65535 : Int32) < c) (l2' : ds.length ≤ 4000)
    {z : Int32} (S : RoadKit.Sta Z h ST "COMPACT_STRINGS" "Z" (.int z)) (hz : ¬ z = 0) (hfr : 2 ≤ R.frames) (hlo : W + 28 ≤ R.locals) :
    Back l R p e below s args (⟨"java/lang/String", "equals", "(Ljava/lang/Object;)Z"⟩ : MethodName) len W (fun P a => a = #[.ref x, .ref y] ∧ P.U.heap = h ∧ P.cells + 0 ≤ R.cells ∧ P.slots + 0 ≤ R.slots)
      (fun P _ v B => ∃ L, (((v = some (.int 1) ∧ cs = ds) ∨ (v = some (.int 0) ∧ ¬ cs = ds)) ∧ L = [] ∧ B.U.heap = h) ∧ B.locs = P.locs ++ L ∧ B.cells = P.cells + 0 ∧ B.slots = P.slots + 0) := by
  intro m meth c P g ig mk a X hg hsize hdg hW hn hp'
  obtain ⟨rfl, rfl, r1, r2⟩ := hp'
  have al : Z.vm.Alike P.U.vm := hZ.alike.trans X.warmed.alike
  obtain ⟨A, hx⟩ := txt_of wi al E V C K hc hb l2
  obtain ⟨A', hy⟩ := txt_of wi al E' V' C' K' hc' hb' l2'
  obtain ⟨v, B, X', ⟨⟨w, hv, hh, hq⟩, hl, hk, hs⟩, st⟩ := SEq.pays x t A cd cs.length (fun j => cs.getD j 0) y t' A' cd' ds.length (fun j => ds.getD j 0) z (tabEq_of (movedEq hZ hw)) hfr hlo m meth c P g ig mk _ X hg hsize hdg hW hn ⟨r1, r2, rfl, hx, hy, sta_is al S, hz⟩
  refine ⟨v, B, X', ⟨[], ⟨?_, rfl, hh⟩, hl, hk, hs⟩, st⟩
  rcases hq with ⟨rfl, q⟩ | ⟨rfl, q⟩
  · exact Or.inl ⟨hv, (same_list cs ds).mp q⟩
  · exact Or.inr ⟨hv, fun e => q ((same_list cs ds).mpr e)⟩
end StrChars.Road
namespace StrChars.Road
open Jvm Sem ClassFile Op Lib Jvm.Stand Jvm.Free Jvm.Free.XT
open Jvm.Lib.Cold (StaticIs)
/-- what backV says of its String, as the contracts of this text ask it: cs's low bytes, coder 0 -/
theorem codOf {cs : List Int32} {n : Nat} (hn : cs.length = n) (hb : ∀ c ∈ cs, ¬ 255 < c) : CodA cs 0 (Int32.ofNat n) ((cs.map lo8).map Value.int) := Or.inl ⟨rfl, by rw [hn], by simp [List.map_map, Function.comp_def], hb⟩
end StrChars.Road
end Jvm.Pilot.@@N@@
namespace Jvm.RoadKit
open Sem ClassFile Op Lib Jvm.Stand Jvm.Free Jvm.LawKit
section Own
variable {p : Program} {l : Launch} {e : Env} {R : Room} {s : State} {m : MethodId} {args : Array Value} {below : List Frame} {meth : Method} {c : Code} {T : State} {locs : List Loc} {cells slots : Nat} {Z : State} {a0 : Array Value} {h h' h0 : Heap} {ws ws' : List Addr} {Q : Option Value → Heap → List Loc → Prop} {k n : Nat}
/-- the run from U comes to an end of which G speaks -/
def OEnd (p : Program) (e : Env) (below : List Frame) (G : Outcome → State → Prop) (U : State) : Prop := ∃ t o, Steps p.tables e below U t ∧ t.status = .running ∧ Ended t below o ∧ G o t
theorem OEnd.of {G : Outcome → State → Prop} {U U' : State} (q : ∀ t, Steps p.tables e below U' t → Steps p.tables e below U t) (k : OEnd p e below G U') : OEnd p e below G U := by
  obtain ⟨t, o, h1, h2⟩ := k
  exact ⟨t, o, q t h1, h2⟩
/-- a contract's end, nothing interned -/
def GN (s : State) (Q : Option Value → Heap → List Loc → Prop) (k n : Nat) (o : Outcome) (t : State) : Prop := ∃ v L, o = .returned v ∧ Q v t.heap L ∧ FrameEnd s o t L k n
theorem OEnd.out {v : Option Value} {g : JFrame} (X : Stand p l e R s m args below meth c T locs cells slots) (hlk : meth.locks = false) (eT : T.heap = h) (hv : meth.sig.returnType = none → v = none)
    (hs : ∀ fs, (∀ (f : JFrame) (acts : List Action), f.method = m → f.locked = none → f.entered = [] → (doReturn e (T.setTop f) acts v).1 = T.setFrames fs) → Steps p.tables e below (T.setTop g) (T.setFrames fs))
    (hQ : Q v h locs) (hk : cells ≤ k) (hn : slots ≤ n) : OEnd p e below (GN s Q k n) (T.setTop g) := by
  obtain ⟨fs, hr, hrun, hended, hW, hsame⟩ := X.leave (v := v) hv hlk
  exact ⟨_, _, hs fs hr, hrun, hended, v, locs, rfl, (by show Q v T.heap locs; rw [eT]; exact hQ), ⟨v, rfl⟩, hW, hsame.mono hk hn⟩
theorem OEnd.retV {pc : Nat} {Ls : Array Slot} (X : Stand p l e R s m args below meth c T locs cells slots) (hx : p.tables.exec = Jvm.exec) (hlk : meth.locks = false) (eT : T.heap = h) (hret : meth.sig.returnType = none) (hd : decode c.code pc = .ok (.return_, 1))
    (hQ : Q none h locs) (hk : cells ≤ k) (hn : slots ≤ n) : OEnd p e below (GN s Q k n) (T.setTop (mkF m pc Ls [])) :=
  OEnd.out X hlk eT (fun _ => rfl) (fun fs hr => X.returnOut hx hret hd hr) hQ hk hn
theorem OEnd.retN {pc : Nat} {Ls : Array Slot} {z : Int32} {t : FieldType} {rest : List Value} (X : Stand p l e R s m args below meth c T locs cells slots) (hx : p.tables.exec = Jvm.exec) (hlk : meth.locks = false) (eT : T.heap = h) (hret : meth.sig.returnType = some t) (ht : t = .boolean ∨ t = .byte ∨ t = .char ∨ t = .short)
    (hd : decode c.code pc = .ok (.ireturn, 1)) (hQ : Q (some (.int (nar t z))) h locs) (hk : cells ≤ k) (hn : slots ≤ n) : OEnd p e below (GN s Q k n) (T.setTop (mkF m pc Ls (.int z :: rest))) :=
  OEnd.out X hlk eT (fun q => by rw [hret] at q; cases q) (fun fs hr => Jvm.RoadKit.retN X hx hret ht hd hr) hQ hk hn
theorem OEnd.retI {pc : Nat} {Ls : Array Slot} {z : Int32} {rest : List Value} (X : Stand p l e R s m args below meth c T locs cells slots) (hx : p.tables.exec = Jvm.exec) (hlk : meth.locks = false) (eT : T.heap = h) (hret : meth.sig.returnType = some .int)
    (hd : decode c.code pc = .ok (.ireturn, 1)) (hQ : Q (some (.int z)) h locs) (hk : cells ≤ k) (hn : slots ≤ n) : OEnd p e below (GN s Q k n) (T.setTop (mkF m pc Ls (.int z :: rest))) :=
  OEnd.out X hlk eT (fun q => by rw [hret] at q; cases q) (fun fs hr => retOut X hx hret rfl (Or.inl ⟨rfl, Or.inl rfl, z, rfl⟩) hd hr) hQ hk hn
theorem OEnd.retJ {pc : Nat} {Ls : Array Slot} {z : Int64} {rest : List Value} (X : Stand p l e R s m args below meth c T locs cells slots) (hx : p.tables.exec = Jvm.exec) (hlk : meth.locks = false) (eT : T.heap = h) (hret : meth.sig.returnType = some .long)
    (hd : decode c.code pc = .ok (.lreturn, 1)) (hQ : Q (some (.long z)) h locs) (hk : cells ≤ k) (hn : slots ≤ n) : OEnd p e below (GN s Q k n) (T.setTop (mkF m pc Ls (.long z :: rest))) :=
  OEnd.out X hlk eT (fun q => by rw [hret] at q; cases q) (fun fs hr => retOut X hx hret rfl (Or.inr (Or.inl ⟨rfl, rfl, z, rfl⟩)) hd hr) hQ hk hn
theorem own_narRef {t : FieldType} {w : Value} (hw : w.isRef = true) : narrow t w = w := by cases w <;> first | (cases hw; done) | (cases t <;> rfl)
theorem OEnd.retA {pc : Nat} {Ls : Array Slot} {w : Value} {t : FieldType} {rest : List Value} (X : Stand p l e R s m args below meth c T locs cells slots) (hx : p.tables.exec = Jvm.exec) (hlk : meth.locks = false) (eT : T.heap = h) (hret : meth.sig.returnType = some t) (ht : t.isReference = true) (hw : w.isRef = true)
    (hd : decode c.code pc = .ok (.areturn, 1)) (hQ : Q (some w) h locs) (hk : cells ≤ k) (hn : slots ≤ n) : OEnd p e below (GN s Q k n) (T.setTop (mkF m pc Ls (w :: rest))) :=
  OEnd.out X hlk eT (fun q => by rw [hret] at q; cases q) (fun fs hr => retOut X hx hret (own_narRef hw) (Or.inr (Or.inr (Or.inr (Or.inr ⟨rfl, ht, hw⟩)))) hd hr) hQ hk hn
theorem own_stV {P : Value → Prop} {v : Value} (h : v.isRef = true) (h0 : P .null) (h1 : ∀ a, P (.ref a)) : P v := by
  rcases ref_cases h with rfl | ⟨a, rfl⟩
  · exact h0
  · exact h1 a
theorem own_cat {v : Value} (h : v.isRef = true) : v.category = 1 := own_stV (P := fun z => z.category = 1) h rfl (fun _ => rfl)
theorem own_extKeep (O : Ext h0 h) (K : Keep h h' ws) (q : ∀ x ∈ ws, h0.size ≤ x) : Ext h0 h' := ⟨Nat.le_trans O.1 K.1, fun x c r => K.2.1 x c (O.2 x c r) fun z => absurd (Array.getElem?_eq_some_iff.mp r).1 (Nat.not_lt.mpr (q x z))⟩
theorem own_keepMono (K : Keep h h' ws) (q : ∀ x ∈ ws, x ∈ ws') : Keep h h' ws' := ⟨K.1, fun x c r n => K.2.1 x c r (fun z => n (q x z)), K.2.2⟩
theorem own_fitsRef {ty : FieldType} {v : Value} (hv : v.isRef = true) (ht : ty.isReference = true) : fits ty v = true := by cases v <;> first | (cases hv; done) | (cases ty <;> first | (cases ht; done) | rfl)
/-- a private method selects itself (its class can be made, so it is no interface) -/
theorem own_selPriv {y : MethodName} {nn : Nat} (hZ : Z.Warmed39 s.vm) (wi : (Cond.instantiable y.cls nn).before a0 Z = true) (wp : (Cond.privateMethod y).before a0 Z = true) (wm : (Cond.instanceMethod y).before a0 Z = true) (hy : y.cls ≠ "java/lang/invoke/MethodHandle" ∧ y.cls ≠ "java/lang/invoke/VarHandle") : (Cond.selects y.cls y y).before args s = true := by
  have wi' : (Cond.instantiable y.cls nn).before #[] s = true := mv hZ wi
  obtain ⟨cc, kk, h1, h2, -, h3, -⟩ := Cond.instantiable_spec wi'
  exact selects_self_of_private h1 h2 (by simpa using (Bool.or_eq_false_iff.mp h3).1) (Cond.privateMethod_at (mvP hZ wp (args := #[]))) (mvT hZ wm) hy
/-- an object of a class right beneath the root is none of a class K that can be made -/
theorem own_notAssign {C O K : String} {nn : Nat} (w : (Cond.superclass C O).before a0 Z = true) (wo : (Cond.noSuperclass O).before a0 Z = true) (wi : (Cond.instantiable K nn).before a0 Z = true) (h1 : C ≠ K) (h2 : O ≠ K) : ∃ c t, Z.vm.findClass C = some c ∧ Z.vm.findClass K = some t ∧ Z.vm.assignable c t = false := by
  obtain ⟨cc, hc⟩ := found_sup w
  obtain ⟨pp, kk, kp, hp, hk, hkp, hsup, hkind, -, -⟩ := Cond.superclass_spec hc w
  obtain ⟨oo, ko, ho, hko, hnone, -, -⟩ := Cond.noSuperclass_spec wo
  obtain ⟨tt, kt, ht, hkt, hkindt, hif, -⟩ := Cond.instantiable_spec wi
  cases ho.symm.trans hp
  have ne1 := ids_ne hc ht h1
  have ne2 := ids_ne ho ht h2
  have hi : kt.isInterface = false := (Bool.or_eq_false_iff.mp hif).1
  have sb : ∀ f, Z.vm.isSubclassAux f cc tt = false := fun f => by
    match f with
    | 0 => rfl
    | 1 => simp [Vm.isSubclassAux, ne1, hk, hsup]
    | f + 2 => simp [Vm.isSubclassAux, ne1, ne2, hk, hsup, hko, hnone]
  refine ⟨cc, tt, hc, ht, ?_⟩
  show Z.vm.assignableAux (255 + 1) cc tt = false
  simp [Vm.assignableAux, ne1, hk, hkt, hkind, hkindt, hi, Vm.isSubclass, sb]
end Own
end Jvm.RoadKit
namespace Jvm.RoadKit
open Sem ClassFile Op Lib Bundle Jvm.Stand Jvm.Free Jvm.LawKit Jvm.Free.SB Jvm.Free.SBG
section OwnW
variable {p : Program} {l : Launch} {e : Env} {R : Room} {s : State} {m : MethodId} {args : Array Value} {below : List Frame} {meth : Method} {c : Code} {T : State} {locs : List Loc} {cells slots : Nat} {Z : State} {a0 : Array Value} {h h' h0 : Heap} {ws ws' : List Addr} {Q : Option Value → Heap → List Loc → Prop} {k n k0 : Nat} {vm0 vm : Vm} {EL : List (String × Nat)}
/-- a contract's end, constants may have been loaded -/
def GW (s Z : State) (EL : List (String × Nat)) (Q : Option Value → Heap → List Loc → Prop) (k n : Nat) (o : Outcome) (t : State) : Prop := ∃ v L, o = .returned v ∧ Q v t.heap L ∧ CHr Z EL s.vm s.heap t.vm t.heap ∧ ReturnedEndW s o t L k n
theorem OEnd.outW {v : Option Value} {g : JFrame} (X : Stand p l e R (s.setVm vm0) m args below meth c T locs cells slots) (hlk : meth.locks = false) (eT : T.heap = h) (hh : s.heap = h0) (hS : s.Since vm0 k0) (hk0 : k0 ≤ h.size) (hEL : EW Z a0 EL) (hZ : Z.Warmed39 vm0) (HR : CHr Z EL s.vm h0 vm0 h) (hv : meth.sig.returnType = none → v = none)
    (hs : ∀ fs, (∀ (f : JFrame) (acts : List Action), f.method = m → f.locked = none → f.entered = [] → (doReturn e (T.setTop f) acts v).1 = T.setFrames fs) → Steps p.tables e below (T.setTop g) (T.setFrames fs))
    (hQ : Q v h locs) (hk : cells ≤ k) (hn : slots ≤ n) : OEnd p e below (GW s Z EL Q k n) (T.setTop g) := by
  obtain ⟨fs, hr, hrun, hended, hv', hW, hB, hsame⟩ := X.leaveW hS (by rw [eT]; exact hk0) (v := v) hv hlk
  refine ⟨_, _, hs fs hr, hrun, hended, v, locs, rfl, (by show Q v T.heap locs; rw [eT]; exact hQ), ?_, hv', hW, hB, hsame.mono hk hn⟩
  show CHr Z EL s.vm s.heap T.vm T.heap
  rw [eT, hh]
  exact HR.trans (CHv.at X hZ hEL HR.1)
theorem OEnd.retVW {pc : Nat} {Ls : Array Slot} (X : Stand p l e R (s.setVm vm0) m args below meth c T locs cells slots) (hx : p.tables.exec = Jvm.exec) (hlk : meth.locks = false) (eT : T.heap = h) (hh : s.heap = h0) (hS : s.Since vm0 k0) (hk0 : k0 ≤ h.size) (hEL : EW Z a0 EL) (hZ : Z.Warmed39 vm0) (HR : CHr Z EL s.vm h0 vm0 h) (hret : meth.sig.returnType = none) (hd : decode c.code pc = .ok (.return_, 1))
    (hQ : Q none h locs) (hk : cells ≤ k) (hn : slots ≤ n) : OEnd p e below (GW s Z EL Q k n) (T.setTop (mkF m pc Ls [])) :=
  OEnd.outW X hlk eT hh hS hk0 hEL hZ HR (fun _ => rfl) (fun fs hr => X.returnOut hx hret hd hr) hQ hk hn
theorem OEnd.retNW {pc : Nat} {Ls : Array Slot} {z : Int32} {t : FieldType} {rest : List Value} (X : Stand p l e R (s.setVm vm0) m args below meth c T locs cells slots) (hx : p.tables.exec = Jvm.exec) (hlk : meth.locks = false) (eT : T.heap = h) (hh : s.heap = h0) (hS : s.Since vm0 k0) (hk0 : k0 ≤ h.size) (hEL : EW Z a0 EL) (hZ : Z.Warmed39 vm0) (HR : CHr Z EL s.vm h0 vm0 h) (hret : meth.sig.returnType = some t) (ht : t = .boolean ∨ t = .byte ∨ t = .char ∨ t = .short)
    (hd : decode c.code pc = .ok (.ireturn, 1)) (hQ : Q (some (.int (nar t z))) h locs) (hk : cells ≤ k) (hn : slots ≤ n) : OEnd p e below (GW s Z EL Q k n) (T.setTop (mkF m pc Ls (.int z :: rest))) :=
  OEnd.outW X hlk eT hh hS hk0 hEL hZ HR (fun q => by rw [hret] at q; cases q) (fun fs hr => Jvm.RoadKit.retN X hx hret ht hd hr) hQ hk hn
theorem OEnd.retIW {pc : Nat} {Ls : Array Slot} {z : Int32} {rest : List Value} (X : Stand p l e R (s.setVm vm0) m args below meth c T locs cells slots) (hx : p.tables.exec = Jvm.exec) (hlk : meth.locks = false) (eT : T.heap = h) (hh : s.heap = h0) (hS : s.Since vm0 k0) (hk0 : k0 ≤ h.size) (hEL : EW Z a0 EL) (hZ : Z.Warmed39 vm0) (HR : CHr Z EL s.vm h0 vm0 h) (hret : meth.sig.returnType = some .int)
    (hd : decode c.code pc = .ok (.ireturn, 1)) (hQ : Q (some (.int z)) h locs) (hk : cells ≤ k) (hn : slots ≤ n) : OEnd p e below (GW s Z EL Q k n) (T.setTop (mkF m pc Ls (.int z :: rest))) :=
  OEnd.outW X hlk eT hh hS hk0 hEL hZ HR (fun q => by rw [hret] at q; cases q) (fun fs hr => retOut X hx hret rfl (Or.inl ⟨rfl, Or.inl rfl, z, rfl⟩) hd hr) hQ hk hn
theorem OEnd.retAW {pc : Nat} {Ls : Array Slot} {w : Value} {t : FieldType} {rest : List Value} (X : Stand p l e R (s.setVm vm0) m args below meth c T locs cells slots) (hx : p.tables.exec = Jvm.exec) (hlk : meth.locks = false) (eT : T.heap = h) (hh : s.heap = h0) (hS : s.Since vm0 k0) (hk0 : k0 ≤ h.size) (hEL : EW Z a0 EL) (hZ : Z.Warmed39 vm0) (HR : CHr Z EL s.vm h0 vm0 h) (hret : meth.sig.returnType = some t) (ht : t.isReference = true) (hw : w.isRef = true)
    (hd : decode c.code pc = .ok (.areturn, 1)) (hQ : Q (some w) h locs) (hk : cells ≤ k) (hn : slots ≤ n) : OEnd p e below (GW s Z EL Q k n) (T.setTop (mkF m pc Ls (w :: rest))) :=
  OEnd.outW X hlk eT hh hS hk0 hEL hZ HR (fun q => by rw [hret] at q; cases q) (fun fs hr => retOut X hx hret (own_narRef hw) (Or.inr (Or.inr (Or.inr (Or.inr ⟨rfl, ht, hw⟩)))) hd hr) hQ hk hn
/-- a String whose bytes aren't laid yet is no booked constant -/
theorem own_safeNull {x : Addr} (hal : Z.vm.Alike vm) (E : Exa Z h x "java/lang/String") (F : Fld Z h x "java/lang/String" "value" "[B" .null) : Safe Z EL vm h x := fun B => by
  obtain ⟨p, -, u, a, -, q, -, ⟨cS, ⟨⟨s1, s2, s3, ⟨cv, kv, iv, s4, s4'⟩, -, s6, -, s8, -, s10, ⟨hst, kB, hkB, comp, hkindB⟩, -⟩, -, -⟩, ⟨kS, g1, g2, -⟩, hB, -⟩, rfl | rfl⟩ := B
  · obtain ⟨cell, cf, k, i, f, f1, f2, -, -, -, -, f7⟩ := F
    cases (show h[q.sa]? = some q.sC from s1).symm.trans f1
    obtain ⟨kv', z4⟩ := ff_back (Z := Z) (U := Wst Z vm h) hal s4
    have z4' : Z.fieldFound? "java/lang/String" "value" "[B" = some (cv, kv', iv, q.fSV) := z4
    rw [f2] at z4'
    cases z4'
    rw [show q.sC.slots[q.fSV.slot]? = some (.ref q.sd) from s8] at f7
    cases f7
  · obtain ⟨cell, k, e1, e2, e3, -⟩ := E
    cases (show h[q.sd]? = some q.SA from s10).symm.trans e1
    have hB' : Z.vm.findClass "[B" = some q.SA.cls := by rw [← hal.findClass]; exact hB
    exact ids_ne (Z := Z) e2 hB' (by decide) rfl
theorem own_safeArv {x : Addr} {kk : ClassId} {ty : FieldType} {z : Int32} {vs : List Value} {d : Value} (hal : Z.vm.Alike vm) (A : Arv Z h x kk ty z vs d) (ht : ty ≠ .byte) : Safe Z EL vm h x := by
  obtain ⟨cl, A1, -⟩ := A
  exact Safe.arr hal A1 ht
end OwnW
end Jvm.RoadKit
namespace Jvm.RoadKit
open Sem ClassFile Op Lib Jvm.Stand Jvm.Free Jvm.LawKit
/-- a String of these chars, each 0 to 255 -/
def IsStr (Z : State) (h : Heap) (a : Addr) (cs : List Int32) : Prop := Exa Z h a "java/lang/String" ∧ Fld Z h a "java/lang/String" "coder" "B" (.int 0) ∧
  (∃ (t : Addr) (kb : ClassId), Fld Z h a "java/lang/String" "value" "[B" (.ref t) ∧ Arv Z h t kb .byte (Int32.ofNat cs.length) ((cs.map fun c => c.toInt8.toInt32).map Value.int) (.int 0)) ∧ (∀ c ∈ cs, ¬ c < 0 ∧ ¬ (255 : Int32) < c) ∧ cs.length ≤ 4000
theorem IsStr.keep {Z : State} {h h' : Heap} {a : Addr} {cs : List Int32} (S : IsStr Z h a cs) (K : Keep h h' []) : IsStr Z h' a cs := by
  obtain ⟨E, C, ⟨t, kb, V, A⟩, r⟩ := S
  exact ⟨E.keep K, C.keep K nin0, ⟨t, kb, V.keep K nin0, A.keep K nin0⟩, r⟩
/-- a cell that is no String and no array -/
def Apart (Z : State) (h : Heap) (x : Addr) : Prop := (∀ a, Exa Z h a "java/lang/String" → x ≠ a) ∧ ∀ (b : Addr) (k : ClassId) (ty : FieldType) (z : Int32) (vs : List Value) (d : Value), Arv Z h b k ty z vs d → x ≠ b
theorem own_apart {Z : State} {a0 : Array Value} {h : Heap} {x : Addr} {C : String} {n : Nat} (E : Exa Z h x C) (w : (Cond.instantiable C n).before a0 Z = true) (hn : C ≠ "java/lang/String") : Apart Z h x := ⟨fun _ F => Exa.ne E F hn, fun _ _ _ _ _ _ F => Exa.neArv E F w⟩
theorem IsStr.keepA {Z : State} {h h' : Heap} {a : Addr} {cs : List Int32} {ws : List Addr} (S : IsStr Z h a cs) (K : Keep h h' ws) (q : ∀ x ∈ ws, Apart Z h x) : IsStr Z h' a cs := by
  obtain ⟨E, C, ⟨t, kb, V, A⟩, r⟩ := S
  have n1 : a ∉ ws := fun z => (q a z).1 a E rfl
  have n2 : t ∉ ws := fun z => (q t z).2 t _ _ _ _ _ A rfl
  exact ⟨E.keep K, C.keep K n1, ⟨t, kb, V.keep K n1, A.keep K n2⟩, r⟩
theorem IsStr.lt {Z : State} {h : Heap} {a : Addr} {cs : List Int32} (S : IsStr Z h a cs) : a < h.size := S.1.lt
theorem own_ch {x y : Int32} (q : (x &&& 255).toUInt32.toUInt16.toUInt32.toInt32 = y) : ¬ y < 0 ∧ ¬ (255 : Int32) < y := by
  rw [i2c_mask] at q
  subst q
  have e : (x &&& 255).toInt = x.toInt % 256 := Jvm.Kit.i32_mask x 255 (k := 8) (by decide) (by decide)
  have z : (0 : Int32).toInt = 0 := rfl
  have m : (255 : Int32).toInt = 255 := rfl
  exact ⟨fun q => by have := Int32.lt_iff_toInt_lt.mp q; omega, fun q => by have := Int32.lt_iff_toInt_lt.mp q; omega⟩
theorem own_narC {y : Int32} (h : ¬ y < 0 ∧ ¬ (255 : Int32) < y) : nar .char y = y := by
  have z : (0 : Int32).toInt = 0 := rfl
  have m : (255 : Int32).toInt = 255 := rfl
  have h1 : 0 ≤ y.toInt := by have := mt Int32.lt_iff_toInt_lt.mpr h.1; omega
  have h2 : y.toInt ≤ 255 := by have := mt Int32.lt_iff_toInt_lt.mpr h.2; omega
  have e : y &&& 255 = y := Int32.toInt_inj.mp (by
    rw [Jvm.Kit.i32_mask y 255 (k := 8) (by decide) (by decide)]
    omega)
  have q := i2c_mask y
  rw [e] at q
  exact q
theorem own_nar8 (x : Int32) : nar .byte x.toInt8.toInt32 = x.toInt8.toInt32 := by
  show x.toInt8.toInt32.toInt8.toInt32 = _
  simp
theorem own_up {cs : List Int32} (h : ∀ c ∈ cs, ¬ c < 0 ∧ ¬ (255 : Int32) < c) : ∀ c ∈ cs, ¬ c < 0 ∧ ¬ (65535 : Int32) < c := fun c hc => ⟨(h c hc).1, fun q => (h c hc).2 (Int32.lt_trans (by decide) q)⟩
theorem own_eqv {v : Option Value} {P : Prop} (h : (v = some (.int 1) ∧ P) ∨ (v = some (.int 0) ∧ ¬ P)) : ∃ bb : Int32, v = some (.int bb) ∧ ((bb = 1 ∧ P) ∨ (bb = 0 ∧ ¬ P)) := by
  rcases h with ⟨h, p⟩ | ⟨h, p⟩
  · exact ⟨1, h, Or.inl ⟨rfl, p⟩⟩
  · exact ⟨0, h, Or.inr ⟨rfl, p⟩⟩
theorem own_same {b e : Int32} {P : Prop} (h1 : (b = 1 ∧ P) ∨ (b = 0 ∧ ¬ P)) (h2 : (e = 1 ∧ P) ∨ (e = 0 ∧ ¬ P)) : b = e := by
  rcases h1 with ⟨rfl, p⟩ | ⟨rfl, p⟩
  · rcases h2 with ⟨rfl, q⟩ | ⟨rfl, q⟩
    · rfl
    · exact absurd p q
  · rcases h2 with ⟨rfl, q⟩ | ⟨rfl, q⟩
    · exact absurd q p
    · rfl
end Jvm.RoadKit
namespace Jvm.Pilot.@@N@@
open Jvm Jvm.ClassFile Sem Op Lib Jvm.Free Jvm.Stand Jvm.LawKit Jvm.RoadKit Bundle Jvm.Pilot.@@N@@.Jvm.D
abbrev EL : List (String × Nat) := [("java/lang/String", 7)]
theorem own_strAtoms : ∀ d ∈ Bundle.stringAtoms, d ∈ tables_1 := by decide +kernel
theorem own_strEq : ∀ d ∈ StrChars.Road.wordsEq, d ∈ tables_1 := by decide +kernel
theorem own_strWords : ∀ d ∈ StrChars.Road.words, d ∈ tables_1 := by decide +kernel
theorem own_ordOf {args : Array Value} {s : State} {t : Term} {k : Addr} {C n d : String} {a : Int32} (e : t.eval args s none [] s = some (.ref k)) (h : (Jvm.Cond.eq (Term.field t C n d) (Term.int a)).value args s none s [] = some true) : s.fieldOf? k C n d = some (.int a) := by
  obtain ⟨u, v, h1, h2, h3, h4⟩ := cmp_v (Or.inl h)
  have hv : v = .int a := (Option.some.inj ((Term.int_eval (a)).symm.trans h2)).symm
  subst hv
  rw [fld_at e] at h1
  obtain ⟨z, rfl⟩ : ∃ z, u = .int z := by cases u <;> first | exact ⟨_, rfl⟩ | (obtain ⟨w, q⟩ := h3; cases q) | (cases h3.2)
  have q := Cond.eq_ints (a := Term.field t C n d) (b := Term.int a) ((fld_at e).trans h1) (Term.int_eval (a)) |>.symm.trans h
  have q' : z = a := by simpa using q
  rw [h1, q']
theorem own_ordNe {s : State} {k k' : Addr} {C n d : String} {a b : Int32} (h1 : s.fieldOf? k C n d = some (.int a)) (h2 : s.fieldOf? k' C n d = some (.int b)) (hn : a ≠ b) : k ≠ k' := fun q => by
  subst q
  rw [h1] at h2
  exact hn (Value.int.inj (Option.some.inj h2))
theorem own_lit_ : (∀ c ∈ "".toList, c.toNat < 256) ∧ "".toList.map (fun c => Value.int (Jvm.Lit.byteI c.toNat.toUInt16)) = [] := ⟨by decide, by decide +kernel⟩
theorem d4_0 : decode jdk_42_method_149_code 0 = .ok (.aload_n 0, 1) := by decide +kernel
theorem d4_1 : decode jdk_42_method_149_code 1 = .ok (.invokespecial 1, 3) := by decide +kernel
theorem d4_4 : decode jdk_42_method_149_code 4 = .ok (.iload_n 3, 1) := by decide +kernel
theorem d4_5 : decode jdk_42_method_149_code 5 = .ok (.ifCond .ne 22, 3) := by decide +kernel
theorem d4_8 : decode jdk_42_method_149_code 8 = .ok (.aload_n 0, 1) := by decide +kernel
theorem d4_9 : decode jdk_42_method_149_code 9 = .ok (.ldc 7, 2) := by decide +kernel
theorem d4_11 : decode jdk_42_method_149_code 11 = .ok (.getfield 9, 3) := by decide +kernel
theorem d4_14 : decode jdk_42_method_149_code 14 = .ok (.putfield 9, 3) := by decide +kernel
theorem d4_17 : decode jdk_42_method_149_code 17 = .ok (.aload_n 0, 1) := by decide +kernel
theorem d4_18 : decode jdk_42_method_149_code 18 = .ok (.ldc 7, 2) := by decide +kernel
theorem d4_20 : decode jdk_42_method_149_code 20 = .ok (.getfield 15, 3) := by decide +kernel
theorem d4_23 : decode jdk_42_method_149_code 23 = .ok (.putfield 15, 3) := by decide +kernel
theorem d4_26 : decode jdk_42_method_149_code 26 = .ok (.return_, 1) := by decide +kernel
theorem pn_java_lang_String : plainName "java/lang/String" = true := by first | (simp [plainName, overriddenIn]; done) | decide +kernel
abbrev RMrmS4e : Room := { frames := 1, cells := 4, slots := 8, locals := 12 }
theorem ef_rmS4e (m : MethodId) (a1 : Addr) (a2 : Addr) : entryFrame m #[(.ref a1), (.ref a2), (.int (0 : Int32)), (.int (0 : Int32)), .null] 6 = mkF m 0 #[.val (.ref a1), .val (.ref a2), .val (.int (0 : Int32)), .val (.int (0 : Int32)), .val .null, .unset] [] := by first | (simp [entryFrame, mkF, argsToLocals, Value.category]; done) | rfl
def QrmS4e (Z : State) (zc : Int32) (k_IDENTIFIER : Addr) (k_INTEGER : Addr) (k_END : Addr) (k_ARCHITECTURE : Addr) (k_COLON : Addr) (k_MINUS_SIGN : Addr) (k_NOT : Addr) (k_SUBSET : Addr) (of : Addr → Int32) (a1 : Addr) (a2 : Addr) (h0 : Heap) (v : Option Value) (h : Heap) (L : List Loc) : Prop := v = none ∧ Fr Z.heap.size L ∧ Keep h0 h [a1] ∧ IsStr Z h a1 []
set_option maxRecDepth 65536 in
set_option maxHeartbeats 40000000 in
theorem rmS4e (l : Launch) (Z : State) (a0 : Array Value) (hw : ∀ d ∈ tables_1, d.before a0 Z = true) (zc : Int32) (k_IDENTIFIER : Addr) (k_INTEGER : Addr) (k_END : Addr) (k_ARCHITECTURE : Addr) (k_COLON : Addr) (k_MINUS_SIGN : Addr) (k_NOT : Addr) (k_SUBSET : Addr) (of : Addr → Int32) (S_CS : Sta Z Z.heap "java/lang/String" "COMPACT_STRINGS" "Z" (.int zc)) (hzc : ¬ zc = 0) (S_IDENTIFIER : Sta Z Z.heap "com/example/thorough_topology/thoroughtopology/language/TokenKind" "IDENTIFIER" "Lcom/example/thorough_topology/thoroughtopology/language/TokenKind;" (.ref k_IDENTIFIER)) (S_INTEGER : Sta Z Z.heap "com/example/thorough_topology/thoroughtopology/language/TokenKind" "INTEGER" "Lcom/example/thorough_topology/thoroughtopology/language/TokenKind;" (.ref k_INTEGER)) (S_END : Sta Z Z.heap "com/example/thorough_topology/thoroughtopology/language/TokenKind" "END" "Lcom/example/thorough_topology/thoroughtopology/language/TokenKind;" (.ref k_END)) (S_ARCHITECTURE : Sta Z Z.heap "com/example/thorough_topology/thoroughtopology/language/TokenKind" "ARCHITECTURE" "Lcom/example/thorough_topology/thoroughtopology/language/TokenKind;" (.ref k_ARCHITECTURE)) (S_COLON : Sta Z Z.heap "com/example/thorough_topology/thoroughtopology/language/TokenKind" "COLON" "Lcom/example/thorough_topology/thoroughtopology/language/TokenKind;" (.ref k_COLON)) (S_MINUS_SIGN : Sta Z Z.heap "com/example/thorough_topology/thoroughtopology/language/TokenKind" "MINUS_SIGN" "Lcom/example/thorough_topology/thoroughtopology/language/TokenKind;" (.ref k_MINUS_SIGN)) (S_NOT : Sta Z Z.heap "com/example/thorough_topology/thoroughtopology/language/TokenKind" "NOT" "Lcom/example/thorough_topology/thoroughtopology/language/TokenKind;" (.ref k_NOT)) (S_SUBSET : Sta Z Z.heap "com/example/thorough_topology/thoroughtopology/language/TokenKind" "SUBSET" "Lcom/example/thorough_topology/thoroughtopology/language/TokenKind;" (.ref k_SUBSET)) (E_IDENTIFIER : Exa Z Z.heap k_IDENTIFIER "com/example/thorough_topology/thoroughtopology/language/TokenKind") (od_IDENTIFIER : of k_IDENTIFIER = 0) (E_INTEGER : Exa Z Z.heap k_INTEGER "com/example/thorough_topology/thoroughtopology/language/TokenKind") (od_INTEGER : of k_INTEGER = 1) (E_END : Exa Z Z.heap k_END "com/example/thorough_topology/thoroughtopology/language/TokenKind") (od_END : of k_END = 2) (E_ARCHITECTURE : Exa Z Z.heap k_ARCHITECTURE "com/example/thorough_topology/thoroughtopology/language/TokenKind") (od_ARCHITECTURE : of k_ARCHITECTURE = 3) (E_COLON : Exa Z Z.heap k_COLON "com/example/thorough_topology/thoroughtopology/language/TokenKind") (od_COLON : of k_COLON = 37) (E_MINUS_SIGN : Exa Z Z.heap k_MINUS_SIGN "com/example/thorough_topology/thoroughtopology/language/TokenKind") (od_MINUS_SIGN : of k_MINUS_SIGN = 55) (E_NOT : Exa Z Z.heap k_NOT "com/example/thorough_topology/thoroughtopology/language/TokenKind") (od_NOT : of k_NOT = 25) (E_SUBSET : Exa Z Z.heap k_SUBSET "com/example/thorough_topology/thoroughtopology/language/TokenKind") (od_SUBSET : of k_SUBSET = 36) (hEL : EW Z a0 EL) (ws : List Jvm.Cond) (a1 : Addr) (a2 : Addr) (h0 : Heap) (O0 : Ext Z.heap h0) (E1 : Exa Z h0 a1 "java/lang/String") (Fv : Fld Z h0 a1 "java/lang/String" "value" "[B" .null) (Fc : Fld Z h0 a1 "java/lang/String" "coder" "B" (.int (0 : Int32))) (g1 : Z.heap.size ≤ a1) :
    MetFree l (⟨"java/lang/String", "<init>", "([CIILjava/lang/Void;)V"⟩ : MethodName) (head1 (Jvm.Cond.code (⟨"java/lang/String", "<init>", "([CIILjava/lang/Void;)V"⟩ : MethodName) jdk_42_method_149_code 6 none :: ws) RMrmS4e) (fun a U => a = #[(.ref a1), (.ref a2), (.int (0 : Int32)), (.int (0 : Int32)), .null] ∧ Z.Warmed39 U.vm ∧ U.heap = h0 ∧ CHv Z EL U.vm h0) (fun _ _ _ _ _ => True) (fun _ U o U' => ∃ v L, o = .returned v ∧ QrmS4e Z zc k_IDENTIFIER k_INTEGER k_END k_ARCHITECTURE k_COLON k_MINUS_SIGN k_NOT k_SUBSET of a1 a2 h0 v U'.heap L ∧ CHr Z EL U.vm U.heap U'.vm U'.heap ∧ ReturnedEndW U o U' L RMrmS4e.cells RMrmS4e.slots) := by
  refine MetFree.of_bodySF (plainFor_of_name pn_java_lang_String) hisR ?_
  intro p e s m args below meth c s₁ Bd hml0 hP hK
  obtain ⟨rfl, hZ, hh, hC0⟩ := hP
  have hx := Bd.exec
  have hby := Bd.bytes
  have hlk : meth.locks = false := BodyLoose.notSynchronized Bd
  have hret := Bd.returns
  have hml : c.maxLocals = 6 := hml0
  have hown : s.vm.findClass "java/lang/String" = some m.cls := findClass_of_methodNamed Bd.named
  have hnm := (name_of_methodNamed Bd.named Bd.method).1
  have X0 : Stand p l e RMrmS4e (s.setVm s.vm) m #[(.ref a1), (.ref a2), (.int (0 : Int32)), (.int (0 : Int32)), .null] below meth c s₁ [] 0 0 := Stand.of_body Bd
  have e0 : s₁.heap = h0 := by rw [← hh, Bd.state]; rfl
  have N0 := Fr.nil Z.heap.size
  have hZ : Z.Warmed39 (s.setVm s.vm).vm := hZ
  have hS0 : s.Since s.vm h0.size := (State.WarmedH.refl s).since _
  have hk0 : h0.size ≤ h0.size := Nat.le_refl _
  have HR0 : CHr Z EL s.vm h0 s.vm h0 := CHr.refl hC0
  have hwS : ∀ d ∈ Bundle.stringAtoms, d.before a0 Z = true := fun d hd => hw d (own_strAtoms d hd)
  show OEnd p e below (GW s Z EL (QrmS4e Z zc k_IDENTIFIER k_INTEGER k_END k_ARCHITECTURE k_COLON k_MINUS_SIGN k_NOT k_SUBSET of a1 a2 h0) RMrmS4e.cells RMrmS4e.slots) _
  refine OEnd.of (fun t k => castTop (ef_rmS4e m a1 a2) k) ?_
  have Sf1 : Safe Z EL s.vm h0 a1 := own_safeNull hZ.alike E1 Fv
  have lt2 : a1 < h0.size := (E1).lt
  refine OEnd.of (fun t k => XS.aloadN X0.here hx rfl (hb hby d4_0) rfl rfl k) ?_
  show OEnd p e below _ (s₁.setTop (mkF m 1 #[.val (.ref a1), .val (.ref a2), .val (.int (0 : Int32)), .val (.int (0 : Int32)), .val .null, .unset] [(.ref a1)]))
  obtain ⟨T3, X3, e3, st3⟩ := initO X0 hx hZ hown (hw _ (List.mem_of_getElem? (i := 25) rfl)) (hw _ (List.mem_of_getElem? (i := 26) rfl)) (hw _ (List.mem_of_getElem? (i := 27) rfl)) e0 (g := (mkF m 1 #[.val (.ref a1), .val (.ref a2), .val (.int (0 : Int32)), .val (.int (0 : Int32)), .val .null, .unset] [(.ref a1)])) rfl (by rw [hml]; rfl) rfl (hb hby d4_1) (by decide) (W := 0) (by show 2 * 0 + _ ≤ _; exact Nat.le_of_eq rfl) (by decide)
  refine OEnd.of st3 ?_
  show OEnd p e below _ (T3.setTop (mkF m 4 #[.val (.ref a1), .val (.ref a2), .val (.int (0 : Int32)), .val (.int (0 : Int32)), .val .null, .unset] []))
  refine OEnd.of (fun t k => XS.iloadN X3.here hx rfl (hb hby d4_4) rfl k) ?_
  show OEnd p e below _ (T3.setTop (mkF m 5 #[.val (.ref a1), .val (.ref a2), .val (.int (0 : Int32)), .val (.int (0 : Int32)), .val .null, .unset] [(.int (0 : Int32))]))
  refine OEnd.of (fun t k => XS.ifNo X3.here hx rfl (hb hby d4_5) rfl ((if0 _ _).trans (teq (by decide : ((0 : Int32) = (0 : Int32)))).2) k) ?_
  show OEnd p e below _ (T3.setTop (mkF m 8 #[.val (.ref a1), .val (.ref a2), .val (.int (0 : Int32)), .val (.int (0 : Int32)), .val .null, .unset] []))
  refine OEnd.of (fun t k => XS.aloadN X3.here hx rfl (hb hby d4_8) rfl rfl k) ?_
  show OEnd p e below _ (T3.setTop (mkF m 9 #[.val (.ref a1), .val (.ref a2), .val (.int (0 : Int32)), .val (.int (0 : Int32)), .val .null, .unset] [(.ref a1)]))
  obtain ⟨ba4, T4, h4, k14, bb4, kb4, X4, e4, E4, S4, hk4, hZ4, hown4, Ex4, Cd4, Vl4, Ar4, lta4, ltb4, C4, Lt4, Sn4, st4⟩ := ldcCH X3 hx hZ hown (hw _ (List.mem_of_getElem? (i := 65) rfl)) hwS e3 hS0 hk0 hEL (List.mem_of_getElem? (i := 0) rfl) HR0.1 (vs := []) (z := (0 : Int32)) own_lit_ (by decide) (by decide) (g := (mkF m 9 #[.val (.ref a1), .val (.ref a2), .val (.int (0 : Int32)), .val (.int (0 : Int32)), .val .null, .unset] [(.ref a1)])) rfl (hb hby d4_9) (n := 0) (by decide) (by decide) (by decide) (by decide)
  refine OEnd.of st4 ?_
  have CR5 : CHr Z EL s.vm h0 T4.vm h4 := C4
  have HR6 : CHr Z EL s.vm h0 T4.vm h4 := HR0.trans CR5
  have Sf7 : Safe Z EL T4.vm h4 a1 := CR5.safe lt2 Sf1
  show OEnd p e below _ (T4.setTop (mkF m 11 #[.val (.ref a1), .val (.ref a2), .val (.int (0 : Int32)), .val (.int (0 : Int32)), .val .null, .unset] [(.ref ba4), (.ref a1)]))
  obtain ⟨T8, X8, e8, st8⟩ := getF X4 hx hZ4 hown4 (host := "") (Or.inl (hw _ (List.mem_of_getElem? (i := 42) rfl))) Via.refl e4 Vl4 (g := (mkF m 11 #[.val (.ref a1), .val (.ref a2), .val (.int (0 : Int32)), .val (.int (0 : Int32)), .val .null, .unset] [(.ref ba4), (.ref a1)])) rfl rfl (hb hby d4_11)
  refine OEnd.of st8 ?_
  show OEnd p e below _ (T8.setTop (mkF m 14 #[.val (.ref a1), .val (.ref a2), .val (.int (0 : Int32)), .val (.int (0 : Int32)), .val .null, .unset] [(.ref bb4), (.ref a1)]))
  have K9 : Keep h0 h4 [] := ((Keep.refl h0 []).ext E4)
  obtain ⟨T10, h10, X10, e10, W10, st10⟩ := putF X8 hx hZ4 hown4 (host := "") (Or.inl (hw _ (List.mem_of_getElem? (i := 42) rfl))) Via.refl e8 (Fv.keep K9 nin0) (E1.keep K9) (Or.inr ⟨(hw _ (List.mem_of_getElem? (i := 43) rfl)), rfl, hnm⟩) (hw _ (List.mem_of_getElem? (i := 15) rfl)) (ty := (.array .byte)) (by decide) rfl rfl (g := (mkF m 14 #[.val (.ref a1), .val (.ref a2), .val (.int (0 : Int32)), .val (.int (0 : Int32)), .val .null, .unset] [(.ref bb4), (.ref a1)])) rfl rfl (hb hby d4_14)
  refine OEnd.of st10 ?_
  have F11 : Fld Z h10 a1 "java/lang/String" "value" "[B" (.ref bb4) := Fld.same W10 (Fv.keep K9 nin0)
  have E12 : Exa Z h10 a1 "java/lang/String" := (E1.keep K9).wr W10
  have F13 : Fld Z h10 a1 "java/lang/String" "coder" "B" (.int (0 : Int32)) := (Fc.keep K9 nin0).other W10 (Or.inr (slot_ne (Or.inr (hw _ (List.mem_of_getElem? (i := 41) rfl))) (Or.inr (hw _ (List.mem_of_getElem? (i := 43) rfl))) (by decide) (t := .byte) (t' := (.array .byte)) (by decide) (by decide)))
  have N14 := Fr.snoc X10 N0 g1
  have CR15 : CHr Z EL T4.vm h4 T4.vm h10 := CHr.wr W10 Sf7 HR6.1
  have HR16 : CHr Z EL s.vm h0 T4.vm h10 := HR6.trans CR15
  have Sf17 : Safe Z EL T4.vm h10 a1 := CR15.safe (Nat.lt_of_lt_of_le lt2 K9.1) Sf7
  show OEnd p e below _ (T10.setTop (mkF m 17 #[.val (.ref a1), .val (.ref a2), .val (.int (0 : Int32)), .val (.int (0 : Int32)), .val .null, .unset] []))
  refine OEnd.of (fun t k => XS.aloadN X10.here hx rfl (hb hby d4_17) rfl rfl k) ?_
  show OEnd p e below _ (T10.setTop (mkF m 18 #[.val (.ref a1), .val (.ref a2), .val (.int (0 : Int32)), .val (.int (0 : Int32)), .val .null, .unset] [(.ref a1)]))
  have K19 : Keep h4 h10 [a1] := ((Keep.refl h4 [a1]).wr W10 (Or.inl (List.mem_of_getElem? (i := 0) rfl)))
  obtain ⟨ba18, T18, h18, k118, bb18, kb18, X18, e18, E18, S18, hk18, hZ18, hown18, Ex18, Cd18, Vl18, Ar18, lta18, ltb18, C18, Lt18, Sn18, st18⟩ := ldcCH X10 hx hZ4 hown4 (hw _ (List.mem_of_getElem? (i := 65) rfl)) hwS e10 S4 (Nat.le_trans hk4 K19.1) hEL (List.mem_of_getElem? (i := 0) rfl) HR16.1 (vs := []) (z := (0 : Int32)) own_lit_ (by decide) (by decide) (g := (mkF m 18 #[.val (.ref a1), .val (.ref a2), .val (.int (0 : Int32)), .val (.int (0 : Int32)), .val .null, .unset] [(.ref a1)])) rfl (hb hby d4_18) (n := 0) (by decide) (by decide) (by decide) (by decide)
  refine OEnd.of st18 ?_
  have CR20 : CHr Z EL T4.vm h10 T18.vm h18 := C18
  have HR21 : CHr Z EL s.vm h0 T18.vm h18 := HR16.trans CR20
  have K22 : Keep h0 h10 [a1] := (((Keep.refl h0 [a1]).ext E4).wr W10 (Or.inl (List.mem_of_getElem? (i := 0) rfl)))
  have Sf23 : Safe Z EL T18.vm h18 a1 := CR20.safe (Nat.lt_of_lt_of_le lt2 K22.1) Sf17
  show OEnd p e below _ (T18.setTop (mkF m 20 #[.val (.ref a1), .val (.ref a2), .val (.int (0 : Int32)), .val (.int (0 : Int32)), .val .null, .unset] [(.ref ba18), (.ref a1)]))
  obtain ⟨T24, X24, e24, st24⟩ := getF X18 hx hZ18 hown18 (host := "") (Or.inl (hw _ (List.mem_of_getElem? (i := 40) rfl))) Via.refl e18 Cd18 (g := (mkF m 20 #[.val (.ref a1), .val (.ref a2), .val (.int (0 : Int32)), .val (.int (0 : Int32)), .val .null, .unset] [(.ref ba18), (.ref a1)])) rfl rfl (hb hby d4_20)
  refine OEnd.of st24 ?_
  show OEnd p e below _ (T24.setTop (mkF m 23 #[.val (.ref a1), .val (.ref a2), .val (.int (0 : Int32)), .val (.int (0 : Int32)), .val .null, .unset] [(.int (0 : Int32)), (.ref a1)]))
  have K25 : Keep h10 h18 [] := ((Keep.refl h10 []).ext E18)
  obtain ⟨T26, h26, X26, e26, W26, st26⟩ := putFN X24 hx hZ18 hown18 (hw _ (List.mem_of_getElem? (i := 40) rfl)) Via.refl e24 (F13.keep K25 nin0) (E12.keep K25) (Or.inr ⟨(hw _ (List.mem_of_getElem? (i := 41) rfl)), rfl, hnm⟩) (hw _ (List.mem_of_getElem? (i := 15) rfl)) (ty := .byte) (v' := (.int (0 : Int32))) (by decide) rfl (by decide) (g := (mkF m 23 #[.val (.ref a1), .val (.ref a2), .val (.int (0 : Int32)), .val (.int (0 : Int32)), .val .null, .unset] [(.int (0 : Int32)), (.ref a1)])) rfl rfl (hb hby d4_23)
  refine OEnd.of st26 ?_
  have F27 : Fld Z h26 a1 "java/lang/String" "coder" "B" (.int (0 : Int32)) := Fld.same W26 (F13.keep K25 nin0)
  have E28 : Exa Z h26 a1 "java/lang/String" := (E12.keep K25).wr W26
  have F29 : Fld Z h26 a1 "java/lang/String" "value" "[B" (.ref bb4) := (F11.keep K25 nin0).other W26 (Or.inr (slot_ne (Or.inr (hw _ (List.mem_of_getElem? (i := 43) rfl))) (Or.inr (hw _ (List.mem_of_getElem? (i := 41) rfl))) (by decide) (t := (.array .byte)) (t' := .byte) (by decide) (by decide)))
  have N30 := Fr.snoc X26 N14 g1
  have CR31 : CHr Z EL T18.vm h18 T18.vm h26 := CHr.wr W26 Sf23 HR21.1
  have HR32 : CHr Z EL s.vm h0 T18.vm h26 := HR21.trans CR31
  have K33 : Keep h0 h18 [a1] := (K22.ext E18)
  have Sf34 : Safe Z EL T18.vm h26 a1 := CR31.safe (Nat.lt_of_lt_of_le lt2 K33.1) Sf23
  show OEnd p e below _ (T26.setTop (mkF m 26 #[.val (.ref a1), .val (.ref a2), .val (.int (0 : Int32)), .val (.int (0 : Int32)), .val .null, .unset] []))
  have K35 : Keep h4 h26 [a1] := ((K19.ext E18).wr W26 (Or.inl (List.mem_of_getElem? (i := 0) rfl)))
  have K36 : Keep h0 h26 [a1] := (K33.wr W26 (Or.inl (List.mem_of_getElem? (i := 0) rfl)))
  have K37 : Keep h18 h26 [a1] := ((Keep.refl h18 [a1]).wr W26 (Or.inl (List.mem_of_getElem? (i := 0) rfl)))
  exact OEnd.retVW X26 hx hlk e26 hh S18 (Nat.le_trans hk18 K37.1) hEL hZ18 HR32 hret (hb hby d4_26) ⟨rfl, N30, K36, ⟨E28, F27, ⟨bb4, kb4, F29, (Ar4.keep K35 (ninS (Ne.symm (Sn4 _ Sf7).2) nin0))⟩, (fun _ q => nomatch q), by decide⟩⟩ (by decide) (by decide)
theorem pd_285bCIILjava2flang2fVoid3b29V : parseMethodDescriptor "([CIILjava/lang/Void;)V" = some ⟨[(.array .char), .int, .int, (.object "java/lang/Void")], none⟩ := by decide +kernel
theorem d3_0 : decode jdk_42_method_3_code 0 = .ok (.aload_n 0, 1) := by decide +kernel
theorem d3_1 : decode jdk_42_method_3_code 1 = .ok (.aload_n 1, 1) := by decide +kernel
theorem d3_2 : decode jdk_42_method_3_code 2 = .ok (.iconst 0, 1) := by decide +kernel
theorem d3_3 : decode jdk_42_method_3_code 3 = .ok (.aload_n 1, 1) := by decide +kernel
theorem d3_4 : decode jdk_42_method_3_code 4 = .ok (.arraylength, 1) := by decide +kernel
theorem d3_5 : decode jdk_42_method_3_code 5 = .ok (.aconst_null, 1) := by decide +kernel
theorem d3_6 : decode jdk_42_method_3_code 6 = .ok (.invokespecial 27, 3) := by decide +kernel
theorem d3_9 : decode jdk_42_method_3_code 9 = .ok (.return_, 1) := by decide +kernel
abbrev RMrmS1e : Room := { frames := 2, cells := 4, slots := 8, locals := 29 }
theorem ef_rmS1e (m : MethodId) (a1 : Addr) (a2 : Addr) : entryFrame m #[(.ref a1), (.ref a2)] 2 = mkF m 0 #[.val (.ref a1), .val (.ref a2)] [] := by first | (simp [entryFrame, mkF, argsToLocals, Value.category]; done) | rfl
def QrmS1e (Z : State) (zc : Int32) (k_IDENTIFIER : Addr) (k_INTEGER : Addr) (k_END : Addr) (k_ARCHITECTURE : Addr) (k_COLON : Addr) (k_MINUS_SIGN : Addr) (k_NOT : Addr) (k_SUBSET : Addr) (of : Addr → Int32) (a1 : Addr) (a2 : Addr) (kk : ClassId) (h0 : Heap) (v : Option Value) (h : Heap) (L : List Loc) : Prop := v = none ∧ Fr Z.heap.size L ∧ Keep h0 h [a1] ∧ IsStr Z h a1 []
set_option maxRecDepth 65536 in
set_option maxHeartbeats 40000000 in
theorem rmS1e (l : Launch) (Z : State) (a0 : Array Value) (hw : ∀ d ∈ tables_1, d.before a0 Z = true) (zc : Int32) (k_IDENTIFIER : Addr) (k_INTEGER : Addr) (k_END : Addr) (k_ARCHITECTURE : Addr) (k_COLON : Addr) (k_MINUS_SIGN : Addr) (k_NOT : Addr) (k_SUBSET : Addr) (of : Addr → Int32) (S_CS : Sta Z Z.heap "java/lang/String" "COMPACT_STRINGS" "Z" (.int zc)) (hzc : ¬ zc = 0) (S_IDENTIFIER : Sta Z Z.heap "com/example/thorough_topology/thoroughtopology/language/TokenKind" "IDENTIFIER" "Lcom/example/thorough_topology/thoroughtopology/language/TokenKind;" (.ref k_IDENTIFIER)) (S_INTEGER : Sta Z Z.heap "com/example/thorough_topology/thoroughtopology/language/TokenKind" "INTEGER" "Lcom/example/thorough_topology/thoroughtopology/language/TokenKind;" (.ref k_INTEGER)) (S_END : Sta Z Z.heap "com/example/thorough_topology/thoroughtopology/language/TokenKind" "END" "Lcom/example/thorough_topology/thoroughtopology/language/TokenKind;" (.ref k_END)) (S_ARCHITECTURE : Sta Z Z.heap "com/example/thorough_topology/thoroughtopology/language/TokenKind" "ARCHITECTURE" "Lcom/example/thorough_topology/thoroughtopology/language/TokenKind;" (.ref k_ARCHITECTURE)) (S_COLON : Sta Z Z.heap "com/example/thorough_topology/thoroughtopology/language/TokenKind" "COLON" "Lcom/example/thorough_topology/thoroughtopology/language/TokenKind;" (.ref k_COLON)) (S_MINUS_SIGN : Sta Z Z.heap "com/example/thorough_topology/thoroughtopology/language/TokenKind" "MINUS_SIGN" "Lcom/example/thorough_topology/thoroughtopology/language/TokenKind;" (.ref k_MINUS_SIGN)) (S_NOT : Sta Z Z.heap "com/example/thorough_topology/thoroughtopology/language/TokenKind" "NOT" "Lcom/example/thorough_topology/thoroughtopology/language/TokenKind;" (.ref k_NOT)) (S_SUBSET : Sta Z Z.heap "com/example/thorough_topology/thoroughtopology/language/TokenKind" "SUBSET" "Lcom/example/thorough_topology/thoroughtopology/language/TokenKind;" (.ref k_SUBSET)) (E_IDENTIFIER : Exa Z Z.heap k_IDENTIFIER "com/example/thorough_topology/thoroughtopology/language/TokenKind") (od_IDENTIFIER : of k_IDENTIFIER = 0) (E_INTEGER : Exa Z Z.heap k_INTEGER "com/example/thorough_topology/thoroughtopology/language/TokenKind") (od_INTEGER : of k_INTEGER = 1) (E_END : Exa Z Z.heap k_END "com/example/thorough_topology/thoroughtopology/language/TokenKind") (od_END : of k_END = 2) (E_ARCHITECTURE : Exa Z Z.heap k_ARCHITECTURE "com/example/thorough_topology/thoroughtopology/language/TokenKind") (od_ARCHITECTURE : of k_ARCHITECTURE = 3) (E_COLON : Exa Z Z.heap k_COLON "com/example/thorough_topology/thoroughtopology/language/TokenKind") (od_COLON : of k_COLON = 37) (E_MINUS_SIGN : Exa Z Z.heap k_MINUS_SIGN "com/example/thorough_topology/thoroughtopology/language/TokenKind") (od_MINUS_SIGN : of k_MINUS_SIGN = 55) (E_NOT : Exa Z Z.heap k_NOT "com/example/thorough_topology/thoroughtopology/language/TokenKind") (od_NOT : of k_NOT = 25) (E_SUBSET : Exa Z Z.heap k_SUBSET "com/example/thorough_topology/thoroughtopology/language/TokenKind") (od_SUBSET : of k_SUBSET = 36) (hEL : EW Z a0 EL) (ws : List Jvm.Cond) (a1 : Addr) (a2 : Addr) (kk : ClassId) (h0 : Heap) (O0 : Ext Z.heap h0) (E1 : Exa Z h0 a1 "java/lang/String") (Fv : Fld Z h0 a1 "java/lang/String" "value" "[B" .null) (Fc : Fld Z h0 a1 "java/lang/String" "coder" "B" (.int (0 : Int32))) (g1 : Z.heap.size ≤ a1) (A2 : Arv Z h0 a2 kk .char (0 : Int32) [] (.int (0 : Int32))) :
    MetFree l (⟨"java/lang/String", "<init>", "([C)V"⟩ : MethodName) (head1 (Jvm.Cond.code (⟨"java/lang/String", "<init>", "([C)V"⟩ : MethodName) jdk_42_method_3_code 2 none :: ws) RMrmS1e) (fun a U => a = #[(.ref a1), (.ref a2)] ∧ Z.Warmed39 U.vm ∧ U.heap = h0 ∧ CHv Z EL U.vm h0) (fun _ _ _ _ _ => True) (fun _ U o U' => ∃ v L, o = .returned v ∧ QrmS1e Z zc k_IDENTIFIER k_INTEGER k_END k_ARCHITECTURE k_COLON k_MINUS_SIGN k_NOT k_SUBSET of a1 a2 kk h0 v U'.heap L ∧ CHr Z EL U.vm U.heap U'.vm U'.heap ∧ ReturnedEndW U o U' L RMrmS1e.cells RMrmS1e.slots) := by
  refine MetFree.of_bodySF (plainFor_of_name pn_java_lang_String) hisR ?_
  intro p e s m args below meth c s₁ Bd hml0 hP hK
  obtain ⟨rfl, hZ, hh, hC0⟩ := hP
  have hx := Bd.exec
  have hby := Bd.bytes
  have hlk : meth.locks = false := BodyLoose.notSynchronized Bd
  have hret := Bd.returns
  have hml : c.maxLocals = 2 := hml0
  have hown : s.vm.findClass "java/lang/String" = some m.cls := findClass_of_methodNamed Bd.named
  have hnm := (name_of_methodNamed Bd.named Bd.method).1
  have X0 : Stand p l e RMrmS1e (s.setVm s.vm) m #[(.ref a1), (.ref a2)] below meth c s₁ [] 0 0 := Stand.of_body Bd
  have e0 : s₁.heap = h0 := by rw [← hh, Bd.state]; rfl
  have N0 := Fr.nil Z.heap.size
  have hZ : Z.Warmed39 (s.setVm s.vm).vm := hZ
  have hS0 : s.Since s.vm h0.size := (State.WarmedH.refl s).since _
  have hk0 : h0.size ≤ h0.size := Nat.le_refl _
  have HR0 : CHr Z EL s.vm h0 s.vm h0 := CHr.refl hC0
  have hwS : ∀ d ∈ Bundle.stringAtoms, d.before a0 Z = true := fun d hd => hw d (own_strAtoms d hd)
  show OEnd p e below (GW s Z EL (QrmS1e Z zc k_IDENTIFIER k_INTEGER k_END k_ARCHITECTURE k_COLON k_MINUS_SIGN k_NOT k_SUBSET of a1 a2 kk h0) RMrmS1e.cells RMrmS1e.slots) _
  refine OEnd.of (fun t k => castTop (ef_rmS1e m a1 a2) k) ?_
  refine OEnd.of (fun t k => XS.aloadN X0.here hx rfl (hb hby d3_0) rfl rfl k) ?_
  show OEnd p e below _ (s₁.setTop (mkF m 1 #[.val (.ref a1), .val (.ref a2)] [(.ref a1)]))
  refine OEnd.of (fun t k => XS.aloadN X0.here hx rfl (hb hby d3_1) rfl rfl k) ?_
  show OEnd p e below _ (s₁.setTop (mkF m 2 #[.val (.ref a1), .val (.ref a2)] [(.ref a2), (.ref a1)]))
  refine OEnd.of (fun t k => XS.iconst X0.here hx rfl (hb hby d3_2) k) ?_
  show OEnd p e below _ (s₁.setTop (mkF m 3 #[.val (.ref a1), .val (.ref a2)] [(.int (0 : Int32)), (.ref a2), (.ref a1)]))
  refine OEnd.of (fun t k => XS.aloadN X0.here hx rfl (hb hby d3_3) rfl rfl k) ?_
  show OEnd p e below _ (s₁.setTop (mkF m 4 #[.val (.ref a1), .val (.ref a2)] [(.ref a2), (.int (0 : Int32)), (.ref a2), (.ref a1)]))
  have Vc38 := A2
  obtain ⟨cl38, Ar38, -, S38, N38, -, -⟩ := Vc38
  refine OEnd.of (X0.arraylength hx (by rw [e0]; exact Ar38.1) (State.isArrayOf_alike hZ.alike Ar38.2.1) (g := (mkF m 4 #[.val (.ref a1), .val (.ref a2)] [(.ref a2), (.int (0 : Int32)), (.ref a2), (.ref a1)])) rfl rfl (hb hby d3_4)) ?_
  rw [len_of S38 N38]
  show OEnd p e below _ (s₁.setTop (mkF m 5 #[.val (.ref a1), .val (.ref a2)] [(.int (0 : Int32)), (.int (0 : Int32)), (.ref a2), (.ref a1)]))
  refine OEnd.of (fun t k => XS.aconstNull X0.here hx rfl (hb hby d3_5) k) ?_
  show OEnd p e below _ (s₁.setTop (mkF m 6 #[.val (.ref a1), .val (.ref a2)] [.null, (.int (0 : Int32)), (.int (0 : Int32)), (.ref a2), (.ref a1)]))
  obtain ⟨_, vq39, ⟨T39, L39, k39, n39⟩, -, X39, S39, G39, ⟨Lc39, hQ39, l39, y39, z39, C39⟩, st39⟩ := X0.specialBackS hx (y := (⟨"java/lang/String", "<init>", "([CIILjava/lang/Void;)V"⟩ : MethodName)) rfl hown (mvT hZ (hw _ (List.mem_of_getElem? (i := 21) rfl))) (mvT hZ (hw _ (List.mem_of_getElem? (i := 22) rfl))) (mvT hZ (hw _ (List.mem_of_getElem? (i := 24) rfl))) (by decide) (backOfSH (W := 0) (rmS4e l Z a0 hw zc k_IDENTIFIER k_INTEGER k_END k_ARCHITECTURE k_COLON k_MINUS_SIGN k_NOT k_SUBSET of S_CS hzc S_IDENTIFIER S_INTEGER S_END S_ARCHITECTURE S_COLON S_MINUS_SIGN S_NOT S_SUBSET E_IDENTIFIER od_IDENTIFIER E_INTEGER od_INTEGER E_END od_END E_ARCHITECTURE od_ARCHITECTURE E_COLON od_COLON E_MINUS_SIGN od_MINUS_SIGN E_NOT od_NOT E_SUBSET od_SUBSET hEL [] a1 a2 h0 O0 E1 Fv Fc g1) hZ (hw _ (List.mem_of_getElem? (i := 24) rfl)) (hw _ (List.mem_of_getElem? (i := 16) rfl)) (by decide) (by decide) hEL HR0.1) (g := (mkF m 6 #[.val (.ref a1), .val (.ref a2)] [.null, (.int (0 : Int32)), (.int (0 : Int32)), (.ref a2), (.ref a1)])) rfl (by rw [hml]; rfl) (Steps.refl _) (a := a1) (argsL := [(.ref a2), (.int (0 : Int32)), (.int (0 : Int32)), .null]) (rest := []) (lenOf pd_285bCIILjava2flang2fVoid3b29V rfl) rfl (by show 2 * 0 + _ ≤ _; exact Nat.le_of_eq rfl) (hb hby d3_6) (fun _ _ => ⟨rfl, e0, (by decide : 0 + 4 ≤ _), (by decide : 0 + 8 ≤ _)⟩)
  dsimp only [Pt.U, Pt.locs, Pt.cells, Pt.slots] at X39 l39 y39 z39 st39 hQ39 S39 G39 C39
  subst l39 y39 z39
  obtain ⟨h39, e39⟩ : ∃ z, T39.heap = z := ⟨_, rfl⟩
  rw [e39] at hQ39 C39
  obtain ⟨rfl, Nq39, Kq39, S_40⟩ := hQ39
  have N41 := Fr.app N0 Nq39
  obtain ⟨X39, S39, hZ39, hown39⟩ := rebS hS0 (by rw [e0]; exact hk0) X39 S39 G39 hZ hown
  rw [e39] at S39
  have hk39 : h39.size ≤ h39.size := Nat.le_refl _
  have CR42 : CHr Z EL s.vm h0 T39.vm h39 := C39
  have HR43 : CHr Z EL s.vm h0 T39.vm h39 := HR0.trans CR42
  refine OEnd.of (fun t k => st39.trans k) ?_
  show OEnd p e below _ (T39.setTop (mkF m 9 #[.val (.ref a1), .val (.ref a2)] []))
  have K44 : Keep h0 h39 [a1] := ((Keep.refl h0 [a1]).trans Kq39 (allS (Or.inl (List.mem_of_getElem? (i := 0) rfl)) all0))
  exact OEnd.retVW X39 hx hlk e39 hh S39 hk39 hEL hZ39 HR43 hret (hb hby d3_9) ⟨rfl, N41, K44, S_40⟩ (by decide) (by decide)
def own_mk (l a b : Int32) : List Int32 := if l = 0 then [] else if l = 1 then [a] else [a, b]
theorem own_elIn : ∀ p ∈ EL, p ∈ consts_1 := by decide
theorem own_mkE {l m a b a' b' : Int32} (hl : l = 0 ∨ l = 1 ∨ l = 2) (h : l = m) (h1 : l < 1 ∨ a = a') (h2 : l < 2 ∨ b = b') : own_mk l a b = own_mk m a' b' := by
  subst h
  rcases hl with rfl | rfl | rfl
  · rfl
  · rw [h1.resolve_left (by decide)]; rfl
  · rw [h1.resolve_left (by decide), h2.resolve_left (by decide)]
theorem own_mkN2 {l m a b a' b' : Int32} (hl : l = 0 ∨ l = 1 ∨ l = 2) (h : l = m) (h2 : ¬ l < 2) (h3 : ¬ b = b') : ¬ own_mk l a b = own_mk m a' b' := fun q => by
  subst h
  rcases hl with rfl | rfl | rfl
  · exact absurd (by decide) h2
  · exact absurd (by decide) h2
  · have q' : [a, b] = [a', b'] := q
    exact h3 (List.cons.inj (List.cons.inj q').2).1
theorem own_mkN1 {l m a b a' b' : Int32} (hl : l = 0 ∨ l = 1 ∨ l = 2) (h : l = m) (h1 : ¬ l < 1) (h2 : ¬ a = a') : ¬ own_mk l a b = own_mk m a' b' := fun q => by
  subst h
  rcases hl with rfl | rfl | rfl
  · exact absurd (by decide) h1
  · have q' : [a] = [a'] := q
    exact h2 (List.cons.inj q').1
  · have q' : [a, b] = [a', b'] := q
    exact h2 (List.cons.inj q').1
theorem own_mkN0 {l m a b a' b' : Int32} (hl : l = 0 ∨ l = 1 ∨ l = 2) (hm : m = 0 ∨ m = 1 ∨ m = 2) (h : ¬ l = m) : ¬ own_mk l a b = own_mk m a' b' := fun q => by
  have len : ∀ l a b, (l = 0 ∨ l = 1 ∨ l = 2) → Int32.ofNat (own_mk l a b).length = l := fun l a b hl => by rcases hl with rfl | rfl | rfl <;> rfl
  exact h ((len l a b hl).symm.trans ((congrArg (fun z : List Int32 => Int32.ofNat z.length) q).trans (len m a' b' hm)))
theorem own_b0 {bb : Int32} {P : Prop} (hb : (bb = 1 ∧ P) ∨ (bb = 0 ∧ ¬ P)) (h : bb = 0) : ((0 : Int32) = 1 ∧ P) ∨ ((0 : Int32) = 0 ∧ ¬ P) := by
  rcases hb with ⟨rfl, p⟩ | ⟨-, p⟩
  · exact absurd h (by decide)
  · exact Or.inr ⟨rfl, p⟩
theorem own_b1 {bb : Int32} {P : Prop} (hb : (bb = 1 ∧ P) ∨ (bb = 0 ∧ ¬ P)) (h : ¬ bb = 0) : ((1 : Int32) = 1 ∧ P) ∨ ((1 : Int32) = 0 ∧ ¬ P) := by
  rcases hb with ⟨-, p⟩ | ⟨q, -⟩
  · exact Or.inl ⟨rfl, p⟩
  · exact absurd q h
theorem own_l3 {x y : Int32} (h : (x &&& 2147483647) % 3 = y) : y = 0 ∨ y = 1 ∨ y = 2 := by
  have e : (x &&& 2147483647).toInt = x.toInt % 2147483648 := Jvm.Kit.i32_mask x 2147483647 (k := 31) (by decide) (by decide)
  have t3 : (3 : Int32).toInt = 3 := rfl
  have er : y.toInt = (x.toInt % 2147483648) % 3 := by rw [← h, Jvm.Kit.i32_rem_nonneg (by omega), e, t3]
  have h3 : y.toInt = 0 ∨ y.toInt = 1 ∨ y.toInt = 2 := by omega
  rcases h3 with q | q | q
  · exact Or.inl (Int32.toInt_inj.mp (q.trans rfl))
  · exact Or.inr (Or.inl (Int32.toInt_inj.mp (q.trans rfl)))
  · exact Or.inr (Or.inr (Int32.toInt_inj.mp (q.trans rfl)))
theorem own_symm {e : Int32} {a b : List Int32} (h : (e = 1 ∧ a = b) ∨ (e = 0 ∧ ¬ a = b)) : (e = 1 ∧ b = a) ∨ (e = 0 ∧ ¬ b = a) := by
  rcases h with ⟨h, q⟩ | ⟨h, q⟩
  · exact Or.inl ⟨h, q.symm⟩
  · exact Or.inr ⟨h, fun z => q z.symm⟩
theorem own_self {e : Int32} {a : List Int32} (h : (e = 1 ∧ a = a) ∨ (e = 0 ∧ ¬ a = a)) : ¬ e = 0 := by
  rcases h with ⟨rfl, -⟩ | ⟨-, q⟩
  · decide
  · exact absurd rfl q

def own_kd (p : Int32) (k0 k1 k2 k3 k4 k5 k6 k7 : Addr) : Addr := if p = 0 then k0 else if p = 1 then k1 else if p = 2 then k2 else if p = 3 then k3 else if p = 4 then k4 else if p = 5 then k5 else if p = 6 then k6 else k7
theorem own_r8 {x y : Int32} (q : x &&& 7 = y) : ¬ y < 0 ∧ ¬ (7 : Int32) < y := by
  subst q
  have e : (x &&& 7).toInt = x.toInt % 8 := Jvm.Kit.i32_mask x 7 (k := 3) (by decide) (by decide)
  have z : (0 : Int32).toInt = 0 := rfl
  have m : (7 : Int32).toInt = 7 := rfl
  exact ⟨fun q => by have := Int32.lt_iff_toInt_lt.mp q; omega, fun q => by have := Int32.lt_iff_toInt_lt.mp q; omega⟩
theorem own_r8c {y : Int32} (h : ¬ y < 0 ∧ ¬ (7 : Int32) < y) : y = 0 ∨ y = 1 ∨ y = 2 ∨ y = 3 ∨ y = 4 ∨ y = 5 ∨ y = 6 ∨ y = 7 := by
  have z : (0 : Int32).toInt = 0 := rfl
  have m : (7 : Int32).toInt = 7 := rfl
  have h1 : 0 ≤ y.toInt := by have := mt Int32.lt_iff_toInt_lt.mpr h.1; omega
  have h2 : y.toInt ≤ 7 := by have := mt Int32.lt_iff_toInt_lt.mpr h.2; omega
  have e : y = Int32.ofInt y.toInt := by simp
  have hc : y.toInt = 0 ∨ y.toInt = 1 ∨ y.toInt = 2 ∨ y.toInt = 3 ∨ y.toInt = 4 ∨ y.toInt = 5 ∨ y.toInt = 6 ∨ y.toInt = 7 := by omega
  rcases hc with q | q | q | q | q | q | q | q <;> rw [e, q] <;> decide
theorem own_kdInj {of : Addr → Int32} {k0 k1 k2 k3 k4 k5 k6 k7 : Addr} {p q : Int32} (h0 : of k0 = 0) (h1 : of k1 = 1) (h2 : of k2 = 2) (h3 : of k3 = 3) (h4 : of k4 = 37) (h5 : of k5 = 55) (h6 : of k6 = 25) (h7 : of k7 = 36)
    (hp : ¬ p < 0 ∧ ¬ (7 : Int32) < p) (hq : ¬ q < 0 ∧ ¬ (7 : Int32) < q) (h : own_kd p k0 k1 k2 k3 k4 k5 k6 k7 = own_kd q k0 k1 k2 k3 k4 k5 k6 k7) : p = q := by
  have key : ∀ z : Int32, (z = 0 ∨ z = 1 ∨ z = 2 ∨ z = 3 ∨ z = 4 ∨ z = 5 ∨ z = 6 ∨ z = 7) → of (own_kd z k0 k1 k2 k3 k4 k5 k6 k7) = (if z = 4 then 37 else if z = 5 then 55 else if z = 6 then 25 else if z = 7 then 36 else z) := fun z hz => by
    rcases hz with rfl | rfl | rfl | rfl | rfl | rfl | rfl | rfl
    · exact h0
    · exact h1
    · exact h2
    · exact h3
    · exact h4
    · exact h5
    · exact h6
    · exact h7
  have e := congrArg of h
  rw [key p (own_r8c hp), key q (own_r8c hq)] at e
  rcases own_r8c hp with rfl | rfl | rfl | rfl | rfl | rfl | rfl | rfl <;> rcases own_r8c hq with rfl | rfl | rfl | rfl | rfl | rfl | rfl | rfl <;> first | rfl | exact absurd e (by decide)
theorem own_chL {x : Int64} {y : Int32} (q : (x &&& 255).toInt32.toUInt32.toUInt16.toUInt32.toInt32 = y) : ¬ y < 0 ∧ ¬ (255 : Int32) < y := by
  have e : (x &&& 255).toInt32 = x.toInt32 &&& 255 := by rw [Int64.toInt32_and]; rfl
  rw [e] at q
  exact own_ch q
theorem own_l3n {u y : Int32} (h0 : 0 ≤ u.toInt) (h : u % 3 = y) : y = 0 ∨ y = 1 ∨ y = 2 := by
  have t3 : (3 : Int32).toInt = 3 := rfl
  have er : y.toInt = u.toInt % 3 := by rw [← h, Jvm.Kit.i32_rem_nonneg h0, t3]
  have h3 : y.toInt = 0 ∨ y.toInt = 1 ∨ y.toInt = 2 := by omega
  rcases h3 with q | q | q
  · exact Or.inl (Int32.toInt_inj.mp (q.trans rfl))
  · exact Or.inr (Or.inl (Int32.toInt_inj.mp (q.trans rfl)))
  · exact Or.inr (Or.inr (Int32.toInt_inj.mp (q.trans rfl)))
theorem own_shr (x : Int32) (n : UInt32) (h1 : 1 ≤ n.toNat) (h2 : n.toNat < 32) : 0 ≤ (x.toUInt32 >>> n).toInt32.toInt := by
  have hlt : (x.toUInt32 >>> n).toNat < 2 ^ 31 := by
    rw [UInt32.toNat_shiftRight, Nat.mod_eq_of_lt h2, Nat.shiftRight_eq_div_pow]
    have hx : x.toUInt32.toNat < 2 ^ 32 := x.toUInt32.toNat_lt
    have h2p : 2 ^ 1 ≤ 2 ^ n.toNat := Nat.pow_le_pow_right (by decide) h1
    exact Nat.lt_of_le_of_lt (Nat.div_le_div_left h2p (by decide)) (by omega)
  have e : (x.toUInt32 >>> n).toInt32.toInt = ((x.toUInt32 >>> n).toNat : Int) := by
    rw [Int32.toInt, UInt32.toBitVec_toInt32]
    rw [BitVec.toInt_eq_toNat_of_lt]
    · rfl
    · show 2 * (x.toUInt32 >>> n).toNat < 2 ^ 32
      omega
  rw [e]
  exact Int.natCast_nonneg _
theorem own_l3u {x y : Int32} {n : UInt32} (h : (x.toUInt32 >>> n).toInt32 % 3 = y) (h1 : 1 ≤ n.toNat := by decide) (h2 : n.toNat < 32 := by decide) : y = 0 ∨ y = 1 ∨ y = 2 := own_l3n (own_shr x n h1 h2) h
theorem own_bP {bb : Int32} {P : Prop} (hb : (bb = 1 ∧ P) ∨ (bb = 0 ∧ ¬ P)) (h : ¬ bb = 0) : P := by
  rcases hb with ⟨-, p⟩ | ⟨q, -⟩
  · exact p
  · exact absurd q h
theorem own_bN {bb : Int32} {P : Prop} (hb : (bb = 1 ∧ P) ∨ (bb = 0 ∧ ¬ P)) (h : bb = 0) : ¬ P := by
  rcases hb with ⟨q, -⟩ | ⟨-, p⟩
  · exact absurd (q.symm.trans h) (by decide)
  · exact p

theorem d10_0 : decode jdk_31_method_11_code 0 = .ok (.aload_n 0, 1) := by decide +kernel
theorem d10_1 : decode jdk_31_method_11_code 1 = .ok (.ifnonnull 12, 3) := by decide +kernel
theorem d10_13 : decode jdk_31_method_11_code 13 = .ok (.aload_n 0, 1) := by decide +kernel
theorem d10_14 : decode jdk_31_method_11_code 14 = .ok (.areturn, 1) := by decide +kernel
theorem pn_java_util_Objects : plainName "java/util/Objects" = true := by first | (simp [plainName, overriddenIn]; done) | decide +kernel
abbrev RMrmReq : Room := { frames := 0, cells := 0, slots := 0, locals := 0 }
theorem ef_rmReq (m : MethodId) (a1 : Addr) (a2 : Addr) : entryFrame m #[(.ref a1), (.ref a2)] 2 = mkF m 0 #[.val (.ref a1), .val (.ref a2)] [] := by first | (simp [entryFrame, mkF, argsToLocals, Value.category]; done) | rfl
def QrmReq (Z : State) (zc : Int32) (k_IDENTIFIER : Addr) (k_INTEGER : Addr) (k_END : Addr) (k_ARCHITECTURE : Addr) (k_COLON : Addr) (k_MINUS_SIGN : Addr) (k_NOT : Addr) (k_SUBSET : Addr) (of : Addr → Int32) (a1 : Addr) (a2 : Addr) (h0 : Heap) (v : Option Value) (h : Heap) (L : List Loc) : Prop := v = some (.ref a1) ∧ Fr Z.heap.size L ∧ h = h0
set_option maxRecDepth 65536 in
set_option maxHeartbeats 40000000 in
theorem rmReq (l : Launch) (Z : State) (a0 : Array Value) (hw : ∀ d ∈ tables_1, d.before a0 Z = true) (zc : Int32) (k_IDENTIFIER : Addr) (k_INTEGER : Addr) (k_END : Addr) (k_ARCHITECTURE : Addr) (k_COLON : Addr) (k_MINUS_SIGN : Addr) (k_NOT : Addr) (k_SUBSET : Addr) (of : Addr → Int32) (S_CS : Sta Z Z.heap "java/lang/String" "COMPACT_STRINGS" "Z" (.int zc)) (hzc : ¬ zc = 0) (S_IDENTIFIER : Sta Z Z.heap "com/example/thorough_topology/thoroughtopology/language/TokenKind" "IDENTIFIER" "Lcom/example/thorough_topology/thoroughtopology/language/TokenKind;" (.ref k_IDENTIFIER)) (S_INTEGER : Sta Z Z.heap "com/example/thorough_topology/thoroughtopology/language/TokenKind" "INTEGER" "Lcom/example/thorough_topology/thoroughtopology/language/TokenKind;" (.ref k_INTEGER)) (S_END : Sta Z Z.heap "com/example/thorough_topology/thoroughtopology/language/TokenKind" "END" "Lcom/example/thorough_topology/thoroughtopology/language/TokenKind;" (.ref k_END)) (S_ARCHITECTURE : Sta Z Z.heap "com/example/thorough_topology/thoroughtopology/language/TokenKind" "ARCHITECTURE" "Lcom/example/thorough_topology/thoroughtopology/language/TokenKind;" (.ref k_ARCHITECTURE)) (S_COLON : Sta Z Z.heap "com/example/thorough_topology/thoroughtopology/language/TokenKind" "COLON" "Lcom/example/thorough_topology/thoroughtopology/language/TokenKind;" (.ref k_COLON)) (S_MINUS_SIGN : Sta Z Z.heap "com/example/thorough_topology/thoroughtopology/language/TokenKind" "MINUS_SIGN" "Lcom/example/thorough_topology/thoroughtopology/language/TokenKind;" (.ref k_MINUS_SIGN)) (S_NOT : Sta Z Z.heap "com/example/thorough_topology/thoroughtopology/language/TokenKind" "NOT" "Lcom/example/thorough_topology/thoroughtopology/language/TokenKind;" (.ref k_NOT)) (S_SUBSET : Sta Z Z.heap "com/example/thorough_topology/thoroughtopology/language/TokenKind" "SUBSET" "Lcom/example/thorough_topology/thoroughtopology/language/TokenKind;" (.ref k_SUBSET)) (E_IDENTIFIER : Exa Z Z.heap k_IDENTIFIER "com/example/thorough_topology/thoroughtopology/language/TokenKind") (od_IDENTIFIER : of k_IDENTIFIER = 0) (E_INTEGER : Exa Z Z.heap k_INTEGER "com/example/thorough_topology/thoroughtopology/language/TokenKind") (od_INTEGER : of k_INTEGER = 1) (E_END : Exa Z Z.heap k_END "com/example/thorough_topology/thoroughtopology/language/TokenKind") (od_END : of k_END = 2) (E_ARCHITECTURE : Exa Z Z.heap k_ARCHITECTURE "com/example/thorough_topology/thoroughtopology/language/TokenKind") (od_ARCHITECTURE : of k_ARCHITECTURE = 3) (E_COLON : Exa Z Z.heap k_COLON "com/example/thorough_topology/thoroughtopology/language/TokenKind") (od_COLON : of k_COLON = 37) (E_MINUS_SIGN : Exa Z Z.heap k_MINUS_SIGN "com/example/thorough_topology/thoroughtopology/language/TokenKind") (od_MINUS_SIGN : of k_MINUS_SIGN = 55) (E_NOT : Exa Z Z.heap k_NOT "com/example/thorough_topology/thoroughtopology/language/TokenKind") (od_NOT : of k_NOT = 25) (E_SUBSET : Exa Z Z.heap k_SUBSET "com/example/thorough_topology/thoroughtopology/language/TokenKind") (od_SUBSET : of k_SUBSET = 36) (ws : List Jvm.Cond) (a1 : Addr) (a2 : Addr) (h0 : Heap) (O0 : Ext Z.heap h0) :
    MetFree l (⟨"java/util/Objects", "requireNonNull", "(Ljava/lang/Object;Ljava/lang/String;)Ljava/lang/Object;"⟩ : MethodName) (head1 (Jvm.Cond.code (⟨"java/util/Objects", "requireNonNull", "(Ljava/lang/Object;Ljava/lang/String;)Ljava/lang/Object;"⟩ : MethodName) jdk_31_method_11_code 2 (some (.object "java/lang/Object")) :: ws) RMrmReq) (fun a U => a = #[(.ref a1), (.ref a2)] ∧ Z.Warmed39 U.vm ∧ U.heap = h0) (fun _ _ _ _ _ => True) (fun _ U o U' => ∃ v L, o = .returned v ∧ QrmReq Z zc k_IDENTIFIER k_INTEGER k_END k_ARCHITECTURE k_COLON k_MINUS_SIGN k_NOT k_SUBSET of a1 a2 h0 v U'.heap L ∧ FrameEnd U o U' L RMrmReq.cells RMrmReq.slots) := by
  refine MetFree.of_bodySF (plainFor_of_name pn_java_util_Objects) hisR ?_
  intro p e s m args below meth c s₁ Bd hml0 hP hK
  obtain ⟨rfl, hZ, hh⟩ := hP
  have hx := Bd.exec
  have hby := Bd.bytes
  have hlk : meth.locks = false := BodyLoose.notSynchronized Bd
  have hret := Bd.returns
  have hml : c.maxLocals = 2 := hml0
  have hown : s.vm.findClass "java/util/Objects" = some m.cls := findClass_of_methodNamed Bd.named
  have hnm := (name_of_methodNamed Bd.named Bd.method).1
  have X0 : Stand p l e RMrmReq s m #[(.ref a1), (.ref a2)] below meth c s₁ [] 0 0 := Stand.of_body Bd
  have e0 : s₁.heap = h0 := by rw [← hh, Bd.state]; rfl
  have N0 := Fr.nil Z.heap.size
  show OEnd p e below (GN s (QrmReq Z zc k_IDENTIFIER k_INTEGER k_END k_ARCHITECTURE k_COLON k_MINUS_SIGN k_NOT k_SUBSET of a1 a2 h0) RMrmReq.cells RMrmReq.slots) _
  refine OEnd.of (fun t k => castTop (ef_rmReq m a1 a2) k) ?_
  refine OEnd.of (fun t k => XS.aloadN X0.here hx rfl (hb hby d10_0) rfl rfl k) ?_
  show OEnd p e below _ (s₁.setTop (mkF m 1 #[.val (.ref a1), .val (.ref a2)] [(.ref a1)]))
  refine OEnd.of (fun t k => XS.ifnonnullYes X0.here hx rfl (pc0 := 1) (pc' := 13) rfl (hb hby d10_1) rfl (by decide) (by decide) k) ?_
  show OEnd p e below _ (s₁.setTop (mkF m 13 #[.val (.ref a1), .val (.ref a2)] []))
  refine OEnd.of (fun t k => XS.aloadN X0.here hx rfl (hb hby d10_13) rfl rfl k) ?_
  show OEnd p e below _ (s₁.setTop (mkF m 14 #[.val (.ref a1), .val (.ref a2)] [(.ref a1)]))
  exact OEnd.retA X0 hx hlk e0 hret rfl rfl (hb hby d10_14) ⟨rfl, N0, rfl⟩ (by decide) (by decide)
theorem d1_0 : decode method_2_code 0 = .ok (.iload_n 0, 1) := by decide +kernel
theorem d1_1 : decode method_2_code 1 = .ok (.ifCond .ne 7, 3) := by decide +kernel
theorem d1_4 : decode method_2_code 4 = .ok (.getstatic 7, 3) := by decide +kernel
theorem d1_7 : decode method_2_code 7 = .ok (.areturn, 1) := by decide +kernel
theorem d1_8 : decode method_2_code 8 = .ok (.iload_n 0, 1) := by decide +kernel
theorem d1_9 : decode method_2_code 9 = .ok (.iconst 1, 1) := by decide +kernel
theorem d1_10 : decode method_2_code 10 = .ok (.if_icmp .ne 7, 3) := by decide +kernel
theorem d1_13 : decode method_2_code 13 = .ok (.getstatic 13, 3) := by decide +kernel
theorem d1_16 : decode method_2_code 16 = .ok (.areturn, 1) := by decide +kernel
theorem d1_17 : decode method_2_code 17 = .ok (.iload_n 0, 1) := by decide +kernel
theorem d1_18 : decode method_2_code 18 = .ok (.iconst 2, 1) := by decide +kernel
theorem d1_19 : decode method_2_code 19 = .ok (.if_icmp .ne 7, 3) := by decide +kernel
theorem d1_22 : decode method_2_code 22 = .ok (.getstatic 16, 3) := by decide +kernel
theorem d1_25 : decode method_2_code 25 = .ok (.areturn, 1) := by decide +kernel
theorem d1_26 : decode method_2_code 26 = .ok (.iload_n 0, 1) := by decide +kernel
theorem d1_27 : decode method_2_code 27 = .ok (.iconst 3, 1) := by decide +kernel
theorem d1_28 : decode method_2_code 28 = .ok (.if_icmp .ne 7, 3) := by decide +kernel
theorem d1_31 : decode method_2_code 31 = .ok (.getstatic 19, 3) := by decide +kernel
theorem d1_34 : decode method_2_code 34 = .ok (.areturn, 1) := by decide +kernel
theorem d1_35 : decode method_2_code 35 = .ok (.iload_n 0, 1) := by decide +kernel
theorem d1_36 : decode method_2_code 36 = .ok (.iconst 4, 1) := by decide +kernel
theorem d1_37 : decode method_2_code 37 = .ok (.if_icmp .ne 7, 3) := by decide +kernel
theorem d1_40 : decode method_2_code 40 = .ok (.getstatic 22, 3) := by decide +kernel
theorem d1_43 : decode method_2_code 43 = .ok (.areturn, 1) := by decide +kernel
theorem d1_44 : decode method_2_code 44 = .ok (.iload_n 0, 1) := by decide +kernel
theorem d1_45 : decode method_2_code 45 = .ok (.iconst 5, 1) := by decide +kernel
theorem d1_46 : decode method_2_code 46 = .ok (.if_icmp .ne 7, 3) := by decide +kernel
theorem d1_49 : decode method_2_code 49 = .ok (.getstatic 25, 3) := by decide +kernel
theorem d1_52 : decode method_2_code 52 = .ok (.areturn, 1) := by decide +kernel
theorem d1_53 : decode method_2_code 53 = .ok (.iload_n 0, 1) := by decide +kernel
theorem d1_54 : decode method_2_code 54 = .ok (.bipush 6, 2) := by decide +kernel
theorem d1_56 : decode method_2_code 56 = .ok (.if_icmp .ne 7, 3) := by decide +kernel
theorem d1_59 : decode method_2_code 59 = .ok (.getstatic 28, 3) := by decide +kernel
theorem d1_62 : decode method_2_code 62 = .ok (.areturn, 1) := by decide +kernel
theorem d1_63 : decode method_2_code 63 = .ok (.getstatic 31, 3) := by decide +kernel
theorem d1_66 : decode method_2_code 66 = .ok (.areturn, 1) := by decide +kernel
theorem pn_com_example_thorough_topology_thoroughtopology_language_TokenEqualsPinLaw : plainName "com/example/thorough_topology/thoroughtopology/language/TokenEqualsPinLaw" = true := by first | (simp [plainName, overriddenIn]; done) | decide +kernel
abbrev RMrmKind : Room := { frames := 0, cells := 0, slots := 0, locals := 0 }
theorem ef_rmKind (m : MethodId) (p1 : Int32) : entryFrame m #[(.int p1)] 1 = mkF m 0 #[.val (.int p1)] [] := by first | (simp [entryFrame, mkF, argsToLocals, Value.category]; done) | rfl
def QrmKind (Z : State) (zc : Int32) (k_IDENTIFIER : Addr) (k_INTEGER : Addr) (k_END : Addr) (k_ARCHITECTURE : Addr) (k_COLON : Addr) (k_MINUS_SIGN : Addr) (k_NOT : Addr) (k_SUBSET : Addr) (of : Addr → Int32) (p1 : Int32) (h0 : Heap) (v : Option Value) (h : Heap) (L : List Loc) : Prop := ∃ (kk : Addr), v = some (.ref kk) ∧ Fr Z.heap.size L ∧ h = h0 ∧ Exa Z h kk "com/example/thorough_topology/thoroughtopology/language/TokenKind" ∧ (kk = own_kd p1 k_IDENTIFIER k_INTEGER k_END k_ARCHITECTURE k_COLON k_MINUS_SIGN k_NOT k_SUBSET)
set_option maxRecDepth 65536 in
set_option maxHeartbeats 40000000 in
theorem rmKind (l : Launch) (Z : State) (a0 : Array Value) (hw : ∀ d ∈ tables_1, d.before a0 Z = true) (zc : Int32) (k_IDENTIFIER : Addr) (k_INTEGER : Addr) (k_END : Addr) (k_ARCHITECTURE : Addr) (k_COLON : Addr) (k_MINUS_SIGN : Addr) (k_NOT : Addr) (k_SUBSET : Addr) (of : Addr → Int32) (S_CS : Sta Z Z.heap "java/lang/String" "COMPACT_STRINGS" "Z" (.int zc)) (hzc : ¬ zc = 0) (S_IDENTIFIER : Sta Z Z.heap "com/example/thorough_topology/thoroughtopology/language/TokenKind" "IDENTIFIER" "Lcom/example/thorough_topology/thoroughtopology/language/TokenKind;" (.ref k_IDENTIFIER)) (S_INTEGER : Sta Z Z.heap "com/example/thorough_topology/thoroughtopology/language/TokenKind" "INTEGER" "Lcom/example/thorough_topology/thoroughtopology/language/TokenKind;" (.ref k_INTEGER)) (S_END : Sta Z Z.heap "com/example/thorough_topology/thoroughtopology/language/TokenKind" "END" "Lcom/example/thorough_topology/thoroughtopology/language/TokenKind;" (.ref k_END)) (S_ARCHITECTURE : Sta Z Z.heap "com/example/thorough_topology/thoroughtopology/language/TokenKind" "ARCHITECTURE" "Lcom/example/thorough_topology/thoroughtopology/language/TokenKind;" (.ref k_ARCHITECTURE)) (S_COLON : Sta Z Z.heap "com/example/thorough_topology/thoroughtopology/language/TokenKind" "COLON" "Lcom/example/thorough_topology/thoroughtopology/language/TokenKind;" (.ref k_COLON)) (S_MINUS_SIGN : Sta Z Z.heap "com/example/thorough_topology/thoroughtopology/language/TokenKind" "MINUS_SIGN" "Lcom/example/thorough_topology/thoroughtopology/language/TokenKind;" (.ref k_MINUS_SIGN)) (S_NOT : Sta Z Z.heap "com/example/thorough_topology/thoroughtopology/language/TokenKind" "NOT" "Lcom/example/thorough_topology/thoroughtopology/language/TokenKind;" (.ref k_NOT)) (S_SUBSET : Sta Z Z.heap "com/example/thorough_topology/thoroughtopology/language/TokenKind" "SUBSET" "Lcom/example/thorough_topology/thoroughtopology/language/TokenKind;" (.ref k_SUBSET)) (E_IDENTIFIER : Exa Z Z.heap k_IDENTIFIER "com/example/thorough_topology/thoroughtopology/language/TokenKind") (od_IDENTIFIER : of k_IDENTIFIER = 0) (E_INTEGER : Exa Z Z.heap k_INTEGER "com/example/thorough_topology/thoroughtopology/language/TokenKind") (od_INTEGER : of k_INTEGER = 1) (E_END : Exa Z Z.heap k_END "com/example/thorough_topology/thoroughtopology/language/TokenKind") (od_END : of k_END = 2) (E_ARCHITECTURE : Exa Z Z.heap k_ARCHITECTURE "com/example/thorough_topology/thoroughtopology/language/TokenKind") (od_ARCHITECTURE : of k_ARCHITECTURE = 3) (E_COLON : Exa Z Z.heap k_COLON "com/example/thorough_topology/thoroughtopology/language/TokenKind") (od_COLON : of k_COLON = 37) (E_MINUS_SIGN : Exa Z Z.heap k_MINUS_SIGN "com/example/thorough_topology/thoroughtopology/language/TokenKind") (od_MINUS_SIGN : of k_MINUS_SIGN = 55) (E_NOT : Exa Z Z.heap k_NOT "com/example/thorough_topology/thoroughtopology/language/TokenKind") (od_NOT : of k_NOT = 25) (E_SUBSET : Exa Z Z.heap k_SUBSET "com/example/thorough_topology/thoroughtopology/language/TokenKind") (od_SUBSET : of k_SUBSET = 36) (ws : List Jvm.Cond) (p1 : Int32) (h0 : Heap) (O0 : Ext Z.heap h0) :
    MetFree l (⟨"com/example/thorough_topology/thoroughtopology/language/TokenEqualsPinLaw", "kindOf", "(I)Lcom/example/thorough_topology/thoroughtopology/language/TokenKind;"⟩ : MethodName) (head1 (Jvm.Cond.code (⟨"com/example/thorough_topology/thoroughtopology/language/TokenEqualsPinLaw", "kindOf", "(I)Lcom/example/thorough_topology/thoroughtopology/language/TokenKind;"⟩ : MethodName) method_2_code 1 (some (.object "com/example/thorough_topology/thoroughtopology/language/TokenKind")) :: ws) RMrmKind) (fun a U => a = #[(.int p1)] ∧ Z.Warmed39 U.vm ∧ U.heap = h0) (fun _ _ _ _ _ => True) (fun _ U o U' => ∃ v L, o = .returned v ∧ QrmKind Z zc k_IDENTIFIER k_INTEGER k_END k_ARCHITECTURE k_COLON k_MINUS_SIGN k_NOT k_SUBSET of p1 h0 v U'.heap L ∧ FrameEnd U o U' L RMrmKind.cells RMrmKind.slots) := by
  refine MetFree.of_bodySF (plainFor_of_name pn_com_example_thorough_topology_thoroughtopology_language_TokenEqualsPinLaw) hisR ?_
  intro p e s m args below meth c s₁ Bd hml0 hP hK
  obtain ⟨rfl, hZ, hh⟩ := hP
  have hx := Bd.exec
  have hby := Bd.bytes
  have hlk : meth.locks = false := BodyLoose.notSynchronized Bd
  have hret := Bd.returns
  have hml : c.maxLocals = 1 := hml0
  have hown : s.vm.findClass "com/example/thorough_topology/thoroughtopology/language/TokenEqualsPinLaw" = some m.cls := findClass_of_methodNamed Bd.named
  have hnm := (name_of_methodNamed Bd.named Bd.method).1
  have X0 : Stand p l e RMrmKind s m #[(.int p1)] below meth c s₁ [] 0 0 := Stand.of_body Bd
  have e0 : s₁.heap = h0 := by rw [← hh, Bd.state]; rfl
  have N0 := Fr.nil Z.heap.size
  show OEnd p e below (GN s (QrmKind Z zc k_IDENTIFIER k_INTEGER k_END k_ARCHITECTURE k_COLON k_MINUS_SIGN k_NOT k_SUBSET of p1 h0) RMrmKind.cells RMrmKind.slots) _
  refine OEnd.of (fun t k => castTop (ef_rmKind m p1) k) ?_
  refine OEnd.of (fun t k => XS.iloadN X0.here hx rfl (hb hby d1_0) rfl k) ?_
  show OEnd p e below _ (s₁.setTop (mkF m 1 #[.val (.int p1)] [(.int p1)]))
  by_cases hc45 : p1 = (0 : Int32)
  · refine OEnd.of (fun t k => XS.ifNo X0.here hx rfl (hb hby d1_1) rfl ((if0 _ _).trans (teq hc45).2) k) ?_
    show OEnd p e below _ (s₁.setTop (mkF m 4 #[.val (.int p1)] []))
    obtain ⟨T46, X46, e46, st46⟩ := getS2 X0 hx hZ hown (host := "") (Or.inl (hw _ (List.mem_of_getElem? (i := 8) rfl))) Via.refl e0 (Sta.ext O0 S_IDENTIFIER) (g := (mkF m 4 #[.val (.int p1)] [])) rfl (hb hby d1_4)
    refine OEnd.of st46 ?_
    show OEnd p e below _ (T46.setTop (mkF m 7 #[.val (.int p1)] [(.ref k_IDENTIFIER)]))
    exact OEnd.retA X46 hx hlk e46 hret rfl rfl (hb hby d1_7) ⟨k_IDENTIFIER, rfl, N0, rfl, (Exa.ext O0 E_IDENTIFIER), (by unfold own_kd; rw [if_pos hc45])⟩ (by decide) (by decide)
  · refine OEnd.of (fun t k => XS.ifYes X0.here hx rfl (pc0 := 1) (pc' := 8) rfl (hb hby d1_1) rfl ((if0 _ _).trans (feq hc45).2) (by decide) (by decide) k) ?_
    show OEnd p e below _ (s₁.setTop (mkF m 8 #[.val (.int p1)] []))
    refine OEnd.of (fun t k => XS.iloadN X0.here hx rfl (hb hby d1_8) rfl k) ?_
    show OEnd p e below _ (s₁.setTop (mkF m 9 #[.val (.int p1)] [(.int p1)]))
    refine OEnd.of (fun t k => XS.iconst X0.here hx rfl (hb hby d1_9) k) ?_
    show OEnd p e below _ (s₁.setTop (mkF m 10 #[.val (.int p1)] [(.int (1 : Int32)), (.int p1)]))
    by_cases hc47 : p1 = (1 : Int32)
    · refine OEnd.of (fun t k => XS.icmpNo X0.here hx rfl (hb hby d1_10) rfl (teq hc47).2 k) ?_
      show OEnd p e below _ (s₁.setTop (mkF m 13 #[.val (.int p1)] []))
      obtain ⟨T48, X48, e48, st48⟩ := getS2 X0 hx hZ hown (host := "") (Or.inl (hw _ (List.mem_of_getElem? (i := 85) rfl))) Via.refl e0 (Sta.ext O0 S_INTEGER) (g := (mkF m 13 #[.val (.int p1)] [])) rfl (hb hby d1_13)
      refine OEnd.of st48 ?_
      show OEnd p e below _ (T48.setTop (mkF m 16 #[.val (.int p1)] [(.ref k_INTEGER)]))
      exact OEnd.retA X48 hx hlk e48 hret rfl rfl (hb hby d1_16) ⟨k_INTEGER, rfl, N0, rfl, (Exa.ext O0 E_INTEGER), (by unfold own_kd; rw [if_neg hc45, if_pos hc47])⟩ (by decide) (by decide)
    · refine OEnd.of (fun t k => XS.icmpYes X0.here hx rfl (pc0 := 10) (pc' := 17) rfl (hb hby d1_10) rfl (feq hc47).2 (by decide) (by decide) k) ?_
      show OEnd p e below _ (s₁.setTop (mkF m 17 #[.val (.int p1)] []))
      refine OEnd.of (fun t k => XS.iloadN X0.here hx rfl (hb hby d1_17) rfl k) ?_
      show OEnd p e below _ (s₁.setTop (mkF m 18 #[.val (.int p1)] [(.int p1)]))
      refine OEnd.of (fun t k => XS.iconst X0.here hx rfl (hb hby d1_18) k) ?_
      show OEnd p e below _ (s₁.setTop (mkF m 19 #[.val (.int p1)] [(.int (2 : Int32)), (.int p1)]))
      by_cases hc49 : p1 = (2 : Int32)
      · refine OEnd.of (fun t k => XS.icmpNo X0.here hx rfl (hb hby d1_19) rfl (teq hc49).2 k) ?_
        show OEnd p e below _ (s₁.setTop (mkF m 22 #[.val (.int p1)] []))
        obtain ⟨T50, X50, e50, st50⟩ := getS2 X0 hx hZ hown (host := "") (Or.inl (hw _ (List.mem_of_getElem? (i := 83) rfl))) Via.refl e0 (Sta.ext O0 S_END) (g := (mkF m 22 #[.val (.int p1)] [])) rfl (hb hby d1_22)
        refine OEnd.of st50 ?_
        show OEnd p e below _ (T50.setTop (mkF m 25 #[.val (.int p1)] [(.ref k_END)]))
        exact OEnd.retA X50 hx hlk e50 hret rfl rfl (hb hby d1_25) ⟨k_END, rfl, N0, rfl, (Exa.ext O0 E_END), (by unfold own_kd; rw [if_neg hc45, if_neg hc47, if_pos hc49])⟩ (by decide) (by decide)
      · refine OEnd.of (fun t k => XS.icmpYes X0.here hx rfl (pc0 := 19) (pc' := 26) rfl (hb hby d1_19) rfl (feq hc49).2 (by decide) (by decide) k) ?_
        show OEnd p e below _ (s₁.setTop (mkF m 26 #[.val (.int p1)] []))
        refine OEnd.of (fun t k => XS.iloadN X0.here hx rfl (hb hby d1_26) rfl k) ?_
        show OEnd p e below _ (s₁.setTop (mkF m 27 #[.val (.int p1)] [(.int p1)]))
        refine OEnd.of (fun t k => XS.iconst X0.here hx rfl (hb hby d1_27) k) ?_
        show OEnd p e below _ (s₁.setTop (mkF m 28 #[.val (.int p1)] [(.int (3 : Int32)), (.int p1)]))
        by_cases hc51 : p1 = (3 : Int32)
        · refine OEnd.of (fun t k => XS.icmpNo X0.here hx rfl (hb hby d1_28) rfl (teq hc51).2 k) ?_
          show OEnd p e below _ (s₁.setTop (mkF m 31 #[.val (.int p1)] []))
          obtain ⟨T52, X52, e52, st52⟩ := getS2 X0 hx hZ hown (host := "") (Or.inl (hw _ (List.mem_of_getElem? (i := 87) rfl))) Via.refl e0 (Sta.ext O0 S_ARCHITECTURE) (g := (mkF m 31 #[.val (.int p1)] [])) rfl (hb hby d1_31)
          refine OEnd.of st52 ?_
          show OEnd p e below _ (T52.setTop (mkF m 34 #[.val (.int p1)] [(.ref k_ARCHITECTURE)]))
          exact OEnd.retA X52 hx hlk e52 hret rfl rfl (hb hby d1_34) ⟨k_ARCHITECTURE, rfl, N0, rfl, (Exa.ext O0 E_ARCHITECTURE), (by unfold own_kd; rw [if_neg hc45, if_neg hc47, if_neg hc49, if_pos hc51])⟩ (by decide) (by decide)
        · refine OEnd.of (fun t k => XS.icmpYes X0.here hx rfl (pc0 := 28) (pc' := 35) rfl (hb hby d1_28) rfl (feq hc51).2 (by decide) (by decide) k) ?_
          show OEnd p e below _ (s₁.setTop (mkF m 35 #[.val (.int p1)] []))
          refine OEnd.of (fun t k => XS.iloadN X0.here hx rfl (hb hby d1_35) rfl k) ?_
          show OEnd p e below _ (s₁.setTop (mkF m 36 #[.val (.int p1)] [(.int p1)]))
          refine OEnd.of (fun t k => XS.iconst X0.here hx rfl (hb hby d1_36) k) ?_
          show OEnd p e below _ (s₁.setTop (mkF m 37 #[.val (.int p1)] [(.int (4 : Int32)), (.int p1)]))
          by_cases hc53 : p1 = (4 : Int32)
          · refine OEnd.of (fun t k => XS.icmpNo X0.here hx rfl (hb hby d1_37) rfl (teq hc53).2 k) ?_
            show OEnd p e below _ (s₁.setTop (mkF m 40 #[.val (.int p1)] []))
            obtain ⟨T54, X54, e54, st54⟩ := getS2 X0 hx hZ hown (host := "") (Or.inl (hw _ (List.mem_of_getElem? (i := 93) rfl))) Via.refl e0 (Sta.ext O0 S_COLON) (g := (mkF m 40 #[.val (.int p1)] [])) rfl (hb hby d1_40)
            refine OEnd.of st54 ?_
            show OEnd p e below _ (T54.setTop (mkF m 43 #[.val (.int p1)] [(.ref k_COLON)]))
            exact OEnd.retA X54 hx hlk e54 hret rfl rfl (hb hby d1_43) ⟨k_COLON, rfl, N0, rfl, (Exa.ext O0 E_COLON), (by unfold own_kd; rw [if_neg hc45, if_neg hc47, if_neg hc49, if_neg hc51, if_pos hc53])⟩ (by decide) (by decide)
          · refine OEnd.of (fun t k => XS.icmpYes X0.here hx rfl (pc0 := 37) (pc' := 44) rfl (hb hby d1_37) rfl (feq hc53).2 (by decide) (by decide) k) ?_
            show OEnd p e below _ (s₁.setTop (mkF m 44 #[.val (.int p1)] []))
            refine OEnd.of (fun t k => XS.iloadN X0.here hx rfl (hb hby d1_44) rfl k) ?_
            show OEnd p e below _ (s₁.setTop (mkF m 45 #[.val (.int p1)] [(.int p1)]))
            refine OEnd.of (fun t k => XS.iconst X0.here hx rfl (hb hby d1_45) k) ?_
            show OEnd p e below _ (s₁.setTop (mkF m 46 #[.val (.int p1)] [(.int (5 : Int32)), (.int p1)]))
            by_cases hc55 : p1 = (5 : Int32)
            · refine OEnd.of (fun t k => XS.icmpNo X0.here hx rfl (hb hby d1_46) rfl (teq hc55).2 k) ?_
              show OEnd p e below _ (s₁.setTop (mkF m 49 #[.val (.int p1)] []))
              obtain ⟨T56, X56, e56, st56⟩ := getS2 X0 hx hZ hown (host := "") (Or.inl (hw _ (List.mem_of_getElem? (i := 89) rfl))) Via.refl e0 (Sta.ext O0 S_MINUS_SIGN) (g := (mkF m 49 #[.val (.int p1)] [])) rfl (hb hby d1_49)
              refine OEnd.of st56 ?_
              show OEnd p e below _ (T56.setTop (mkF m 52 #[.val (.int p1)] [(.ref k_MINUS_SIGN)]))
              exact OEnd.retA X56 hx hlk e56 hret rfl rfl (hb hby d1_52) ⟨k_MINUS_SIGN, rfl, N0, rfl, (Exa.ext O0 E_MINUS_SIGN), (by unfold own_kd; rw [if_neg hc45, if_neg hc47, if_neg hc49, if_neg hc51, if_neg hc53, if_pos hc55])⟩ (by decide) (by decide)
            · refine OEnd.of (fun t k => XS.icmpYes X0.here hx rfl (pc0 := 46) (pc' := 53) rfl (hb hby d1_46) rfl (feq hc55).2 (by decide) (by decide) k) ?_
              show OEnd p e below _ (s₁.setTop (mkF m 53 #[.val (.int p1)] []))
              refine OEnd.of (fun t k => XS.iloadN X0.here hx rfl (hb hby d1_53) rfl k) ?_
              show OEnd p e below _ (s₁.setTop (mkF m 54 #[.val (.int p1)] [(.int p1)]))
              refine OEnd.of (fun t k => XS.bipush X0.here hx rfl (hb hby d1_54) k) ?_
              show OEnd p e below _ (s₁.setTop (mkF m 56 #[.val (.int p1)] [(.int (6 : Int32)), (.int p1)]))
              by_cases hc57 : p1 = (6 : Int32)
              · refine OEnd.of (fun t k => XS.icmpNo X0.here hx rfl (hb hby d1_56) rfl (teq hc57).2 k) ?_
                show OEnd p e below _ (s₁.setTop (mkF m 59 #[.val (.int p1)] []))
                obtain ⟨T58, X58, e58, st58⟩ := getS2 X0 hx hZ hown (host := "") (Or.inl (hw _ (List.mem_of_getElem? (i := 97) rfl))) Via.refl e0 (Sta.ext O0 S_NOT) (g := (mkF m 59 #[.val (.int p1)] [])) rfl (hb hby d1_59)
                refine OEnd.of st58 ?_
                show OEnd p e below _ (T58.setTop (mkF m 62 #[.val (.int p1)] [(.ref k_NOT)]))
                exact OEnd.retA X58 hx hlk e58 hret rfl rfl (hb hby d1_62) ⟨k_NOT, rfl, N0, rfl, (Exa.ext O0 E_NOT), (by unfold own_kd; rw [if_neg hc45, if_neg hc47, if_neg hc49, if_neg hc51, if_neg hc53, if_neg hc55, if_pos hc57])⟩ (by decide) (by decide)
              · refine OEnd.of (fun t k => XS.icmpYes X0.here hx rfl (pc0 := 56) (pc' := 63) rfl (hb hby d1_56) rfl (feq hc57).2 (by decide) (by decide) k) ?_
                show OEnd p e below _ (s₁.setTop (mkF m 63 #[.val (.int p1)] []))
                obtain ⟨T59, X59, e59, st59⟩ := getS2 X0 hx hZ hown (host := "") (Or.inl (hw _ (List.mem_of_getElem? (i := 91) rfl))) Via.refl e0 (Sta.ext O0 S_SUBSET) (g := (mkF m 63 #[.val (.int p1)] [])) rfl (hb hby d1_63)
                refine OEnd.of st59 ?_
                show OEnd p e below _ (T59.setTop (mkF m 66 #[.val (.int p1)] [(.ref k_SUBSET)]))
                exact OEnd.retA X59 hx hlk e59 hret rfl rfl (hb hby d1_66) ⟨k_SUBSET, rfl, N0, rfl, (Exa.ext O0 E_SUBSET), (by unfold own_kd; rw [if_neg hc45, if_neg hc47, if_neg hc49, if_neg hc51, if_neg hc53, if_neg hc55, if_neg hc57])⟩ (by decide) (by decide)
theorem pd_285bC29V : parseMethodDescriptor "([C)V" = some ⟨[(.array .char)], none⟩ := by decide +kernel
theorem d2_0 : decode method_3_code 0 = .ok (.iload_n 0, 1) := by decide +kernel
theorem d2_1 : decode method_3_code 1 = .ok (.ifCond .ne 14, 3) := by decide +kernel
theorem d2_4 : decode method_3_code 4 = .ok (.new 34, 3) := by decide +kernel
theorem d2_7 : decode method_3_code 7 = .ok (.dup, 1) := by decide +kernel
theorem d2_8 : decode method_3_code 8 = .ok (.iconst 0, 1) := by decide +kernel
theorem d2_9 : decode method_3_code 9 = .ok (.newarray .char, 2) := by decide +kernel
theorem d2_11 : decode method_3_code 11 = .ok (.invokespecial 36, 3) := by decide +kernel
theorem d2_14 : decode method_3_code 14 = .ok (.areturn, 1) := by decide +kernel
theorem d2_15 : decode method_3_code 15 = .ok (.iload_n 0, 1) := by decide +kernel
theorem d2_16 : decode method_3_code 16 = .ok (.iconst 1, 1) := by decide +kernel
theorem d2_17 : decode method_3_code 17 = .ok (.if_icmp .ne 18, 3) := by decide +kernel
theorem d2_20 : decode method_3_code 20 = .ok (.new 34, 3) := by decide +kernel
theorem d2_23 : decode method_3_code 23 = .ok (.dup, 1) := by decide +kernel
theorem d2_24 : decode method_3_code 24 = .ok (.iconst 1, 1) := by decide +kernel
theorem d2_25 : decode method_3_code 25 = .ok (.newarray .char, 2) := by decide +kernel
theorem d2_27 : decode method_3_code 27 = .ok (.dup, 1) := by decide +kernel
theorem d2_28 : decode method_3_code 28 = .ok (.iconst 0, 1) := by decide +kernel
theorem d2_29 : decode method_3_code 29 = .ok (.iload_n 1, 1) := by decide +kernel
theorem d2_30 : decode method_3_code 30 = .ok (.castore, 1) := by decide +kernel
theorem d2_31 : decode method_3_code 31 = .ok (.invokespecial 36, 3) := by decide +kernel
theorem d2_34 : decode method_3_code 34 = .ok (.areturn, 1) := by decide +kernel
theorem d2_35 : decode method_3_code 35 = .ok (.new 34, 3) := by decide +kernel
theorem d2_38 : decode method_3_code 38 = .ok (.dup, 1) := by decide +kernel
theorem d2_39 : decode method_3_code 39 = .ok (.iconst 2, 1) := by decide +kernel
theorem d2_40 : decode method_3_code 40 = .ok (.newarray .char, 2) := by decide +kernel
theorem d2_42 : decode method_3_code 42 = .ok (.dup, 1) := by decide +kernel
theorem d2_43 : decode method_3_code 43 = .ok (.iconst 0, 1) := by decide +kernel
theorem d2_44 : decode method_3_code 44 = .ok (.iload_n 1, 1) := by decide +kernel
theorem d2_45 : decode method_3_code 45 = .ok (.castore, 1) := by decide +kernel
theorem d2_46 : decode method_3_code 46 = .ok (.dup, 1) := by decide +kernel
theorem d2_47 : decode method_3_code 47 = .ok (.iconst 1, 1) := by decide +kernel
theorem d2_48 : decode method_3_code 48 = .ok (.iload_n 2, 1) := by decide +kernel
theorem d2_49 : decode method_3_code 49 = .ok (.castore, 1) := by decide +kernel
theorem d2_50 : decode method_3_code 50 = .ok (.invokespecial 36, 3) := by decide +kernel
theorem d2_53 : decode method_3_code 53 = .ok (.areturn, 1) := by decide +kernel
abbrev RMrmMk : Room := { frames := 4, cells := 6, slots := 12, locals := 66 }
theorem ef_rmMk (m : MethodId) (p1 : Int32) (p2 : Int32) (p3 : Int32) : entryFrame m #[(.int p1), (.int p2), (.int p3)] 3 = mkF m 0 #[.val (.int p1), .val (.int p2), .val (.int p3)] [] := by first | (simp [entryFrame, mkF, argsToLocals, Value.category]; done) | rfl
def QrmMk (Z : State) (zc : Int32) (k_IDENTIFIER : Addr) (k_INTEGER : Addr) (k_END : Addr) (k_ARCHITECTURE : Addr) (k_COLON : Addr) (k_MINUS_SIGN : Addr) (k_NOT : Addr) (k_SUBSET : Addr) (of : Addr → Int32) (p1 : Int32) (p2 : Int32) (p3 : Int32) (h0 : Heap) (v : Option Value) (h : Heap) (L : List Loc) : Prop := ∃ (r : Addr), v = some (.ref r) ∧ Fr Z.heap.size L ∧ Keep h0 h [] ∧ IsStr Z h r (own_mk p1 p2 p3)
set_option maxRecDepth 65536 in
set_option maxHeartbeats 40000000 in
theorem rmMk (l : Launch) (Z : State) (a0 : Array Value) (hw : ∀ d ∈ tables_1, d.before a0 Z = true) (zc : Int32) (k_IDENTIFIER : Addr) (k_INTEGER : Addr) (k_END : Addr) (k_ARCHITECTURE : Addr) (k_COLON : Addr) (k_MINUS_SIGN : Addr) (k_NOT : Addr) (k_SUBSET : Addr) (of : Addr → Int32) (S_CS : Sta Z Z.heap "java/lang/String" "COMPACT_STRINGS" "Z" (.int zc)) (hzc : ¬ zc = 0) (S_IDENTIFIER : Sta Z Z.heap "com/example/thorough_topology/thoroughtopology/language/TokenKind" "IDENTIFIER" "Lcom/example/thorough_topology/thoroughtopology/language/TokenKind;" (.ref k_IDENTIFIER)) (S_INTEGER : Sta Z Z.heap "com/example/thorough_topology/thoroughtopology/language/TokenKind" "INTEGER" "Lcom/example/thorough_topology/thoroughtopology/language/TokenKind;" (.ref k_INTEGER)) (S_END : Sta Z Z.heap "com/example/thorough_topology/thoroughtopology/language/TokenKind" "END" "Lcom/example/thorough_topology/thoroughtopology/language/TokenKind;" (.ref k_END)) (S_ARCHITECTURE : Sta Z Z.heap "com/example/thorough_topology/thoroughtopology/language/TokenKind" "ARCHITECTURE" "Lcom/example/thorough_topology/thoroughtopology/language/TokenKind;" (.ref k_ARCHITECTURE)) (S_COLON : Sta Z Z.heap "com/example/thorough_topology/thoroughtopology/language/TokenKind" "COLON" "Lcom/example/thorough_topology/thoroughtopology/language/TokenKind;" (.ref k_COLON)) (S_MINUS_SIGN : Sta Z Z.heap "com/example/thorough_topology/thoroughtopology/language/TokenKind" "MINUS_SIGN" "Lcom/example/thorough_topology/thoroughtopology/language/TokenKind;" (.ref k_MINUS_SIGN)) (S_NOT : Sta Z Z.heap "com/example/thorough_topology/thoroughtopology/language/TokenKind" "NOT" "Lcom/example/thorough_topology/thoroughtopology/language/TokenKind;" (.ref k_NOT)) (S_SUBSET : Sta Z Z.heap "com/example/thorough_topology/thoroughtopology/language/TokenKind" "SUBSET" "Lcom/example/thorough_topology/thoroughtopology/language/TokenKind;" (.ref k_SUBSET)) (E_IDENTIFIER : Exa Z Z.heap k_IDENTIFIER "com/example/thorough_topology/thoroughtopology/language/TokenKind") (od_IDENTIFIER : of k_IDENTIFIER = 0) (E_INTEGER : Exa Z Z.heap k_INTEGER "com/example/thorough_topology/thoroughtopology/language/TokenKind") (od_INTEGER : of k_INTEGER = 1) (E_END : Exa Z Z.heap k_END "com/example/thorough_topology/thoroughtopology/language/TokenKind") (od_END : of k_END = 2) (E_ARCHITECTURE : Exa Z Z.heap k_ARCHITECTURE "com/example/thorough_topology/thoroughtopology/language/TokenKind") (od_ARCHITECTURE : of k_ARCHITECTURE = 3) (E_COLON : Exa Z Z.heap k_COLON "com/example/thorough_topology/thoroughtopology/language/TokenKind") (od_COLON : of k_COLON = 37) (E_MINUS_SIGN : Exa Z Z.heap k_MINUS_SIGN "com/example/thorough_topology/thoroughtopology/language/TokenKind") (od_MINUS_SIGN : of k_MINUS_SIGN = 55) (E_NOT : Exa Z Z.heap k_NOT "com/example/thorough_topology/thoroughtopology/language/TokenKind") (od_NOT : of k_NOT = 25) (E_SUBSET : Exa Z Z.heap k_SUBSET "com/example/thorough_topology/thoroughtopology/language/TokenKind") (od_SUBSET : of k_SUBSET = 36) (hEL : EW Z a0 EL) (ws : List Jvm.Cond) (p1 : Int32) (p2 : Int32) (p3 : Int32) (h0 : Heap) (O0 : Ext Z.heap h0) (hch_p2 : ¬ p2 < 0 ∧ ¬ (255 : Int32) < p2) (hch_p3 : ¬ p3 < 0 ∧ ¬ (255 : Int32) < p3) :
    MetFree l (⟨"com/example/thorough_topology/thoroughtopology/language/TokenEqualsPinLaw", "text", "(ICC)Ljava/lang/String;"⟩ : MethodName) (head1 (Jvm.Cond.code (⟨"com/example/thorough_topology/thoroughtopology/language/TokenEqualsPinLaw", "text", "(ICC)Ljava/lang/String;"⟩ : MethodName) method_3_code 3 (some (.object "java/lang/String")) :: ws) RMrmMk) (fun a U => a = #[(.int p1), (.int p2), (.int p3)] ∧ Z.Warmed39 U.vm ∧ U.heap = h0 ∧ CHv Z EL U.vm h0) (fun _ _ _ _ _ => True) (fun _ U o U' => ∃ v L, o = .returned v ∧ QrmMk Z zc k_IDENTIFIER k_INTEGER k_END k_ARCHITECTURE k_COLON k_MINUS_SIGN k_NOT k_SUBSET of p1 p2 p3 h0 v U'.heap L ∧ CHr Z EL U.vm U.heap U'.vm U'.heap ∧ ReturnedEndW U o U' L RMrmMk.cells RMrmMk.slots) := by
  refine MetFree.of_bodySF (plainFor_of_name pn_com_example_thorough_topology_thoroughtopology_language_TokenEqualsPinLaw) hisR ?_
  intro p e s m args below meth c s₁ Bd hml0 hP hK
  obtain ⟨rfl, hZ, hh, hC0⟩ := hP
  have hx := Bd.exec
  have hby := Bd.bytes
  have hlk : meth.locks = false := BodyLoose.notSynchronized Bd
  have hret := Bd.returns
  have hml : c.maxLocals = 3 := hml0
  have hown : s.vm.findClass "com/example/thorough_topology/thoroughtopology/language/TokenEqualsPinLaw" = some m.cls := findClass_of_methodNamed Bd.named
  have hnm := (name_of_methodNamed Bd.named Bd.method).1
  have X0 : Stand p l e RMrmMk (s.setVm s.vm) m #[(.int p1), (.int p2), (.int p3)] below meth c s₁ [] 0 0 := Stand.of_body Bd
  have e0 : s₁.heap = h0 := by rw [← hh, Bd.state]; rfl
  have N0 := Fr.nil Z.heap.size
  have hZ : Z.Warmed39 (s.setVm s.vm).vm := hZ
  have hS0 : s.Since s.vm h0.size := (State.WarmedH.refl s).since _
  have hk0 : h0.size ≤ h0.size := Nat.le_refl _
  have HR0 : CHr Z EL s.vm h0 s.vm h0 := CHr.refl hC0
  have hwS : ∀ d ∈ Bundle.stringAtoms, d.before a0 Z = true := fun d hd => hw d (own_strAtoms d hd)
  show OEnd p e below (GW s Z EL (QrmMk Z zc k_IDENTIFIER k_INTEGER k_END k_ARCHITECTURE k_COLON k_MINUS_SIGN k_NOT k_SUBSET of p1 p2 p3 h0) RMrmMk.cells RMrmMk.slots) _
  refine OEnd.of (fun t k => castTop (ef_rmMk m p1 p2 p3) k) ?_
  refine OEnd.of (fun t k => XS.iloadN X0.here hx rfl (hb hby d2_0) rfl k) ?_
  show OEnd p e below _ (s₁.setTop (mkF m 1 #[.val (.int p1), .val (.int p2), .val (.int p3)] [(.int p1)]))
  by_cases hc60 : p1 = (0 : Int32)
  · refine OEnd.of (fun t k => XS.ifNo X0.here hx rfl (hb hby d2_1) rfl ((if0 _ _).trans (teq hc60).2) k) ?_
    show OEnd p e below _ (s₁.setTop (mkF m 4 #[.val (.int p1), .val (.int p2), .val (.int p3)] []))
    obtain ⟨T61, h61, X61, e61, E61, A61, D61, -, st61⟩ := newO X0 hx hZ hown (hw _ (List.mem_of_getElem? (i := 14) rfl)) (hw _ (List.mem_of_getElem? (i := 15) rfl)) (hw _ (List.mem_of_getElem? (i := 16) rfl)) e0 (g := (mkF m 4 #[.val (.int p1), .val (.int p2), .val (.int p3)] [])) rfl (hb hby d2_4) (by decide) (by decide)
    obtain ⟨b61, g61⟩ : ∃ z, z = h0.size := ⟨_, rfl⟩
    rw [← g61] at A61 D61 st61
    refine OEnd.of st61 ?_
    have f61 : Z.heap.size ≤ b61 := Nat.le_trans O0.1 (Nat.le_of_eq g61.symm)
    have F62 : Fld Z h61 b61 "java/lang/String" "coder" "B" (.int (0 : Int32)) := D61 (Or.inr (hw _ (List.mem_of_getElem? (i := 41) rfl))) (ty := .byte) (by decide)
    have F63 : Fld Z h61 b61 "java/lang/String" "value" "[B" .null := D61 (Or.inr (hw _ (List.mem_of_getElem? (i := 43) rfl))) (ty := (.array .byte)) (by decide)
    have CR64 : CHr Z EL s.vm h0 s.vm h61 := CHr.ext E61 HR0.1
    have HR65 : CHr Z EL s.vm h0 s.vm h61 := HR0.trans CR64
    show OEnd p e below _ (T61.setTop (mkF m 7 #[.val (.int p1), .val (.int p2), .val (.int p3)] [(.ref b61)]))
    refine OEnd.of (fun t k => XS.dup X61.here hx rfl (hb hby d2_7) rfl rfl k) ?_
    show OEnd p e below _ (T61.setTop (mkF m 8 #[.val (.int p1), .val (.int p2), .val (.int p3)] [(.ref b61), (.ref b61)]))
    refine OEnd.of (fun t k => XS.iconst X61.here hx rfl (hb hby d2_8) k) ?_
    show OEnd p e below _ (T61.setTop (mkF m 9 #[.val (.int p1), .val (.int p2), .val (.int p3)] [(.int (0 : Int32)), (.ref b61), (.ref b61)]))
    have K67 : Keep h0 h61 [] := ((Keep.refl h0 []).ext E61)
    have O68 : Ext Z.heap h61 := own_extKeep O0 K67 all0
    obtain ⟨T66, h66, k66, X66, e66, E66, A66, st66⟩ := newP X61 hx hZ (hw _ (List.mem_of_getElem? (i := 17) rfl)) e61 (g := (mkF m 9 #[.val (.int p1), .val (.int p2), .val (.int p3)] [(.int (0 : Int32)), (.ref b61), (.ref b61)])) rfl (hb hby d2_9) rfl (by decide) (cap := 0) (by decide) (by decide) (by decide) (by decide)
    obtain ⟨b66, g66⟩ : ∃ z, z = h61.size := ⟨_, rfl⟩
    rw [← g66] at A66 st66
    refine OEnd.of st66 ?_
    have V66 : Arv Z h66 b66 k66 .char (0 : Int32) [] (.int (0 : Int32)) := (Arv.new A66 (by decide)).pad (pad_rep [] (.int (0 : Int32)) 0)
    have f66 : Z.heap.size ≤ b66 := Nat.le_trans O68.1 (Nat.le_of_eq g66.symm)
    have CR69 : CHr Z EL s.vm h61 s.vm h66 := CHr.ext E66 HR65.1
    have HR70 : CHr Z EL s.vm h0 s.vm h66 := HR65.trans CR69
    show OEnd p e below _ (T66.setTop (mkF m 11 #[.val (.int p1), .val (.int p2), .val (.int p3)] [(.ref b66), (.ref b61), (.ref b61)]))
    have K72 : Keep h61 h66 [] := ((Keep.refl h61 []).ext E66)
    have O73 : Ext Z.heap h66 := own_extKeep O68 K72 all0
    obtain ⟨_, vq71, ⟨T71, L71, k71, n71⟩, -, X71, S71, G71, ⟨Lc71, hQ71, l71, y71, z71, C71⟩, st71⟩ := X66.specialBackS hx (y := (⟨"java/lang/String", "<init>", "([C)V"⟩ : MethodName)) rfl hown (mvT hZ (hw _ (List.mem_of_getElem? (i := 18) rfl))) (mvT hZ (hw _ (List.mem_of_getElem? (i := 19) rfl))) (mvT hZ (hw _ (List.mem_of_getElem? (i := 20) rfl))) (by decide) (backOfSH (W := 1) (rmS1e l Z a0 hw zc k_IDENTIFIER k_INTEGER k_END k_ARCHITECTURE k_COLON k_MINUS_SIGN k_NOT k_SUBSET of S_CS hzc S_IDENTIFIER S_INTEGER S_END S_ARCHITECTURE S_COLON S_MINUS_SIGN S_NOT S_SUBSET E_IDENTIFIER od_IDENTIFIER E_INTEGER od_INTEGER E_END od_END E_ARCHITECTURE od_ARCHITECTURE E_COLON od_COLON E_MINUS_SIGN od_MINUS_SIGN E_NOT od_NOT E_SUBSET od_SUBSET hEL [] b61 b66 k66 h66 O73 (A61.keep K72) (F63.keep K72 nin0) (F62.keep K72 nin0) f61 V66) hZ (hw _ (List.mem_of_getElem? (i := 20) rfl)) (hw _ (List.mem_of_getElem? (i := 16) rfl)) (by decide) (by decide) hEL HR70.1) (g := (mkF m 11 #[.val (.int p1), .val (.int p2), .val (.int p3)] [(.ref b66), (.ref b61), (.ref b61)])) rfl (by rw [hml]; rfl) (Steps.refl _) (a := b61) (argsL := [(.ref b66)]) (rest := [(.ref b61)]) (lenOf pd_285bC29V rfl) rfl (by show 2 * 0 + _ ≤ _; exact Nat.le_of_eq rfl) (hb hby d2_11) (fun _ _ => ⟨rfl, e66, (by decide : 2 + 4 ≤ _), (by decide : 4 + 8 ≤ _)⟩)
    have K74 : Keep h0 h66 [] := (K67.ext E66)
    dsimp only [Pt.U, Pt.locs, Pt.cells, Pt.slots] at X71 l71 y71 z71 st71 hQ71 S71 G71 C71
    subst l71 y71 z71
    obtain ⟨h71, e71⟩ : ∃ z, T71.heap = z := ⟨_, rfl⟩
    rw [e71] at hQ71 C71
    obtain ⟨rfl, Nq71, Kq71, S_75⟩ := hQ71
    have N76 := Fr.app N0 Nq71
    obtain ⟨X71, S71, hZ71, hown71⟩ := rebS hS0 (by rw [e66]; exact (Nat.le_trans hk0 K74.1)) X71 S71 G71 hZ hown
    rw [e71] at S71
    have hk71 : h71.size ≤ h71.size := Nat.le_refl _
    have CR77 : CHr Z EL s.vm h66 T71.vm h71 := C71
    have HR78 : CHr Z EL s.vm h0 T71.vm h71 := HR70.trans CR77
    refine OEnd.of (fun t k => st71.trans k) ?_
    show OEnd p e below _ (T71.setTop (mkF m 14 #[.val (.int p1), .val (.int p2), .val (.int p3)] [(.ref b61)]))
    have Sm : IsStr Z h71 b61 (own_mk p1 p2 p3) := by unfold own_mk; rw [if_pos hc60]; exact S_75
    have K79 : Keep h0 h71 [] := (K74.trans Kq71 (allS (Or.inr (Nat.le_of_eq g61.symm)) all0))
    exact OEnd.retAW X71 hx hlk e71 hh S71 hk71 hEL hZ71 HR78 hret rfl rfl (hb hby d2_14) ⟨b61, rfl, N76, K79, Sm⟩ (by decide) (by decide)
  · refine OEnd.of (fun t k => XS.ifYes X0.here hx rfl (pc0 := 1) (pc' := 15) rfl (hb hby d2_1) rfl ((if0 _ _).trans (feq hc60).2) (by decide) (by decide) k) ?_
    show OEnd p e below _ (s₁.setTop (mkF m 15 #[.val (.int p1), .val (.int p2), .val (.int p3)] []))
    refine OEnd.of (fun t k => XS.iloadN X0.here hx rfl (hb hby d2_15) rfl k) ?_
    show OEnd p e below _ (s₁.setTop (mkF m 16 #[.val (.int p1), .val (.int p2), .val (.int p3)] [(.int p1)]))
    refine OEnd.of (fun t k => XS.iconst X0.here hx rfl (hb hby d2_16) k) ?_
    show OEnd p e below _ (s₁.setTop (mkF m 17 #[.val (.int p1), .val (.int p2), .val (.int p3)] [(.int (1 : Int32)), (.int p1)]))
    by_cases hc80 : p1 = (1 : Int32)
    · refine OEnd.of (fun t k => XS.icmpNo X0.here hx rfl (hb hby d2_17) rfl (teq hc80).2 k) ?_
      show OEnd p e below _ (s₁.setTop (mkF m 20 #[.val (.int p1), .val (.int p2), .val (.int p3)] []))
      obtain ⟨T81, h81, X81, e81, E81, A81, D81, -, st81⟩ := newO X0 hx hZ hown (hw _ (List.mem_of_getElem? (i := 14) rfl)) (hw _ (List.mem_of_getElem? (i := 15) rfl)) (hw _ (List.mem_of_getElem? (i := 16) rfl)) e0 (g := (mkF m 20 #[.val (.int p1), .val (.int p2), .val (.int p3)] [])) rfl (hb hby d2_20) (by decide) (by decide)
      obtain ⟨b81, g81⟩ : ∃ z, z = h0.size := ⟨_, rfl⟩
      rw [← g81] at A81 D81 st81
      refine OEnd.of st81 ?_
      have f81 : Z.heap.size ≤ b81 := Nat.le_trans O0.1 (Nat.le_of_eq g81.symm)
      have F82 : Fld Z h81 b81 "java/lang/String" "coder" "B" (.int (0 : Int32)) := D81 (Or.inr (hw _ (List.mem_of_getElem? (i := 41) rfl))) (ty := .byte) (by decide)
      have F83 : Fld Z h81 b81 "java/lang/String" "value" "[B" .null := D81 (Or.inr (hw _ (List.mem_of_getElem? (i := 43) rfl))) (ty := (.array .byte)) (by decide)
      have CR84 : CHr Z EL s.vm h0 s.vm h81 := CHr.ext E81 HR0.1
      have HR85 : CHr Z EL s.vm h0 s.vm h81 := HR0.trans CR84
      show OEnd p e below _ (T81.setTop (mkF m 23 #[.val (.int p1), .val (.int p2), .val (.int p3)] [(.ref b81)]))
      refine OEnd.of (fun t k => XS.dup X81.here hx rfl (hb hby d2_23) rfl rfl k) ?_
      show OEnd p e below _ (T81.setTop (mkF m 24 #[.val (.int p1), .val (.int p2), .val (.int p3)] [(.ref b81), (.ref b81)]))
      refine OEnd.of (fun t k => XS.iconst X81.here hx rfl (hb hby d2_24) k) ?_
      show OEnd p e below _ (T81.setTop (mkF m 25 #[.val (.int p1), .val (.int p2), .val (.int p3)] [(.int (1 : Int32)), (.ref b81), (.ref b81)]))
      have K87 : Keep h0 h81 [] := ((Keep.refl h0 []).ext E81)
      have O88 : Ext Z.heap h81 := own_extKeep O0 K87 all0
      obtain ⟨T86, h86, k86, X86, e86, E86, A86, st86⟩ := newP X81 hx hZ (hw _ (List.mem_of_getElem? (i := 17) rfl)) e81 (g := (mkF m 25 #[.val (.int p1), .val (.int p2), .val (.int p3)] [(.int (1 : Int32)), (.ref b81), (.ref b81)])) rfl (hb hby d2_25) rfl (by decide) (cap := 1) (by decide) (by decide) (by decide) (by decide)
      obtain ⟨b86, g86⟩ : ∃ z, z = h81.size := ⟨_, rfl⟩
      rw [← g86] at A86 st86
      refine OEnd.of st86 ?_
      have V86 : Arv Z h86 b86 k86 .char (1 : Int32) [(.int (0 : Int32))] (.int (0 : Int32)) := (Arv.new A86 (by decide)).pad (pad_rep [] (.int (0 : Int32)) 1)
      have f86 : Z.heap.size ≤ b86 := Nat.le_trans O88.1 (Nat.le_of_eq g86.symm)
      have CR89 : CHr Z EL s.vm h81 s.vm h86 := CHr.ext E86 HR85.1
      have HR90 : CHr Z EL s.vm h0 s.vm h86 := HR85.trans CR89
      show OEnd p e below _ (T86.setTop (mkF m 27 #[.val (.int p1), .val (.int p2), .val (.int p3)] [(.ref b86), (.ref b81), (.ref b81)]))
      refine OEnd.of (fun t k => XS.dup X86.here hx rfl (hb hby d2_27) rfl rfl k) ?_
      show OEnd p e below _ (T86.setTop (mkF m 28 #[.val (.int p1), .val (.int p2), .val (.int p3)] [(.ref b86), (.ref b86), (.ref b81), (.ref b81)]))
      refine OEnd.of (fun t k => XS.iconst X86.here hx rfl (hb hby d2_28) k) ?_
      show OEnd p e below _ (T86.setTop (mkF m 29 #[.val (.int p1), .val (.int p2), .val (.int p3)] [(.int (0 : Int32)), (.ref b86), (.ref b86), (.ref b81), (.ref b81)]))
      refine OEnd.of (fun t k => XS.iloadN X86.here hx rfl (hb hby d2_29) rfl k) ?_
      show OEnd p e below _ (T86.setTop (mkF m 30 #[.val (.int p1), .val (.int p2), .val (.int p3)] [(.int p2), (.int (0 : Int32)), (.ref b86), (.ref b86), (.ref b81), (.ref b81)]))
      have Vc91 := V86
      obtain ⟨cl91, Ar91, q91, S91, N91, H91, G91⟩ := Vc91
      have hin91 : ¬ ((0 : Int32) < 0 ∨ cl91.slots.size ≤ ((0 : Int32)).toNatClampNeg) := inb_of S91 ⟨by decide, by decide⟩
      obtain ⟨T91, h91, X91, e91, W91, st91⟩ := stC X86 hx hZ e86 Ar91 (j := (0 : Int32)) hin91 (g := (mkF m 30 #[.val (.int p1), .val (.int p2), .val (.int p3)] [(.int p2), (.int (0 : Int32)), (.ref b86), (.ref b86), (.ref b81), (.ref b81)])) rfl rfl (hb hby d2_30)
      refine OEnd.of st91 ?_
      rw [(own_narC hch_p2)] at W91
      have V92 : Arv Z h91 b86 k86 .char (1 : Int32) [(.int p2)] (.int (0 : Int32)) := Arv.set Ar91 q91 S91 N91 H91 G91 ((own_narC hch_p2) ▸ fits_nar_char _) W91 0 rfl (Nat.le_of_ble_eq_true rfl)
      have N93 := Fr.snoc X91 N0 f86
      have CR94 : CHr Z EL s.vm h86 s.vm h91 := CHr.wr W91 (own_safeArv hZ.alike V86 (by decide)) HR90.1
      have HR95 : CHr Z EL s.vm h0 s.vm h91 := HR90.trans CR94
      show OEnd p e below _ (T91.setTop (mkF m 31 #[.val (.int p1), .val (.int p2), .val (.int p3)] [(.ref b86), (.ref b81), (.ref b81)]))
      have K96 : Keep h81 h91 [] := (((Keep.refl h81 []).ext E86).wr W91 (Or.inr (Nat.le_of_eq g86.symm)))
      have O97 : Ext Z.heap h91 := own_extKeep O88 K96 all0
      obtain ⟨_, _, ⟨T98, L98, k98, n98⟩, -, X98, ⟨Lc98, hQ98, l98, y98, z98⟩, st98⟩ := X91.specialBack hx (y := (⟨"java/lang/String", "<init>", "([C)V"⟩ : MethodName)) rfl hown (mvT hZ (hw _ (List.mem_of_getElem? (i := 18) rfl))) (mvT hZ (hw _ (List.mem_of_getElem? (i := 19) rfl))) (mvT hZ (hw _ (List.mem_of_getElem? (i := 20) rfl))) (by decide) (StrChars.Road.backV (W := 1) hZ (fun d hd => hw d (own_strWords d hd)) (kI := 4) (hw _ (List.mem_of_getElem? (i := 15) rfl)) (cs := [p2]) (bs := [p2].map (fun c => c.toInt8.toInt32)) (n := 1) (n0 := Z.heap.size) f81 O97.1 (A81.keep K96) (F83.keep K96 nin0) (F82.keep K96 nin0) V92 (Sta.ext O97 S_CS) hzc rfl rfl (by decide) (by decide) (List.forall_mem_cons.mpr ⟨hch_p2, (fun _ q => nomatch q)⟩) rfl (by decide) (by decide)) (g := (mkF m 31 #[.val (.int p1), .val (.int p2), .val (.int p3)] [(.ref b86), (.ref b81), (.ref b81)])) rfl (by rw [hml]; rfl) (Steps.refl _) (a := b81) (argsL := [(.ref b86)]) (rest := [(.ref b81)]) (lenOf pd_285bC29V rfl) rfl (by show 2 * 0 + _ ≤ _; exact Nat.le_of_eq rfl) (hb hby d2_31) (fun _ _ => ⟨rfl, e91, (by decide : 2 + 1 ≤ _), (by decide : 5 + 1 ≤ _)⟩)
      dsimp only [Pt.U, Pt.locs, Pt.cells, Pt.slots] at X98 l98 y98 z98 st98 hQ98
      subst l98 y98 z98
      obtain ⟨h98, e98⟩ : ∃ z, T98.heap = z := ⟨_, rfl⟩
      rw [e98] at hQ98
      have Sf99 : Safe Z EL s.vm h91 b81 := own_safeNull hZ.alike (A81.keep K96) (F83.keep K96 nin0)
      have lt100 : b81 < h91.size := ((A81.keep K96)).lt
      obtain ⟨rfl, Nq98, Kq98, Ex98, Cd98, t98, kb98, f98, hh98, nx98, Vl98, Ar98⟩ := hQ98
      have N101 := Fr.app N93 Nq98
      have CR102 : CHr Z EL s.vm h91 s.vm h98 := CHr.keep Kq98 (allS Sf99 all0) HR95.1
      have HR103 : CHr Z EL s.vm h0 s.vm h98 := HR95.trans CR102
      have Sf104 : Safe Z EL s.vm h98 b81 := CR102.safe lt100 Sf99
      refine OEnd.of (fun t k => st98.trans k) ?_
      show OEnd p e below _ (T98.setTop (mkF m 34 #[.val (.int p1), .val (.int p2), .val (.int p3)] [(.ref b81)]))
      have St105 : IsStr Z h98 b81 [p2] := ⟨Ex98, Cd98, ⟨t98, kb98, Vl98, Ar98⟩, (List.forall_mem_cons.mpr ⟨hch_p2, (fun _ q => nomatch q)⟩), Nat.le_of_ble_eq_true rfl⟩
      have Sm : IsStr Z h98 b81 (own_mk p1 p2 p3) := by unfold own_mk; rw [if_neg hc60, if_pos hc80]; exact St105
      have K106 : Keep h0 h98 [] := (((K87.ext E86).wr W91 (Or.inr (Nat.le_trans K87.1 (Nat.le_of_eq g86.symm)))).trans Kq98 (allS (Or.inr (Nat.le_of_eq g81.symm)) all0))
      exact OEnd.retAW X98 hx hlk e98 hh hS0 (Nat.le_trans hk0 K106.1) hEL hZ HR103 hret rfl rfl (hb hby d2_34) ⟨b81, rfl, N101, K106, Sm⟩ (by decide) (by decide)
    · refine OEnd.of (fun t k => XS.icmpYes X0.here hx rfl (pc0 := 17) (pc' := 35) rfl (hb hby d2_17) rfl (feq hc80).2 (by decide) (by decide) k) ?_
      show OEnd p e below _ (s₁.setTop (mkF m 35 #[.val (.int p1), .val (.int p2), .val (.int p3)] []))
      obtain ⟨T107, h107, X107, e107, E107, A107, D107, -, st107⟩ := newO X0 hx hZ hown (hw _ (List.mem_of_getElem? (i := 14) rfl)) (hw _ (List.mem_of_getElem? (i := 15) rfl)) (hw _ (List.mem_of_getElem? (i := 16) rfl)) e0 (g := (mkF m 35 #[.val (.int p1), .val (.int p2), .val (.int p3)] [])) rfl (hb hby d2_35) (by decide) (by decide)
      obtain ⟨b107, g107⟩ : ∃ z, z = h0.size := ⟨_, rfl⟩
      rw [← g107] at A107 D107 st107
      refine OEnd.of st107 ?_
      have f107 : Z.heap.size ≤ b107 := Nat.le_trans O0.1 (Nat.le_of_eq g107.symm)
      have F108 : Fld Z h107 b107 "java/lang/String" "coder" "B" (.int (0 : Int32)) := D107 (Or.inr (hw _ (List.mem_of_getElem? (i := 41) rfl))) (ty := .byte) (by decide)
      have F109 : Fld Z h107 b107 "java/lang/String" "value" "[B" .null := D107 (Or.inr (hw _ (List.mem_of_getElem? (i := 43) rfl))) (ty := (.array .byte)) (by decide)
      have CR110 : CHr Z EL s.vm h0 s.vm h107 := CHr.ext E107 HR0.1
      have HR111 : CHr Z EL s.vm h0 s.vm h107 := HR0.trans CR110
      show OEnd p e below _ (T107.setTop (mkF m 38 #[.val (.int p1), .val (.int p2), .val (.int p3)] [(.ref b107)]))
      refine OEnd.of (fun t k => XS.dup X107.here hx rfl (hb hby d2_38) rfl rfl k) ?_
      show OEnd p e below _ (T107.setTop (mkF m 39 #[.val (.int p1), .val (.int p2), .val (.int p3)] [(.ref b107), (.ref b107)]))
      refine OEnd.of (fun t k => XS.iconst X107.here hx rfl (hb hby d2_39) k) ?_
      show OEnd p e below _ (T107.setTop (mkF m 40 #[.val (.int p1), .val (.int p2), .val (.int p3)] [(.int (2 : Int32)), (.ref b107), (.ref b107)]))
      have K113 : Keep h0 h107 [] := ((Keep.refl h0 []).ext E107)
      have O114 : Ext Z.heap h107 := own_extKeep O0 K113 all0
      obtain ⟨T112, h112, k112, X112, e112, E112, A112, st112⟩ := newP X107 hx hZ (hw _ (List.mem_of_getElem? (i := 17) rfl)) e107 (g := (mkF m 40 #[.val (.int p1), .val (.int p2), .val (.int p3)] [(.int (2 : Int32)), (.ref b107), (.ref b107)])) rfl (hb hby d2_40) rfl (by decide) (cap := 2) (by decide) (by decide) (by decide) (by decide)
      obtain ⟨b112, g112⟩ : ∃ z, z = h107.size := ⟨_, rfl⟩
      rw [← g112] at A112 st112
      refine OEnd.of st112 ?_
      have V112 : Arv Z h112 b112 k112 .char (2 : Int32) [(.int (0 : Int32)), (.int (0 : Int32))] (.int (0 : Int32)) := (Arv.new A112 (by decide)).pad (pad_rep [] (.int (0 : Int32)) 2)
      have f112 : Z.heap.size ≤ b112 := Nat.le_trans O114.1 (Nat.le_of_eq g112.symm)
      have CR115 : CHr Z EL s.vm h107 s.vm h112 := CHr.ext E112 HR111.1
      have HR116 : CHr Z EL s.vm h0 s.vm h112 := HR111.trans CR115
      show OEnd p e below _ (T112.setTop (mkF m 42 #[.val (.int p1), .val (.int p2), .val (.int p3)] [(.ref b112), (.ref b107), (.ref b107)]))
      refine OEnd.of (fun t k => XS.dup X112.here hx rfl (hb hby d2_42) rfl rfl k) ?_
      show OEnd p e below _ (T112.setTop (mkF m 43 #[.val (.int p1), .val (.int p2), .val (.int p3)] [(.ref b112), (.ref b112), (.ref b107), (.ref b107)]))
      refine OEnd.of (fun t k => XS.iconst X112.here hx rfl (hb hby d2_43) k) ?_
      show OEnd p e below _ (T112.setTop (mkF m 44 #[.val (.int p1), .val (.int p2), .val (.int p3)] [(.int (0 : Int32)), (.ref b112), (.ref b112), (.ref b107), (.ref b107)]))
      refine OEnd.of (fun t k => XS.iloadN X112.here hx rfl (hb hby d2_44) rfl k) ?_
      show OEnd p e below _ (T112.setTop (mkF m 45 #[.val (.int p1), .val (.int p2), .val (.int p3)] [(.int p2), (.int (0 : Int32)), (.ref b112), (.ref b112), (.ref b107), (.ref b107)]))
      have Vc117 := V112
      obtain ⟨cl117, Ar117, q117, S117, N117, H117, G117⟩ := Vc117
      have hin117 : ¬ ((0 : Int32) < 0 ∨ cl117.slots.size ≤ ((0 : Int32)).toNatClampNeg) := inb_of S117 ⟨by decide, by decide⟩
      obtain ⟨T117, h117, X117, e117, W117, st117⟩ := stC X112 hx hZ e112 Ar117 (j := (0 : Int32)) hin117 (g := (mkF m 45 #[.val (.int p1), .val (.int p2), .val (.int p3)] [(.int p2), (.int (0 : Int32)), (.ref b112), (.ref b112), (.ref b107), (.ref b107)])) rfl rfl (hb hby d2_45)
      refine OEnd.of st117 ?_
      rw [(own_narC hch_p2)] at W117
      have V118 : Arv Z h117 b112 k112 .char (2 : Int32) [(.int p2), (.int (0 : Int32))] (.int (0 : Int32)) := Arv.set Ar117 q117 S117 N117 H117 G117 ((own_narC hch_p2) ▸ fits_nar_char _) W117 0 rfl (Nat.le_of_ble_eq_true rfl)
      have N119 := Fr.snoc X117 N0 f112
      have CR120 : CHr Z EL s.vm h112 s.vm h117 := CHr.wr W117 (own_safeArv hZ.alike V112 (by decide)) HR116.1
      have HR121 : CHr Z EL s.vm h0 s.vm h117 := HR116.trans CR120
      show OEnd p e below _ (T117.setTop (mkF m 46 #[.val (.int p1), .val (.int p2), .val (.int p3)] [(.ref b112), (.ref b107), (.ref b107)]))
      refine OEnd.of (fun t k => XS.dup X117.here hx rfl (hb hby d2_46) rfl rfl k) ?_
      show OEnd p e below _ (T117.setTop (mkF m 47 #[.val (.int p1), .val (.int p2), .val (.int p3)] [(.ref b112), (.ref b112), (.ref b107), (.ref b107)]))
      refine OEnd.of (fun t k => XS.iconst X117.here hx rfl (hb hby d2_47) k) ?_
      show OEnd p e below _ (T117.setTop (mkF m 48 #[.val (.int p1), .val (.int p2), .val (.int p3)] [(.int (1 : Int32)), (.ref b112), (.ref b112), (.ref b107), (.ref b107)]))
      refine OEnd.of (fun t k => XS.iloadN X117.here hx rfl (hb hby d2_48) rfl k) ?_
      show OEnd p e below _ (T117.setTop (mkF m 49 #[.val (.int p1), .val (.int p2), .val (.int p3)] [(.int p3), (.int (1 : Int32)), (.ref b112), (.ref b112), (.ref b107), (.ref b107)]))
      have Vc122 := V118
      obtain ⟨cl122, Ar122, q122, S122, N122, H122, G122⟩ := Vc122
      have hin122 : ¬ ((1 : Int32) < 0 ∨ cl122.slots.size ≤ ((1 : Int32)).toNatClampNeg) := inb_of S122 ⟨by decide, by decide⟩
      obtain ⟨T122, h122, X122, e122, W122, st122⟩ := stC X117 hx hZ e117 Ar122 (j := (1 : Int32)) hin122 (g := (mkF m 49 #[.val (.int p1), .val (.int p2), .val (.int p3)] [(.int p3), (.int (1 : Int32)), (.ref b112), (.ref b112), (.ref b107), (.ref b107)])) rfl rfl (hb hby d2_49)
      refine OEnd.of st122 ?_
      rw [(own_narC hch_p3)] at W122
      have V123 : Arv Z h122 b112 k112 .char (2 : Int32) [(.int p2), (.int p3)] (.int (0 : Int32)) := Arv.set Ar122 q122 S122 N122 H122 G122 ((own_narC hch_p3) ▸ fits_nar_char _) W122 1 rfl (Nat.le_of_ble_eq_true rfl)
      have N124 := Fr.snoc X122 N119 f112
      have CR125 : CHr Z EL s.vm h117 s.vm h122 := CHr.wr W122 (own_safeArv hZ.alike V118 (by decide)) HR121.1
      have HR126 : CHr Z EL s.vm h0 s.vm h122 := HR121.trans CR125
      show OEnd p e below _ (T122.setTop (mkF m 50 #[.val (.int p1), .val (.int p2), .val (.int p3)] [(.ref b112), (.ref b107), (.ref b107)]))
      have K127 : Keep h107 h122 [] := ((((Keep.refl h107 []).ext E112).wr W117 (Or.inr (Nat.le_of_eq g112.symm))).wr W122 (Or.inr (Nat.le_of_eq g112.symm)))
      have O128 : Ext Z.heap h122 := own_extKeep O114 K127 all0
      obtain ⟨_, _, ⟨T129, L129, k129, n129⟩, -, X129, ⟨Lc129, hQ129, l129, y129, z129⟩, st129⟩ := X122.specialBack hx (y := (⟨"java/lang/String", "<init>", "([C)V"⟩ : MethodName)) rfl hown (mvT hZ (hw _ (List.mem_of_getElem? (i := 18) rfl))) (mvT hZ (hw _ (List.mem_of_getElem? (i := 19) rfl))) (mvT hZ (hw _ (List.mem_of_getElem? (i := 20) rfl))) (by decide) (StrChars.Road.backV (W := 1) hZ (fun d hd => hw d (own_strWords d hd)) (kI := 4) (hw _ (List.mem_of_getElem? (i := 15) rfl)) (cs := [p2, p3]) (bs := [p2, p3].map (fun c => c.toInt8.toInt32)) (n := 2) (n0 := Z.heap.size) f107 O128.1 (A107.keep K127) (F109.keep K127 nin0) (F108.keep K127 nin0) V123 (Sta.ext O128 S_CS) hzc rfl rfl (by decide) (by decide) (List.forall_mem_cons.mpr ⟨hch_p2, (List.forall_mem_cons.mpr ⟨hch_p3, (fun _ q => nomatch q)⟩)⟩) rfl (by decide) (by decide)) (g := (mkF m 50 #[.val (.int p1), .val (.int p2), .val (.int p3)] [(.ref b112), (.ref b107), (.ref b107)])) rfl (by rw [hml]; rfl) (Steps.refl _) (a := b107) (argsL := [(.ref b112)]) (rest := [(.ref b107)]) (lenOf pd_285bC29V rfl) rfl (by show 2 * 0 + _ ≤ _; exact Nat.le_of_eq rfl) (hb hby d2_50) (fun _ _ => ⟨rfl, e122, (by decide : 2 + 1 ≤ _), (by decide : 6 + 2 ≤ _)⟩)
      dsimp only [Pt.U, Pt.locs, Pt.cells, Pt.slots] at X129 l129 y129 z129 st129 hQ129
      subst l129 y129 z129
      obtain ⟨h129, e129⟩ : ∃ z, T129.heap = z := ⟨_, rfl⟩
      rw [e129] at hQ129
      have Sf130 : Safe Z EL s.vm h122 b107 := own_safeNull hZ.alike (A107.keep K127) (F109.keep K127 nin0)
      have lt131 : b107 < h122.size := ((A107.keep K127)).lt
      obtain ⟨rfl, Nq129, Kq129, Ex129, Cd129, t129, kb129, f129, hh129, nx129, Vl129, Ar129⟩ := hQ129
      have N132 := Fr.app N124 Nq129
      have CR133 : CHr Z EL s.vm h122 s.vm h129 := CHr.keep Kq129 (allS Sf130 all0) HR126.1
      have HR134 : CHr Z EL s.vm h0 s.vm h129 := HR126.trans CR133
      have Sf135 : Safe Z EL s.vm h129 b107 := CR133.safe lt131 Sf130
      refine OEnd.of (fun t k => st129.trans k) ?_
      show OEnd p e below _ (T129.setTop (mkF m 53 #[.val (.int p1), .val (.int p2), .val (.int p3)] [(.ref b107)]))
      have St136 : IsStr Z h129 b107 [p2, p3] := ⟨Ex129, Cd129, ⟨t129, kb129, Vl129, Ar129⟩, (List.forall_mem_cons.mpr ⟨hch_p2, (List.forall_mem_cons.mpr ⟨hch_p3, (fun _ q => nomatch q)⟩)⟩), Nat.le_of_ble_eq_true rfl⟩
      have Sm : IsStr Z h129 b107 (own_mk p1 p2 p3) := by unfold own_mk; rw [if_neg hc60, if_neg hc80]; exact St136
      have K137 : Keep h0 h129 [] := ((((K113.ext E112).wr W117 (Or.inr (Nat.le_trans K113.1 (Nat.le_of_eq g112.symm)))).wr W122 (Or.inr (Nat.le_trans K113.1 (Nat.le_of_eq g112.symm)))).trans Kq129 (allS (Or.inr (Nat.le_of_eq g107.symm)) all0))
      exact OEnd.retAW X129 hx hlk e129 hh hS0 (Nat.le_trans hk0 K137.1) hEL hZ HR134 hret rfl rfl (hb hby d2_53) ⟨b107, rfl, N132, K137, Sm⟩ (by decide) (by decide)
theorem pd_28Ljava2flang2fObject3bLjava2flang2fString3b29Ljava2flang2fObject3b : parseMethodDescriptor "(Ljava/lang/Object;Ljava/lang/String;)Ljava/lang/Object;" = some ⟨[(.object "java/lang/Object"), (.object "java/lang/String")], some (.object "java/lang/Object")⟩ := by decide +kernel
theorem d9_0 : decode prog_69_method_1_code 0 = .ok (.aload_n 0, 1) := by decide +kernel
theorem d9_1 : decode prog_69_method_1_code 1 = .ok (.invokespecial 1, 3) := by decide +kernel
theorem d9_4 : decode prog_69_method_1_code 4 = .ok (.aload_n 0, 1) := by decide +kernel
theorem d9_5 : decode prog_69_method_1_code 5 = .ok (.aload_n 1, 1) := by decide +kernel
theorem d9_6 : decode prog_69_method_1_code 6 = .ok (.ldc 7, 2) := by decide +kernel
theorem d9_8 : decode prog_69_method_1_code 8 = .ok (.invokestatic 9, 3) := by decide +kernel
theorem d9_11 : decode prog_69_method_1_code 11 = .ok (.checkcast 15, 3) := by decide +kernel
theorem d9_14 : decode prog_69_method_1_code 14 = .ok (.putfield 17, 3) := by decide +kernel
theorem d9_17 : decode prog_69_method_1_code 17 = .ok (.aload_n 0, 1) := by decide +kernel
theorem d9_18 : decode prog_69_method_1_code 18 = .ok (.aload_n 2, 1) := by decide +kernel
theorem d9_19 : decode prog_69_method_1_code 19 = .ok (.ldc 22, 2) := by decide +kernel
theorem d9_21 : decode prog_69_method_1_code 21 = .ok (.invokestatic 9, 3) := by decide +kernel
theorem d9_24 : decode prog_69_method_1_code 24 = .ok (.checkcast 24, 3) := by decide +kernel
theorem d9_27 : decode prog_69_method_1_code 27 = .ok (.putfield 26, 3) := by decide +kernel
theorem d9_30 : decode prog_69_method_1_code 30 = .ok (.aload_n 0, 1) := by decide +kernel
theorem d9_31 : decode prog_69_method_1_code 31 = .ok (.iload_n 3, 1) := by decide +kernel
theorem d9_32 : decode prog_69_method_1_code 32 = .ok (.putfield 29, 3) := by decide +kernel
theorem d9_35 : decode prog_69_method_1_code 35 = .ok (.return_, 1) := by decide +kernel
theorem pn_com_example_thorough_topology_thoroughtopology_language_Token : plainName "com/example/thorough_topology/thoroughtopology/language/Token" = true := by first | (simp [plainName, overriddenIn]; done) | decide +kernel
abbrev RMrmTok : Room := { frames := 1, cells := 4, slots := 40, locals := 14 }
theorem ef_rmTok (m : MethodId) (a1 : Addr) (kk : Addr) (sa : Addr) (ln : Int32) : entryFrame m #[(.ref a1), (.ref kk), (.ref sa), (.int ln)] 4 = mkF m 0 #[.val (.ref a1), .val (.ref kk), .val (.ref sa), .val (.int ln)] [] := by first | (simp [entryFrame, mkF, argsToLocals, Value.category]; done) | rfl
def QrmTok (Z : State) (zc : Int32) (k_IDENTIFIER : Addr) (k_INTEGER : Addr) (k_END : Addr) (k_ARCHITECTURE : Addr) (k_COLON : Addr) (k_MINUS_SIGN : Addr) (k_NOT : Addr) (k_SUBSET : Addr) (of : Addr → Int32) (a1 : Addr) (kk : Addr) (sa : Addr) (ln : Int32) (cs : List Int32) (h0 : Heap) (v : Option Value) (h : Heap) (L : List Loc) : Prop := v = none ∧ Fr Z.heap.size L ∧ Keep h0 h [a1] ∧ Exa Z h a1 "com/example/thorough_topology/thoroughtopology/language/Token" ∧ Fld Z h a1 "com/example/thorough_topology/thoroughtopology/language/Token" "kind" "Lcom/example/thorough_topology/thoroughtopology/language/TokenKind;" (.ref kk) ∧ Fld Z h a1 "com/example/thorough_topology/thoroughtopology/language/Token" "text" "Ljava/lang/String;" (.ref sa) ∧ Fld Z h a1 "com/example/thorough_topology/thoroughtopology/language/Token" "line" "I" (.int ln)
set_option maxRecDepth 65536 in
set_option maxHeartbeats 40000000 in
theorem rmTok (l : Launch) (Z : State) (a0 : Array Value) (hw : ∀ d ∈ tables_1, d.before a0 Z = true) (zc : Int32) (k_IDENTIFIER : Addr) (k_INTEGER : Addr) (k_END : Addr) (k_ARCHITECTURE : Addr) (k_COLON : Addr) (k_MINUS_SIGN : Addr) (k_NOT : Addr) (k_SUBSET : Addr) (of : Addr → Int32) (S_CS : Sta Z Z.heap "java/lang/String" "COMPACT_STRINGS" "Z" (.int zc)) (hzc : ¬ zc = 0) (S_IDENTIFIER : Sta Z Z.heap "com/example/thorough_topology/thoroughtopology/language/TokenKind" "IDENTIFIER" "Lcom/example/thorough_topology/thoroughtopology/language/TokenKind;" (.ref k_IDENTIFIER)) (S_INTEGER : Sta Z Z.heap "com/example/thorough_topology/thoroughtopology/language/TokenKind" "INTEGER" "Lcom/example/thorough_topology/thoroughtopology/language/TokenKind;" (.ref k_INTEGER)) (S_END : Sta Z Z.heap "com/example/thorough_topology/thoroughtopology/language/TokenKind" "END" "Lcom/example/thorough_topology/thoroughtopology/language/TokenKind;" (.ref k_END)) (S_ARCHITECTURE : Sta Z Z.heap "com/example/thorough_topology/thoroughtopology/language/TokenKind" "ARCHITECTURE" "Lcom/example/thorough_topology/thoroughtopology/language/TokenKind;" (.ref k_ARCHITECTURE)) (S_COLON : Sta Z Z.heap "com/example/thorough_topology/thoroughtopology/language/TokenKind" "COLON" "Lcom/example/thorough_topology/thoroughtopology/language/TokenKind;" (.ref k_COLON)) (S_MINUS_SIGN : Sta Z Z.heap "com/example/thorough_topology/thoroughtopology/language/TokenKind" "MINUS_SIGN" "Lcom/example/thorough_topology/thoroughtopology/language/TokenKind;" (.ref k_MINUS_SIGN)) (S_NOT : Sta Z Z.heap "com/example/thorough_topology/thoroughtopology/language/TokenKind" "NOT" "Lcom/example/thorough_topology/thoroughtopology/language/TokenKind;" (.ref k_NOT)) (S_SUBSET : Sta Z Z.heap "com/example/thorough_topology/thoroughtopology/language/TokenKind" "SUBSET" "Lcom/example/thorough_topology/thoroughtopology/language/TokenKind;" (.ref k_SUBSET)) (E_IDENTIFIER : Exa Z Z.heap k_IDENTIFIER "com/example/thorough_topology/thoroughtopology/language/TokenKind") (od_IDENTIFIER : of k_IDENTIFIER = 0) (E_INTEGER : Exa Z Z.heap k_INTEGER "com/example/thorough_topology/thoroughtopology/language/TokenKind") (od_INTEGER : of k_INTEGER = 1) (E_END : Exa Z Z.heap k_END "com/example/thorough_topology/thoroughtopology/language/TokenKind") (od_END : of k_END = 2) (E_ARCHITECTURE : Exa Z Z.heap k_ARCHITECTURE "com/example/thorough_topology/thoroughtopology/language/TokenKind") (od_ARCHITECTURE : of k_ARCHITECTURE = 3) (E_COLON : Exa Z Z.heap k_COLON "com/example/thorough_topology/thoroughtopology/language/TokenKind") (od_COLON : of k_COLON = 37) (E_MINUS_SIGN : Exa Z Z.heap k_MINUS_SIGN "com/example/thorough_topology/thoroughtopology/language/TokenKind") (od_MINUS_SIGN : of k_MINUS_SIGN = 55) (E_NOT : Exa Z Z.heap k_NOT "com/example/thorough_topology/thoroughtopology/language/TokenKind") (od_NOT : of k_NOT = 25) (E_SUBSET : Exa Z Z.heap k_SUBSET "com/example/thorough_topology/thoroughtopology/language/TokenKind") (od_SUBSET : of k_SUBSET = 36) (hEL : EW Z a0 EL) (ws : List Jvm.Cond) (a1 : Addr) (kk : Addr) (sa : Addr) (ln : Int32) (cs : List Int32) (h0 : Heap) (O0 : Ext Z.heap h0) (E1 : Exa Z h0 a1 "com/example/thorough_topology/thoroughtopology/language/Token") (F1 : Fld Z h0 a1 "com/example/thorough_topology/thoroughtopology/language/Token" "kind" "Lcom/example/thorough_topology/thoroughtopology/language/TokenKind;" .null) (F2 : Fld Z h0 a1 "com/example/thorough_topology/thoroughtopology/language/Token" "text" "Ljava/lang/String;" .null) (F3 : Fld Z h0 a1 "com/example/thorough_topology/thoroughtopology/language/Token" "line" "I" (.int (0 : Int32))) (g1 : Z.heap.size ≤ a1) (Ek : Exa Z h0 kk "com/example/thorough_topology/thoroughtopology/language/TokenKind") (Ss : IsStr Z h0 sa cs) :
    MetFree l (⟨"com/example/thorough_topology/thoroughtopology/language/Token", "<init>", "(Lcom/example/thorough_topology/thoroughtopology/language/TokenKind;Ljava/lang/String;I)V"⟩ : MethodName) (head1 (Jvm.Cond.code (⟨"com/example/thorough_topology/thoroughtopology/language/Token", "<init>", "(Lcom/example/thorough_topology/thoroughtopology/language/TokenKind;Ljava/lang/String;I)V"⟩ : MethodName) prog_69_method_1_code 4 none :: ws) RMrmTok) (fun a U => a = #[(.ref a1), (.ref kk), (.ref sa), (.int ln)] ∧ Z.Warmed39 U.vm ∧ U.heap = h0 ∧ CHv Z EL U.vm h0) (fun _ _ _ _ _ => True) (fun _ U o U' => ∃ v L, o = .returned v ∧ QrmTok Z zc k_IDENTIFIER k_INTEGER k_END k_ARCHITECTURE k_COLON k_MINUS_SIGN k_NOT k_SUBSET of a1 kk sa ln cs h0 v U'.heap L ∧ CHr Z EL U.vm U.heap U'.vm U'.heap ∧ ReturnedEndW U o U' L RMrmTok.cells RMrmTok.slots) := by
  refine MetFree.of_bodySF (plainFor_of_name pn_com_example_thorough_topology_thoroughtopology_language_Token) hisR ?_
  intro p e s m args below meth c s₁ Bd hml0 hP hK
  obtain ⟨rfl, hZ, hh, hC0⟩ := hP
  have hx := Bd.exec
  have hby := Bd.bytes
  have hlk : meth.locks = false := BodyLoose.notSynchronized Bd
  have hret := Bd.returns
  have hml : c.maxLocals = 4 := hml0
  have hown : s.vm.findClass "com/example/thorough_topology/thoroughtopology/language/Token" = some m.cls := findClass_of_methodNamed Bd.named
  have hnm := (name_of_methodNamed Bd.named Bd.method).1
  have X0 : Stand p l e RMrmTok (s.setVm s.vm) m #[(.ref a1), (.ref kk), (.ref sa), (.int ln)] below meth c s₁ [] 0 0 := Stand.of_body Bd
  have e0 : s₁.heap = h0 := by rw [← hh, Bd.state]; rfl
  have N0 := Fr.nil Z.heap.size
  have hZ : Z.Warmed39 (s.setVm s.vm).vm := hZ
  have hS0 : s.Since s.vm h0.size := (State.WarmedH.refl s).since _
  have hk0 : h0.size ≤ h0.size := Nat.le_refl _
  have HR0 : CHr Z EL s.vm h0 s.vm h0 := CHr.refl hC0
  have hwS : ∀ d ∈ Bundle.stringAtoms, d.before a0 Z = true := fun d hd => hw d (own_strAtoms d hd)
  show OEnd p e below (GW s Z EL (QrmTok Z zc k_IDENTIFIER k_INTEGER k_END k_ARCHITECTURE k_COLON k_MINUS_SIGN k_NOT k_SUBSET of a1 kk sa ln cs h0) RMrmTok.cells RMrmTok.slots) _
  refine OEnd.of (fun t k => castTop (ef_rmTok m a1 kk sa ln) k) ?_
  have Es := Ss.1
  refine OEnd.of (fun t k => XS.aloadN X0.here hx rfl (hb hby d9_0) rfl rfl k) ?_
  show OEnd p e below _ (s₁.setTop (mkF m 1 #[.val (.ref a1), .val (.ref kk), .val (.ref sa), .val (.int ln)] [(.ref a1)]))
  obtain ⟨T138, X138, e138, st138⟩ := initO X0 hx hZ hown (hw _ (List.mem_of_getElem? (i := 47) rfl)) (hw _ (List.mem_of_getElem? (i := 26) rfl)) (hw _ (List.mem_of_getElem? (i := 27) rfl)) e0 (g := (mkF m 1 #[.val (.ref a1), .val (.ref kk), .val (.ref sa), .val (.int ln)] [(.ref a1)])) rfl (by rw [hml]; rfl) rfl (hb hby d9_1) (by decide) (W := 0) (by show 2 * 0 + _ ≤ _; exact Nat.le_of_eq rfl) (by decide)
  refine OEnd.of st138 ?_
  show OEnd p e below _ (T138.setTop (mkF m 4 #[.val (.ref a1), .val (.ref kk), .val (.ref sa), .val (.int ln)] []))
  refine OEnd.of (fun t k => XS.aloadN X138.here hx rfl (hb hby d9_4) rfl rfl k) ?_
  show OEnd p e below _ (T138.setTop (mkF m 5 #[.val (.ref a1), .val (.ref kk), .val (.ref sa), .val (.int ln)] [(.ref a1)]))
  refine OEnd.of (fun t k => XS.aloadN X138.here hx rfl (hb hby d9_5) rfl rfl k) ?_
  show OEnd p e below _ (T138.setTop (mkF m 6 #[.val (.ref a1), .val (.ref kk), .val (.ref sa), .val (.int ln)] [(.ref kk), (.ref a1)]))
  obtain ⟨ba139, T139, h139, k1139, X139, e139, E139, S139, hk139, hZ139, hown139, C139, Lt139, st139⟩ := ldcOH X138 hx hZ hown (hw _ (List.mem_of_getElem? (i := 48) rfl)) hwS e138 hS0 hk0 hEL HR0.1 (g := (mkF m 6 #[.val (.ref a1), .val (.ref kk), .val (.ref sa), .val (.int ln)] [(.ref kk), (.ref a1)])) rfl (hb hby d9_6) (n := 16) (by decide) (by decide) (by decide) (by decide)
  refine OEnd.of st139 ?_
  have CR140 : CHr Z EL s.vm h0 T139.vm h139 := C139
  have HR141 : CHr Z EL s.vm h0 T139.vm h139 := HR0.trans CR140
  show OEnd p e below _ (T139.setTop (mkF m 8 #[.val (.ref a1), .val (.ref kk), .val (.ref sa), .val (.int ln)] [(.ref ba139), (.ref kk), (.ref a1)]))
  have K143 : Keep h0 h139 [] := ((Keep.refl h0 []).ext E139)
  have O144 : Ext Z.heap h139 := own_extKeep O0 K143 all0
  obtain ⟨_, _, ⟨T142, L142, k142, n142⟩, -, X142, ⟨Lc142, hQ142, l142, y142, z142⟩, st142⟩ := Jvm.LawKit.callS X139 hx (y := (⟨"java/util/Objects", "requireNonNull", "(Ljava/lang/Object;Ljava/lang/String;)Ljava/lang/Object;"⟩ : MethodName)) hown139 (mvT hZ139 (hw _ (List.mem_of_getElem? (i := 51) rfl))) (mvT hZ139 (hw _ (List.mem_of_getElem? (i := 52) rfl))) (mvT hZ139 (hw _ (List.mem_of_getElem? (i := 53) rfl))) (mvT hZ139 (hw _ (List.mem_of_getElem? (i := 54) rfl))) (by decide) (backOf (W := 1) (rmReq l Z a0 hw zc k_IDENTIFIER k_INTEGER k_END k_ARCHITECTURE k_COLON k_MINUS_SIGN k_NOT k_SUBSET of S_CS hzc S_IDENTIFIER S_INTEGER S_END S_ARCHITECTURE S_COLON S_MINUS_SIGN S_NOT S_SUBSET E_IDENTIFIER od_IDENTIFIER E_INTEGER od_INTEGER E_END od_END E_ARCHITECTURE od_ARCHITECTURE E_COLON od_COLON E_MINUS_SIGN od_MINUS_SIGN E_NOT od_NOT E_SUBSET od_SUBSET [] kk ba139 h139 O144 ) hZ139 (hw _ (List.mem_of_getElem? (i := 54) rfl)) (hw _ (List.mem_of_getElem? (i := 53) rfl)) (by decide) (by decide)) (g := (mkF m 8 #[.val (.ref a1), .val (.ref kk), .val (.ref sa), .val (.int ln)] [(.ref ba139), (.ref kk), (.ref a1)])) rfl (by rw [hml]; rfl) (argsL := [(.ref kk), (.ref ba139)]) (rest := [(.ref a1)]) (lenOf pd_28Ljava2flang2fObject3bLjava2flang2fString3b29Ljava2flang2fObject3b rfl) rfl (by show 2 * 0 + _ ≤ _; exact Nat.le_of_eq rfl) (hb hby d9_8) (fun _ _ => ⟨rfl, e139, (by decide : 2 + 0 ≤ _), (by decide : 20 + 0 ≤ _)⟩)
  dsimp only [Pt.U, Pt.locs, Pt.cells, Pt.slots] at X142 l142 y142 z142 st142 hQ142
  subst l142 y142 z142
  obtain ⟨rfl, Nq142, e142⟩ := hQ142
  have N145 := Fr.app N0 Nq142
  refine OEnd.of st142 ?_
  show OEnd p e below _ (T142.setTop (mkF m 11 #[.val (.ref a1), .val (.ref kk), .val (.ref sa), .val (.int ln)] [(.ref kk), (.ref a1)]))
  obtain ⟨T146, X146, e146, st146⟩ := castY X142 hx hZ139 hown139 (hw _ (List.mem_of_getElem? (i := 55) rfl)) e142 (Ins.self (Ek.keep K143)) (g := (mkF m 11 #[.val (.ref a1), .val (.ref kk), .val (.ref sa), .val (.int ln)] [(.ref kk), (.ref a1)])) rfl rfl (hb hby d9_11)
  refine OEnd.of st146 ?_
  show OEnd p e below _ (T146.setTop (mkF m 14 #[.val (.ref a1), .val (.ref kk), .val (.ref sa), .val (.int ln)] [(.ref kk), (.ref a1)]))
  obtain ⟨T147, h147, X147, e147, W147, st147⟩ := putF X146 hx hZ139 hown139 (host := "") (Or.inl (hw _ (List.mem_of_getElem? (i := 57) rfl))) Via.refl e146 (F1.keep K143 nin0) (E1.keep K143) (Or.inr ⟨(hw _ (List.mem_of_getElem? (i := 58) rfl)), rfl, hnm⟩) (hw _ (List.mem_of_getElem? (i := 2) rfl)) (ty := (.object "com/example/thorough_topology/thoroughtopology/language/TokenKind")) (by decide) rfl rfl (g := (mkF m 14 #[.val (.ref a1), .val (.ref kk), .val (.ref sa), .val (.int ln)] [(.ref kk), (.ref a1)])) rfl rfl (hb hby d9_14)
  refine OEnd.of st147 ?_
  have F148 : Fld Z h147 a1 "com/example/thorough_topology/thoroughtopology/language/Token" "kind" "Lcom/example/thorough_topology/thoroughtopology/language/TokenKind;" (.ref kk) := Fld.same W147 (F1.keep K143 nin0)
  have E149 : Exa Z h147 a1 "com/example/thorough_topology/thoroughtopology/language/Token" := (E1.keep K143).wr W147
  have F150 : Fld Z h147 a1 "com/example/thorough_topology/thoroughtopology/language/Token" "text" "Ljava/lang/String;" .null := (F2.keep K143 nin0).other W147 (Or.inr (slot_ne (Or.inr (hw _ (List.mem_of_getElem? (i := 62) rfl))) (Or.inr (hw _ (List.mem_of_getElem? (i := 58) rfl))) (by decide) (t := (.object "java/lang/String")) (t' := (.object "com/example/thorough_topology/thoroughtopology/language/TokenKind")) (by decide) (by decide)))
  have F151 : Fld Z h147 a1 "com/example/thorough_topology/thoroughtopology/language/Token" "line" "I" (.int (0 : Int32)) := (F3.keep K143 nin0).other W147 (Or.inr (slot_ne (Or.inr (hw _ (List.mem_of_getElem? (i := 64) rfl))) (Or.inr (hw _ (List.mem_of_getElem? (i := 58) rfl))) (by decide) (t := .int) (t' := (.object "com/example/thorough_topology/thoroughtopology/language/TokenKind")) (by decide) (by decide)))
  have N152 := Fr.snoc X147 N145 g1
  have CR153 : CHr Z EL T139.vm h139 T139.vm h147 := CHr.wr W147 (Safe.exa hZ139.alike (E1.keep K143) (by decide) (by decide)) HR141.1
  have HR154 : CHr Z EL s.vm h0 T139.vm h147 := HR141.trans CR153
  show OEnd p e below _ (T147.setTop (mkF m 17 #[.val (.ref a1), .val (.ref kk), .val (.ref sa), .val (.int ln)] []))
  refine OEnd.of (fun t k => XS.aloadN X147.here hx rfl (hb hby d9_17) rfl rfl k) ?_
  show OEnd p e below _ (T147.setTop (mkF m 18 #[.val (.ref a1), .val (.ref kk), .val (.ref sa), .val (.int ln)] [(.ref a1)]))
  refine OEnd.of (fun t k => XS.aloadN X147.here hx rfl (hb hby d9_18) rfl rfl k) ?_
  show OEnd p e below _ (T147.setTop (mkF m 19 #[.val (.ref a1), .val (.ref kk), .val (.ref sa), .val (.int ln)] [(.ref sa), (.ref a1)]))
  have K156 : Keep h139 h147 [a1] := ((Keep.refl h139 [a1]).wr W147 (Or.inl (List.mem_of_getElem? (i := 0) rfl)))
  obtain ⟨ba155, T155, h155, k1155, X155, e155, E155, S155, hk155, hZ155, hown155, C155, Lt155, st155⟩ := ldcOH X147 hx hZ139 hown139 (hw _ (List.mem_of_getElem? (i := 59) rfl)) hwS e147 S139 (Nat.le_trans hk139 K156.1) hEL HR154.1 (g := (mkF m 19 #[.val (.ref a1), .val (.ref kk), .val (.ref sa), .val (.int ln)] [(.ref sa), (.ref a1)])) rfl (hb hby d9_19) (n := 16) (by decide) (by decide) (by decide) (by decide)
  refine OEnd.of st155 ?_
  have CR157 : CHr Z EL T139.vm h147 T155.vm h155 := C155
  have HR158 : CHr Z EL s.vm h0 T155.vm h155 := HR154.trans CR157
  show OEnd p e below _ (T155.setTop (mkF m 21 #[.val (.ref a1), .val (.ref kk), .val (.ref sa), .val (.int ln)] [(.ref ba155), (.ref sa), (.ref a1)]))
  have K160 : Keep h139 h155 [a1] := (K156.ext E155)
  have O161 : Ext Z.heap h155 := own_extKeep O144 K160 (allS g1 all0)
  obtain ⟨_, _, ⟨T159, L159, k159, n159⟩, -, X159, ⟨Lc159, hQ159, l159, y159, z159⟩, st159⟩ := Jvm.LawKit.callS X155 hx (y := (⟨"java/util/Objects", "requireNonNull", "(Ljava/lang/Object;Ljava/lang/String;)Ljava/lang/Object;"⟩ : MethodName)) hown155 (mvT hZ155 (hw _ (List.mem_of_getElem? (i := 51) rfl))) (mvT hZ155 (hw _ (List.mem_of_getElem? (i := 52) rfl))) (mvT hZ155 (hw _ (List.mem_of_getElem? (i := 53) rfl))) (mvT hZ155 (hw _ (List.mem_of_getElem? (i := 54) rfl))) (by decide) (backOf (W := 1) (rmReq l Z a0 hw zc k_IDENTIFIER k_INTEGER k_END k_ARCHITECTURE k_COLON k_MINUS_SIGN k_NOT k_SUBSET of S_CS hzc S_IDENTIFIER S_INTEGER S_END S_ARCHITECTURE S_COLON S_MINUS_SIGN S_NOT S_SUBSET E_IDENTIFIER od_IDENTIFIER E_INTEGER od_INTEGER E_END od_END E_ARCHITECTURE od_ARCHITECTURE E_COLON od_COLON E_MINUS_SIGN od_MINUS_SIGN E_NOT od_NOT E_SUBSET od_SUBSET [] sa ba155 h155 O161 ) hZ155 (hw _ (List.mem_of_getElem? (i := 54) rfl)) (hw _ (List.mem_of_getElem? (i := 53) rfl)) (by decide) (by decide)) (g := (mkF m 21 #[.val (.ref a1), .val (.ref kk), .val (.ref sa), .val (.int ln)] [(.ref ba155), (.ref sa), (.ref a1)])) rfl (by rw [hml]; rfl) (argsL := [(.ref sa), (.ref ba155)]) (rest := [(.ref a1)]) (lenOf pd_28Ljava2flang2fObject3bLjava2flang2fString3b29Ljava2flang2fObject3b rfl) rfl (by show 2 * 0 + _ ≤ _; exact Nat.le_of_eq rfl) (hb hby d9_21) (fun _ _ => ⟨rfl, e155, (by decide : 4 + 0 ≤ _), (by decide : 40 + 0 ≤ _)⟩)
  dsimp only [Pt.U, Pt.locs, Pt.cells, Pt.slots] at X159 l159 y159 z159 st159 hQ159
  subst l159 y159 z159
  obtain ⟨rfl, Nq159, e159⟩ := hQ159
  have N162 := Fr.app N152 Nq159
  refine OEnd.of st159 ?_
  show OEnd p e below _ (T159.setTop (mkF m 24 #[.val (.ref a1), .val (.ref kk), .val (.ref sa), .val (.int ln)] [(.ref sa), (.ref a1)]))
  have K163 : Keep h0 h155 [a1] := ((((Keep.refl h0 [a1]).ext E139).wr W147 (Or.inl (List.mem_of_getElem? (i := 0) rfl))).ext E155)
  obtain ⟨T164, X164, e164, st164⟩ := castY X159 hx hZ155 hown155 (hw _ (List.mem_of_getElem? (i := 60) rfl)) e159 (Ins.self (Es.keep K163)) (g := (mkF m 24 #[.val (.ref a1), .val (.ref kk), .val (.ref sa), .val (.int ln)] [(.ref sa), (.ref a1)])) rfl rfl (hb hby d9_24)
  refine OEnd.of st164 ?_
  show OEnd p e below _ (T164.setTop (mkF m 27 #[.val (.ref a1), .val (.ref kk), .val (.ref sa), .val (.int ln)] [(.ref sa), (.ref a1)]))
  have K165 : Keep h147 h155 [] := ((Keep.refl h147 []).ext E155)
  obtain ⟨T166, h166, X166, e166, W166, st166⟩ := putF X164 hx hZ155 hown155 (host := "") (Or.inl (hw _ (List.mem_of_getElem? (i := 61) rfl))) Via.refl e164 (F150.keep K165 nin0) (E149.keep K165) (Or.inr ⟨(hw _ (List.mem_of_getElem? (i := 62) rfl)), rfl, hnm⟩) (hw _ (List.mem_of_getElem? (i := 2) rfl)) (ty := (.object "java/lang/String")) (by decide) rfl rfl (g := (mkF m 27 #[.val (.ref a1), .val (.ref kk), .val (.ref sa), .val (.int ln)] [(.ref sa), (.ref a1)])) rfl rfl (hb hby d9_27)
  refine OEnd.of st166 ?_
  have F167 : Fld Z h166 a1 "com/example/thorough_topology/thoroughtopology/language/Token" "text" "Ljava/lang/String;" (.ref sa) := Fld.same W166 (F150.keep K165 nin0)
  have E168 : Exa Z h166 a1 "com/example/thorough_topology/thoroughtopology/language/Token" := (E149.keep K165).wr W166
  have F169 : Fld Z h166 a1 "com/example/thorough_topology/thoroughtopology/language/Token" "line" "I" (.int (0 : Int32)) := (F151.keep K165 nin0).other W166 (Or.inr (slot_ne (Or.inr (hw _ (List.mem_of_getElem? (i := 64) rfl))) (Or.inr (hw _ (List.mem_of_getElem? (i := 62) rfl))) (by decide) (t := .int) (t' := (.object "java/lang/String")) (by decide) (by decide)))
  have F170 : Fld Z h166 a1 "com/example/thorough_topology/thoroughtopology/language/Token" "kind" "Lcom/example/thorough_topology/thoroughtopology/language/TokenKind;" (.ref kk) := (F148.keep K165 nin0).other W166 (Or.inr (slot_ne (Or.inr (hw _ (List.mem_of_getElem? (i := 58) rfl))) (Or.inr (hw _ (List.mem_of_getElem? (i := 62) rfl))) (by decide) (t := (.object "com/example/thorough_topology/thoroughtopology/language/TokenKind")) (t' := (.object "java/lang/String")) (by decide) (by decide)))
  have N171 := Fr.snoc X166 N162 g1
  have CR172 : CHr Z EL T155.vm h155 T155.vm h166 := CHr.wr W166 (Safe.exa hZ155.alike (E149.keep K165) (by decide) (by decide)) HR158.1
  have HR173 : CHr Z EL s.vm h0 T155.vm h166 := HR158.trans CR172
  show OEnd p e below _ (T166.setTop (mkF m 30 #[.val (.ref a1), .val (.ref kk), .val (.ref sa), .val (.int ln)] []))
  refine OEnd.of (fun t k => XS.aloadN X166.here hx rfl (hb hby d9_30) rfl rfl k) ?_
  show OEnd p e below _ (T166.setTop (mkF m 31 #[.val (.ref a1), .val (.ref kk), .val (.ref sa), .val (.int ln)] [(.ref a1)]))
  refine OEnd.of (fun t k => XS.iloadN X166.here hx rfl (hb hby d9_31) rfl k) ?_
  show OEnd p e below _ (T166.setTop (mkF m 32 #[.val (.ref a1), .val (.ref kk), .val (.ref sa), .val (.int ln)] [(.int ln), (.ref a1)]))
  obtain ⟨T174, h174, X174, e174, W174, st174⟩ := putF X166 hx hZ155 hown155 (host := "") (Or.inl (hw _ (List.mem_of_getElem? (i := 63) rfl))) Via.refl e166 F169 E168 (Or.inr ⟨(hw _ (List.mem_of_getElem? (i := 64) rfl)), rfl, hnm⟩) (hw _ (List.mem_of_getElem? (i := 2) rfl)) (ty := .int) (by decide) rfl rfl (g := (mkF m 32 #[.val (.ref a1), .val (.ref kk), .val (.ref sa), .val (.int ln)] [(.int ln), (.ref a1)])) rfl rfl (hb hby d9_32)
  refine OEnd.of st174 ?_
  have F175 : Fld Z h174 a1 "com/example/thorough_topology/thoroughtopology/language/Token" "line" "I" (.int ln) := Fld.same W174 F169
  have E176 : Exa Z h174 a1 "com/example/thorough_topology/thoroughtopology/language/Token" := E168.wr W174
  have F177 : Fld Z h174 a1 "com/example/thorough_topology/thoroughtopology/language/Token" "kind" "Lcom/example/thorough_topology/thoroughtopology/language/TokenKind;" (.ref kk) := F170.other W174 (Or.inr (slot_ne (Or.inr (hw _ (List.mem_of_getElem? (i := 58) rfl))) (Or.inr (hw _ (List.mem_of_getElem? (i := 64) rfl))) (by decide) (t := (.object "com/example/thorough_topology/thoroughtopology/language/TokenKind")) (t' := .int) (by decide) (by decide)))
  have F178 : Fld Z h174 a1 "com/example/thorough_topology/thoroughtopology/language/Token" "text" "Ljava/lang/String;" (.ref sa) := F167.other W174 (Or.inr (slot_ne (Or.inr (hw _ (List.mem_of_getElem? (i := 62) rfl))) (Or.inr (hw _ (List.mem_of_getElem? (i := 64) rfl))) (by decide) (t := (.object "java/lang/String")) (t' := .int) (by decide) (by decide)))
  have N179 := Fr.snoc X174 N171 g1
  have CR180 : CHr Z EL T155.vm h166 T155.vm h174 := CHr.wr W174 (Safe.exa hZ155.alike E168 (by decide) (by decide)) HR173.1
  have HR181 : CHr Z EL s.vm h0 T155.vm h174 := HR173.trans CR180
  show OEnd p e below _ (T174.setTop (mkF m 35 #[.val (.ref a1), .val (.ref kk), .val (.ref sa), .val (.int ln)] []))
  have K182 : Keep h0 h174 [a1] := ((K163.wr W166 (Or.inl (List.mem_of_getElem? (i := 0) rfl))).wr W174 (Or.inl (List.mem_of_getElem? (i := 0) rfl)))
  have K183 : Keep h155 h174 [a1] := (((Keep.refl h155 [a1]).wr W166 (Or.inl (List.mem_of_getElem? (i := 0) rfl))).wr W174 (Or.inl (List.mem_of_getElem? (i := 0) rfl)))
  exact OEnd.retVW X174 hx hlk e174 hh S155 (Nat.le_trans hk155 K183.1) hEL hZ155 HR181 hret (hb hby d9_35) ⟨rfl, N179, K182, E176, F177, F178, F175⟩ (by decide) (by decide)
theorem pd_28Ljava2flang2fObject3b29Z : parseMethodDescriptor "(Ljava/lang/Object;)Z" = some ⟨[(.object "java/lang/Object")], some .boolean⟩ := by decide +kernel
theorem d11_0 : decode prog_69_method_5_code 0 = .ok (.aload_n 1, 1) := by decide +kernel
theorem d11_1 : decode prog_69_method_5_code 1 = .ok (.instanceof 18, 3) := by decide +kernel
theorem d11_4 : decode prog_69_method_5_code 4 = .ok (.ifCond .ne 5, 3) := by decide +kernel
theorem d11_9 : decode prog_69_method_5_code 9 = .ok (.aload_n 1, 1) := by decide +kernel
theorem d11_10 : decode prog_69_method_5_code 10 = .ok (.checkcast 18, 3) := by decide +kernel
theorem d11_13 : decode prog_69_method_5_code 13 = .ok (.astore_n 2, 1) := by decide +kernel
theorem d11_14 : decode prog_69_method_5_code 14 = .ok (.aload_n 0, 1) := by decide +kernel
theorem d11_15 : decode prog_69_method_5_code 15 = .ok (.getfield 17, 3) := by decide +kernel
theorem d11_18 : decode prog_69_method_5_code 18 = .ok (.aload_n 2, 1) := by decide +kernel
theorem d11_19 : decode prog_69_method_5_code 19 = .ok (.getfield 17, 3) := by decide +kernel
theorem d11_22 : decode prog_69_method_5_code 22 = .ok (.if_acmp .ne 32, 3) := by decide +kernel
theorem d11_25 : decode prog_69_method_5_code 25 = .ok (.aload_n 0, 1) := by decide +kernel
theorem d11_26 : decode prog_69_method_5_code 26 = .ok (.getfield 26, 3) := by decide +kernel
theorem d11_29 : decode prog_69_method_5_code 29 = .ok (.aload_n 2, 1) := by decide +kernel
theorem d11_30 : decode prog_69_method_5_code 30 = .ok (.getfield 26, 3) := by decide +kernel
theorem d11_33 : decode prog_69_method_5_code 33 = .ok (.invokevirtual 33, 3) := by decide +kernel
theorem d11_36 : decode prog_69_method_5_code 36 = .ok (.ifCond .eq 18, 3) := by decide +kernel
theorem d11_39 : decode prog_69_method_5_code 39 = .ok (.aload_n 0, 1) := by decide +kernel
theorem d11_40 : decode prog_69_method_5_code 40 = .ok (.getfield 29, 3) := by decide +kernel
theorem d11_43 : decode prog_69_method_5_code 43 = .ok (.aload_n 2, 1) := by decide +kernel
theorem d11_44 : decode prog_69_method_5_code 44 = .ok (.getfield 29, 3) := by decide +kernel
theorem d11_47 : decode prog_69_method_5_code 47 = .ok (.if_icmp .ne 7, 3) := by decide +kernel
theorem d11_50 : decode prog_69_method_5_code 50 = .ok (.iconst 1, 1) := by decide +kernel
theorem d11_51 : decode prog_69_method_5_code 51 = .ok (.goto 4, 3) := by decide +kernel
theorem d11_54 : decode prog_69_method_5_code 54 = .ok (.iconst 0, 1) := by decide +kernel
theorem d11_55 : decode prog_69_method_5_code 55 = .ok (.ireturn, 1) := by decide +kernel
abbrev RMrmEqT : Room := { frames := 2, cells := 0, slots := 0, locals := 28 }
theorem ef_rmEqT (m : MethodId) (a1 : Addr) (a2 : Addr) : entryFrame m #[(.ref a1), (.ref a2)] 3 = mkF m 0 #[.val (.ref a1), .val (.ref a2), .unset] [] := by first | (simp [entryFrame, mkF, argsToLocals, Value.category]; done) | rfl
def QrmEqT (Z : State) (zc : Int32) (k_IDENTIFIER : Addr) (k_INTEGER : Addr) (k_END : Addr) (k_ARCHITECTURE : Addr) (k_COLON : Addr) (k_MINUS_SIGN : Addr) (k_NOT : Addr) (k_SUBSET : Addr) (of : Addr → Int32) (a1 : Addr) (a2 : Addr) (k1 : Addr) (k2 : Addr) (s1 : Addr) (s2 : Addr) (l1 : Int32) (l2 : Int32) (cs : List Int32) (ds : List Int32) (h0 : Heap) (v : Option Value) (h : Heap) (L : List Loc) : Prop := ∃ (bb : Int32), v = some (.int bb) ∧ Fr Z.heap.size L ∧ h = h0 ∧ ((bb = 1 ∧ (k1 = k2 ∧ cs = ds ∧ l1 = l2)) ∨ (bb = 0 ∧ ¬ (k1 = k2 ∧ cs = ds ∧ l1 = l2)))
set_option maxRecDepth 65536 in
set_option maxHeartbeats 40000000 in
theorem rmEqT (l : Launch) (Z : State) (a0 : Array Value) (hw : ∀ d ∈ tables_1, d.before a0 Z = true) (zc : Int32) (k_IDENTIFIER : Addr) (k_INTEGER : Addr) (k_END : Addr) (k_ARCHITECTURE : Addr) (k_COLON : Addr) (k_MINUS_SIGN : Addr) (k_NOT : Addr) (k_SUBSET : Addr) (of : Addr → Int32) (S_CS : Sta Z Z.heap "java/lang/String" "COMPACT_STRINGS" "Z" (.int zc)) (hzc : ¬ zc = 0) (S_IDENTIFIER : Sta Z Z.heap "com/example/thorough_topology/thoroughtopology/language/TokenKind" "IDENTIFIER" "Lcom/example/thorough_topology/thoroughtopology/language/TokenKind;" (.ref k_IDENTIFIER)) (S_INTEGER : Sta Z Z.heap "com/example/thorough_topology/thoroughtopology/language/TokenKind" "INTEGER" "Lcom/example/thorough_topology/thoroughtopology/language/TokenKind;" (.ref k_INTEGER)) (S_END : Sta Z Z.heap "com/example/thorough_topology/thoroughtopology/language/TokenKind" "END" "Lcom/example/thorough_topology/thoroughtopology/language/TokenKind;" (.ref k_END)) (S_ARCHITECTURE : Sta Z Z.heap "com/example/thorough_topology/thoroughtopology/language/TokenKind" "ARCHITECTURE" "Lcom/example/thorough_topology/thoroughtopology/language/TokenKind;" (.ref k_ARCHITECTURE)) (S_COLON : Sta Z Z.heap "com/example/thorough_topology/thoroughtopology/language/TokenKind" "COLON" "Lcom/example/thorough_topology/thoroughtopology/language/TokenKind;" (.ref k_COLON)) (S_MINUS_SIGN : Sta Z Z.heap "com/example/thorough_topology/thoroughtopology/language/TokenKind" "MINUS_SIGN" "Lcom/example/thorough_topology/thoroughtopology/language/TokenKind;" (.ref k_MINUS_SIGN)) (S_NOT : Sta Z Z.heap "com/example/thorough_topology/thoroughtopology/language/TokenKind" "NOT" "Lcom/example/thorough_topology/thoroughtopology/language/TokenKind;" (.ref k_NOT)) (S_SUBSET : Sta Z Z.heap "com/example/thorough_topology/thoroughtopology/language/TokenKind" "SUBSET" "Lcom/example/thorough_topology/thoroughtopology/language/TokenKind;" (.ref k_SUBSET)) (E_IDENTIFIER : Exa Z Z.heap k_IDENTIFIER "com/example/thorough_topology/thoroughtopology/language/TokenKind") (od_IDENTIFIER : of k_IDENTIFIER = 0) (E_INTEGER : Exa Z Z.heap k_INTEGER "com/example/thorough_topology/thoroughtopology/language/TokenKind") (od_INTEGER : of k_INTEGER = 1) (E_END : Exa Z Z.heap k_END "com/example/thorough_topology/thoroughtopology/language/TokenKind") (od_END : of k_END = 2) (E_ARCHITECTURE : Exa Z Z.heap k_ARCHITECTURE "com/example/thorough_topology/thoroughtopology/language/TokenKind") (od_ARCHITECTURE : of k_ARCHITECTURE = 3) (E_COLON : Exa Z Z.heap k_COLON "com/example/thorough_topology/thoroughtopology/language/TokenKind") (od_COLON : of k_COLON = 37) (E_MINUS_SIGN : Exa Z Z.heap k_MINUS_SIGN "com/example/thorough_topology/thoroughtopology/language/TokenKind") (od_MINUS_SIGN : of k_MINUS_SIGN = 55) (E_NOT : Exa Z Z.heap k_NOT "com/example/thorough_topology/thoroughtopology/language/TokenKind") (od_NOT : of k_NOT = 25) (E_SUBSET : Exa Z Z.heap k_SUBSET "com/example/thorough_topology/thoroughtopology/language/TokenKind") (od_SUBSET : of k_SUBSET = 36) (ws : List Jvm.Cond) (a1 : Addr) (a2 : Addr) (k1 : Addr) (k2 : Addr) (s1 : Addr) (s2 : Addr) (l1 : Int32) (l2 : Int32) (cs : List Int32) (ds : List Int32) (h0 : Heap) (O0 : Ext Z.heap h0) (E2 : Exa Z h0 a2 "com/example/thorough_topology/thoroughtopology/language/Token") (Fk : Fld Z h0 a1 "com/example/thorough_topology/thoroughtopology/language/Token" "kind" "Lcom/example/thorough_topology/thoroughtopology/language/TokenKind;" (.ref k1)) (Gk : Fld Z h0 a2 "com/example/thorough_topology/thoroughtopology/language/Token" "kind" "Lcom/example/thorough_topology/thoroughtopology/language/TokenKind;" (.ref k2)) (Ft : Fld Z h0 a1 "com/example/thorough_topology/thoroughtopology/language/Token" "text" "Ljava/lang/String;" (.ref s1)) (Gt : Fld Z h0 a2 "com/example/thorough_topology/thoroughtopology/language/Token" "text" "Ljava/lang/String;" (.ref s2)) (Fl : Fld Z h0 a1 "com/example/thorough_topology/thoroughtopology/language/Token" "line" "I" (.int l1)) (Gl : Fld Z h0 a2 "com/example/thorough_topology/thoroughtopology/language/Token" "line" "I" (.int l2)) (Ss : IsStr Z h0 s1 cs) (Sd : IsStr Z h0 s2 ds) :
    MetFree l (⟨"com/example/thorough_topology/thoroughtopology/language/Token", "equals", "(Ljava/lang/Object;)Z"⟩ : MethodName) (head1 (Jvm.Cond.code (⟨"com/example/thorough_topology/thoroughtopology/language/Token", "equals", "(Ljava/lang/Object;)Z"⟩ : MethodName) prog_69_method_5_code 3 (some .boolean) :: ws) RMrmEqT) (fun a U => a = #[(.ref a1), (.ref a2)] ∧ Z.Warmed39 U.vm ∧ U.heap = h0) (fun _ _ _ _ _ => True) (fun _ U o U' => ∃ v L, o = .returned v ∧ QrmEqT Z zc k_IDENTIFIER k_INTEGER k_END k_ARCHITECTURE k_COLON k_MINUS_SIGN k_NOT k_SUBSET of a1 a2 k1 k2 s1 s2 l1 l2 cs ds h0 v U'.heap L ∧ FrameEnd U o U' L RMrmEqT.cells RMrmEqT.slots) := by
  refine MetFree.of_bodySF (plainFor_of_name pn_com_example_thorough_topology_thoroughtopology_language_Token) hisR ?_
  intro p e s m args below meth c s₁ Bd hml0 hP hK
  obtain ⟨rfl, hZ, hh⟩ := hP
  have hx := Bd.exec
  have hby := Bd.bytes
  have hlk : meth.locks = false := BodyLoose.notSynchronized Bd
  have hret := Bd.returns
  have hml : c.maxLocals = 3 := hml0
  have hown : s.vm.findClass "com/example/thorough_topology/thoroughtopology/language/Token" = some m.cls := findClass_of_methodNamed Bd.named
  have hnm := (name_of_methodNamed Bd.named Bd.method).1
  have X0 : Stand p l e RMrmEqT s m #[(.ref a1), (.ref a2)] below meth c s₁ [] 0 0 := Stand.of_body Bd
  have e0 : s₁.heap = h0 := by rw [← hh, Bd.state]; rfl
  have N0 := Fr.nil Z.heap.size
  show OEnd p e below (GN s (QrmEqT Z zc k_IDENTIFIER k_INTEGER k_END k_ARCHITECTURE k_COLON k_MINUS_SIGN k_NOT k_SUBSET of a1 a2 k1 k2 s1 s2 l1 l2 cs ds h0) RMrmEqT.cells RMrmEqT.slots) _
  refine OEnd.of (fun t k => castTop (ef_rmEqT m a1 a2) k) ?_
  refine OEnd.of (fun t k => XS.aloadN X0.here hx rfl (hb hby d11_0) rfl rfl k) ?_
  show OEnd p e below _ (s₁.setTop (mkF m 1 #[.val (.ref a1), .val (.ref a2), .unset] [(.ref a2)]))
  obtain ⟨T184, X184, e184, st184⟩ := instY X0 hx hZ hown (hw _ (List.mem_of_getElem? (i := 71) rfl)) e0 (Ins.self E2) (g := (mkF m 1 #[.val (.ref a1), .val (.ref a2), .unset] [(.ref a2)])) rfl rfl (hb hby d11_1)
  refine OEnd.of st184 ?_
  show OEnd p e below _ (T184.setTop (mkF m 4 #[.val (.ref a1), .val (.ref a2), .unset] [(.int (1 : Int32))]))
  refine OEnd.of (fun t k => XS.ifYes X184.here hx rfl (pc0 := 4) (pc' := 9) rfl (hb hby d11_4) rfl ((if0 _ _).trans (feq (by decide : ¬ ((1 : Int32) = (0 : Int32)))).2) (by decide) (by decide) k) ?_
  show OEnd p e below _ (T184.setTop (mkF m 9 #[.val (.ref a1), .val (.ref a2), .unset] []))
  refine OEnd.of (fun t k => XS.aloadN X184.here hx rfl (hb hby d11_9) rfl rfl k) ?_
  show OEnd p e below _ (T184.setTop (mkF m 10 #[.val (.ref a1), .val (.ref a2), .unset] [(.ref a2)]))
  obtain ⟨T185, X185, e185, st185⟩ := castY X184 hx hZ hown (hw _ (List.mem_of_getElem? (i := 71) rfl)) e184 (Ins.self E2) (g := (mkF m 10 #[.val (.ref a1), .val (.ref a2), .unset] [(.ref a2)])) rfl rfl (hb hby d11_10)
  refine OEnd.of st185 ?_
  show OEnd p e below _ (T185.setTop (mkF m 13 #[.val (.ref a1), .val (.ref a2), .unset] [(.ref a2)]))
  refine OEnd.of (fun t k => XS.astoreN X185.here hx rfl (hb hby d11_13) rfl rfl (l' := #[.val (.ref a1), .val (.ref a2), .val (.ref a2)]) rfl k) ?_
  show OEnd p e below _ (T185.setTop (mkF m 14 #[.val (.ref a1), .val (.ref a2), .val (.ref a2)] []))
  refine OEnd.of (fun t k => XS.aloadN X185.here hx rfl (hb hby d11_14) rfl rfl k) ?_
  show OEnd p e below _ (T185.setTop (mkF m 15 #[.val (.ref a1), .val (.ref a2), .val (.ref a2)] [(.ref a1)]))
  obtain ⟨T186, X186, e186, st186⟩ := getF X185 hx hZ hown (host := "") (Or.inl (hw _ (List.mem_of_getElem? (i := 57) rfl))) Via.refl e185 Fk (g := (mkF m 15 #[.val (.ref a1), .val (.ref a2), .val (.ref a2)] [(.ref a1)])) rfl rfl (hb hby d11_15)
  refine OEnd.of st186 ?_
  show OEnd p e below _ (T186.setTop (mkF m 18 #[.val (.ref a1), .val (.ref a2), .val (.ref a2)] [(.ref k1)]))
  refine OEnd.of (fun t k => XS.aloadN X186.here hx rfl (hb hby d11_18) rfl rfl k) ?_
  show OEnd p e below _ (T186.setTop (mkF m 19 #[.val (.ref a1), .val (.ref a2), .val (.ref a2)] [(.ref a2), (.ref k1)]))
  obtain ⟨T187, X187, e187, st187⟩ := getF X186 hx hZ hown (host := "") (Or.inl (hw _ (List.mem_of_getElem? (i := 57) rfl))) Via.refl e186 Gk (g := (mkF m 19 #[.val (.ref a1), .val (.ref a2), .val (.ref a2)] [(.ref a2), (.ref k1)])) rfl rfl (hb hby d11_19)
  refine OEnd.of st187 ?_
  show OEnd p e below _ (T187.setTop (mkF m 22 #[.val (.ref a1), .val (.ref a2), .val (.ref a2)] [(.ref k2), (.ref k1)]))
  have J188 : ∀ (T188 : State) (Lo188 : List Loc), Stand p l e RMrmEqT s m #[(.ref a1), (.ref a2)] below meth c T188 Lo188 0 0 → T188.heap = h0 → Fr Z.heap.size Lo188 → (¬ (k1 = k2 ∧ cs = ds ∧ l1 = l2)) → OEnd p e below (GN s (QrmEqT Z zc k_IDENTIFIER k_INTEGER k_END k_ARCHITECTURE k_COLON k_MINUS_SIGN k_NOT k_SUBSET of a1 a2 k1 k2 s1 s2 l1 l2 cs ds h0) RMrmEqT.cells RMrmEqT.slots) (T188.setTop (mkF m 54 #[.val (.ref a1), .val (.ref a2), .val (.ref a2)] [])) := by
    rintro T188 Lo188 X188 e188 N188 h54
    show OEnd p e below _ (T188.setTop (mkF m 54 #[.val (.ref a1), .val (.ref a2), .val (.ref a2)] []))
    refine OEnd.of (fun t k => XS.iconst X188.here hx rfl (hb hby d11_54) k) ?_
    show OEnd p e below _ (T188.setTop (mkF m 55 #[.val (.ref a1), .val (.ref a2), .val (.ref a2)] [(.int (0 : Int32))]))
    exact OEnd.retN X188 hx hlk e188 (t := .boolean) hret (by simp) (hb hby d11_55) ⟨(0 : Int32), rfl, N188, rfl, (Or.inr ⟨rfl, h54⟩)⟩ (by decide) (by decide)
  by_cases hc189 : (Value.ref k1) = (Value.ref k2)
  · refine OEnd.of (fun t k => Jvm.RoadKit.acmp (g := (mkF m 22 #[.val (.ref a1), .val (.ref a2), .val (.ref a2)] [(.ref k2), (.ref k1)])) X187 hx rfl rfl rfl (pc0 := 22) (pc' := 25) (same := true) rfl (hb hby d11_22) rfl (decide_eq_true hc189) (by decide) (by decide) k) ?_
    show OEnd p e below _ (T187.setTop (mkF m 25 #[.val (.ref a1), .val (.ref a2), .val (.ref a2)] []))
    refine OEnd.of (fun t k => XS.aloadN X187.here hx rfl (hb hby d11_25) rfl rfl k) ?_
    show OEnd p e below _ (T187.setTop (mkF m 26 #[.val (.ref a1), .val (.ref a2), .val (.ref a2)] [(.ref a1)]))
    obtain ⟨T190, X190, e190, st190⟩ := getF X187 hx hZ hown (host := "") (Or.inl (hw _ (List.mem_of_getElem? (i := 61) rfl))) Via.refl e187 Ft (g := (mkF m 26 #[.val (.ref a1), .val (.ref a2), .val (.ref a2)] [(.ref a1)])) rfl rfl (hb hby d11_26)
    refine OEnd.of st190 ?_
    show OEnd p e below _ (T190.setTop (mkF m 29 #[.val (.ref a1), .val (.ref a2), .val (.ref a2)] [(.ref s1)]))
    refine OEnd.of (fun t k => XS.aloadN X190.here hx rfl (hb hby d11_29) rfl rfl k) ?_
    show OEnd p e below _ (T190.setTop (mkF m 30 #[.val (.ref a1), .val (.ref a2), .val (.ref a2)] [(.ref a2), (.ref s1)]))
    obtain ⟨T191, X191, e191, st191⟩ := getF X190 hx hZ hown (host := "") (Or.inl (hw _ (List.mem_of_getElem? (i := 61) rfl))) Via.refl e190 Gt (g := (mkF m 30 #[.val (.ref a1), .val (.ref a2), .val (.ref a2)] [(.ref a2), (.ref s1)])) rfl rfl (hb hby d11_30)
    refine OEnd.of st191 ?_
    show OEnd p e below _ (T191.setTop (mkF m 33 #[.val (.ref a1), .val (.ref a2), .val (.ref a2)] [(.ref s2), (.ref s1)]))
    have Scx192 := Ss
    have Scy192 := Sd
    obtain ⟨Ex192, Cx192, ⟨tx192, kx192, Vx192, Ax192⟩, Bx192, lx192⟩ := Scx192
    obtain ⟨Ey192, Cy192, ⟨ty192, ky192, Vy192, Ay192⟩, By192, ly192⟩ := Scy192
    obtain ⟨cq194, kq194, q194a, q194b, q194c⟩ := isOf hZ e191 Ex192
    obtain ⟨_, _, ⟨T194, L194, k194, n194⟩, -, X194, ⟨Lc194, hQ194, l194, y194, z194⟩, st194⟩ := X191.virtualBack hx (y := (⟨"java/lang/String", "equals", "(Ljava/lang/Object;)Z"⟩ : MethodName)) (z := (⟨"java/lang/String", "equals", "(Ljava/lang/Object;)Z"⟩ : MethodName)) hown (mvT hZ (hw _ (List.mem_of_getElem? (i := 73) rfl))) (mvT hZ (hw _ (List.mem_of_getElem? (i := 74) rfl))) (notFace_of_selects (args := #[]) (mvT hZ (hw _ (List.mem_of_getElem? (i := 76) rfl)))) (mvT hZ (hw _ (List.mem_of_getElem? (i := 76) rfl))) (mvT hZ (hw _ (List.mem_of_getElem? (i := 75) rfl))) (by decide) (StrChars.Road.eqW (W := 0) hZ (fun d hd => hw d (own_strEq d hd)) (kI := 4) (hw _ (List.mem_of_getElem? (i := 15) rfl)) (cs := cs) (ds := ds) Ex192 Vx192 Cx192 Ax192 (StrChars.Road.codOf rfl (fun c hc => (Bx192 c hc).2)) (own_up Bx192) lx192 Ey192 Vy192 Cy192 Ay192 (StrChars.Road.codOf rfl (fun c hc => (By192 c hc).2)) (own_up By192) ly192 (Sta.ext O0 S_CS) hzc (by decide) (by decide)) q194a q194c (g := (mkF m 33 #[.val (.ref a1), .val (.ref a2), .val (.ref a2)] [(.ref s2), (.ref s1)])) rfl (by rw [hml]; rfl) (Steps.refl _) (argsL := [(.ref s2)]) (rest := []) (lenOf pd_28Ljava2flang2fObject3b29Z rfl) rfl (by show 2 * 0 + _ ≤ _; exact Nat.le_of_eq rfl) (hb hby d11_33) (fun _ _ => ⟨rfl, e191, (by decide : 0 + 0 ≤ _), (by decide : 0 + 0 ≤ _)⟩)
    dsimp only [Pt.U, Pt.locs, Pt.cells, Pt.slots] at X194 l194 y194 z194 st194 hQ194
    subst l194 y194 z194
    obtain ⟨hv194, rfl, e194⟩ := hQ194
    obtain ⟨bb193, rfl, hbbb193⟩ := own_eqv hv194
    try rw [List.append_nil] at X194
    refine OEnd.of (fun t k => st194.trans k) ?_
    show OEnd p e below _ (T194.setTop (mkF m 36 #[.val (.ref a1), .val (.ref a2), .val (.ref a2)] [(.int bb193)]))
    by_cases hc195 : bb193 = (0 : Int32)
    · refine OEnd.of (fun t k => XS.ifYes X194.here hx rfl (pc0 := 36) (pc' := 54) rfl (hb hby d11_36) rfl ((if0 _ _).trans (teq hc195).1) (by decide) (by decide) k) ?_
      show OEnd p e below _ (T194.setTop (mkF m 54 #[.val (.ref a1), .val (.ref a2), .val (.ref a2)] []))
      exact J188 T194 _ X194 e194 N0 (fun q => own_bN hbbb193 hc195 q.2.1)
    · refine OEnd.of (fun t k => XS.ifNo X194.here hx rfl (hb hby d11_36) rfl ((if0 _ _).trans (feq hc195).1) k) ?_
      show OEnd p e below _ (T194.setTop (mkF m 39 #[.val (.ref a1), .val (.ref a2), .val (.ref a2)] []))
      refine OEnd.of (fun t k => XS.aloadN X194.here hx rfl (hb hby d11_39) rfl rfl k) ?_
      show OEnd p e below _ (T194.setTop (mkF m 40 #[.val (.ref a1), .val (.ref a2), .val (.ref a2)] [(.ref a1)]))
      obtain ⟨T196, X196, e196, st196⟩ := getF X194 hx hZ hown (host := "") (Or.inl (hw _ (List.mem_of_getElem? (i := 63) rfl))) Via.refl e194 Fl (g := (mkF m 40 #[.val (.ref a1), .val (.ref a2), .val (.ref a2)] [(.ref a1)])) rfl rfl (hb hby d11_40)
      refine OEnd.of st196 ?_
      show OEnd p e below _ (T196.setTop (mkF m 43 #[.val (.ref a1), .val (.ref a2), .val (.ref a2)] [(.int l1)]))
      refine OEnd.of (fun t k => XS.aloadN X196.here hx rfl (hb hby d11_43) rfl rfl k) ?_
      show OEnd p e below _ (T196.setTop (mkF m 44 #[.val (.ref a1), .val (.ref a2), .val (.ref a2)] [(.ref a2), (.int l1)]))
      obtain ⟨T197, X197, e197, st197⟩ := getF X196 hx hZ hown (host := "") (Or.inl (hw _ (List.mem_of_getElem? (i := 63) rfl))) Via.refl e196 Gl (g := (mkF m 44 #[.val (.ref a1), .val (.ref a2), .val (.ref a2)] [(.ref a2), (.int l1)])) rfl rfl (hb hby d11_44)
      refine OEnd.of st197 ?_
      show OEnd p e below _ (T197.setTop (mkF m 47 #[.val (.ref a1), .val (.ref a2), .val (.ref a2)] [(.int l2), (.int l1)]))
      by_cases hc198 : l1 = l2
      · refine OEnd.of (fun t k => XS.icmpNo X197.here hx rfl (hb hby d11_47) rfl (teq hc198).2 k) ?_
        show OEnd p e below _ (T197.setTop (mkF m 50 #[.val (.ref a1), .val (.ref a2), .val (.ref a2)] []))
        refine OEnd.of (fun t k => XS.iconst X197.here hx rfl (hb hby d11_50) k) ?_
        show OEnd p e below _ (T197.setTop (mkF m 51 #[.val (.ref a1), .val (.ref a2), .val (.ref a2)] [(.int (1 : Int32))]))
        refine OEnd.of (fun t k => XS.goto X197.here hx rfl (pc0 := 51) (pc' := 55) rfl (hb hby d11_51) (by decide) (by decide) k) ?_
        show OEnd p e below _ (T197.setTop (mkF m 55 #[.val (.ref a1), .val (.ref a2), .val (.ref a2)] [(.int (1 : Int32))]))
        exact OEnd.retN X197 hx hlk e197 (t := .boolean) hret (by simp) (hb hby d11_55) ⟨(1 : Int32), rfl, N0, rfl, (Or.inl ⟨rfl, Value.ref.inj hc189, own_bP hbbb193 hc195, hc198⟩)⟩ (by decide) (by decide)
      · refine OEnd.of (fun t k => XS.icmpYes X197.here hx rfl (pc0 := 47) (pc' := 54) rfl (hb hby d11_47) rfl (feq hc198).2 (by decide) (by decide) k) ?_
        show OEnd p e below _ (T197.setTop (mkF m 54 #[.val (.ref a1), .val (.ref a2), .val (.ref a2)] []))
        exact J188 T197 _ X197 e197 N0 (fun q => hc198 q.2.2)
  · refine OEnd.of (fun t k => Jvm.RoadKit.acmp (g := (mkF m 22 #[.val (.ref a1), .val (.ref a2), .val (.ref a2)] [(.ref k2), (.ref k1)])) X187 hx rfl rfl rfl (pc0 := 22) (pc' := 54) (same := false) rfl (hb hby d11_22) rfl (decide_eq_false hc189) (by decide) (by decide) k) ?_
    show OEnd p e below _ (T187.setTop (mkF m 54 #[.val (.ref a1), .val (.ref a2), .val (.ref a2)] []))
    exact J188 T187 _ X187 e187 N0 (fun q => hc189 (congrArg Value.ref q.1))
theorem d11_7 : decode prog_69_method_5_code 7 = .ok (.iconst 0, 1) := by decide +kernel
theorem d11_8 : decode prog_69_method_5_code 8 = .ok (.ireturn, 1) := by decide +kernel
abbrev RMrmEqS : Room := { frames := 0, cells := 0, slots := 0, locals := 0 }
theorem ef_rmEqS (m : MethodId) (a1 : Addr) (a2 : Addr) : entryFrame m #[(.ref a1), (.ref a2)] 3 = mkF m 0 #[.val (.ref a1), .val (.ref a2), .unset] [] := by first | (simp [entryFrame, mkF, argsToLocals, Value.category]; done) | rfl
def QrmEqS (Z : State) (zc : Int32) (k_IDENTIFIER : Addr) (k_INTEGER : Addr) (k_END : Addr) (k_ARCHITECTURE : Addr) (k_COLON : Addr) (k_MINUS_SIGN : Addr) (k_NOT : Addr) (k_SUBSET : Addr) (of : Addr → Int32) (a1 : Addr) (a2 : Addr) (h0 : Heap) (v : Option Value) (h : Heap) (L : List Loc) : Prop := v = some (.int (0 : Int32)) ∧ Fr Z.heap.size L ∧ h = h0
set_option maxRecDepth 65536 in
set_option maxHeartbeats 40000000 in
theorem rmEqS (l : Launch) (Z : State) (a0 : Array Value) (hw : ∀ d ∈ tables_1, d.before a0 Z = true) (zc : Int32) (k_IDENTIFIER : Addr) (k_INTEGER : Addr) (k_END : Addr) (k_ARCHITECTURE : Addr) (k_COLON : Addr) (k_MINUS_SIGN : Addr) (k_NOT : Addr) (k_SUBSET : Addr) (of : Addr → Int32) (S_CS : Sta Z Z.heap "java/lang/String" "COMPACT_STRINGS" "Z" (.int zc)) (hzc : ¬ zc = 0) (S_IDENTIFIER : Sta Z Z.heap "com/example/thorough_topology/thoroughtopology/language/TokenKind" "IDENTIFIER" "Lcom/example/thorough_topology/thoroughtopology/language/TokenKind;" (.ref k_IDENTIFIER)) (S_INTEGER : Sta Z Z.heap "com/example/thorough_topology/thoroughtopology/language/TokenKind" "INTEGER" "Lcom/example/thorough_topology/thoroughtopology/language/TokenKind;" (.ref k_INTEGER)) (S_END : Sta Z Z.heap "com/example/thorough_topology/thoroughtopology/language/TokenKind" "END" "Lcom/example/thorough_topology/thoroughtopology/language/TokenKind;" (.ref k_END)) (S_ARCHITECTURE : Sta Z Z.heap "com/example/thorough_topology/thoroughtopology/language/TokenKind" "ARCHITECTURE" "Lcom/example/thorough_topology/thoroughtopology/language/TokenKind;" (.ref k_ARCHITECTURE)) (S_COLON : Sta Z Z.heap "com/example/thorough_topology/thoroughtopology/language/TokenKind" "COLON" "Lcom/example/thorough_topology/thoroughtopology/language/TokenKind;" (.ref k_COLON)) (S_MINUS_SIGN : Sta Z Z.heap "com/example/thorough_topology/thoroughtopology/language/TokenKind" "MINUS_SIGN" "Lcom/example/thorough_topology/thoroughtopology/language/TokenKind;" (.ref k_MINUS_SIGN)) (S_NOT : Sta Z Z.heap "com/example/thorough_topology/thoroughtopology/language/TokenKind" "NOT" "Lcom/example/thorough_topology/thoroughtopology/language/TokenKind;" (.ref k_NOT)) (S_SUBSET : Sta Z Z.heap "com/example/thorough_topology/thoroughtopology/language/TokenKind" "SUBSET" "Lcom/example/thorough_topology/thoroughtopology/language/TokenKind;" (.ref k_SUBSET)) (E_IDENTIFIER : Exa Z Z.heap k_IDENTIFIER "com/example/thorough_topology/thoroughtopology/language/TokenKind") (od_IDENTIFIER : of k_IDENTIFIER = 0) (E_INTEGER : Exa Z Z.heap k_INTEGER "com/example/thorough_topology/thoroughtopology/language/TokenKind") (od_INTEGER : of k_INTEGER = 1) (E_END : Exa Z Z.heap k_END "com/example/thorough_topology/thoroughtopology/language/TokenKind") (od_END : of k_END = 2) (E_ARCHITECTURE : Exa Z Z.heap k_ARCHITECTURE "com/example/thorough_topology/thoroughtopology/language/TokenKind") (od_ARCHITECTURE : of k_ARCHITECTURE = 3) (E_COLON : Exa Z Z.heap k_COLON "com/example/thorough_topology/thoroughtopology/language/TokenKind") (od_COLON : of k_COLON = 37) (E_MINUS_SIGN : Exa Z Z.heap k_MINUS_SIGN "com/example/thorough_topology/thoroughtopology/language/TokenKind") (od_MINUS_SIGN : of k_MINUS_SIGN = 55) (E_NOT : Exa Z Z.heap k_NOT "com/example/thorough_topology/thoroughtopology/language/TokenKind") (od_NOT : of k_NOT = 25) (E_SUBSET : Exa Z Z.heap k_SUBSET "com/example/thorough_topology/thoroughtopology/language/TokenKind") (od_SUBSET : of k_SUBSET = 36) (ws : List Jvm.Cond) (a1 : Addr) (a2 : Addr) (h0 : Heap) (O0 : Ext Z.heap h0) (E2 : Exa Z h0 a2 "java/lang/String") :
    MetFree l (⟨"com/example/thorough_topology/thoroughtopology/language/Token", "equals", "(Ljava/lang/Object;)Z"⟩ : MethodName) (head1 (Jvm.Cond.code (⟨"com/example/thorough_topology/thoroughtopology/language/Token", "equals", "(Ljava/lang/Object;)Z"⟩ : MethodName) prog_69_method_5_code 3 (some .boolean) :: ws) RMrmEqS) (fun a U => a = #[(.ref a1), (.ref a2)] ∧ Z.Warmed39 U.vm ∧ U.heap = h0) (fun _ _ _ _ _ => True) (fun _ U o U' => ∃ v L, o = .returned v ∧ QrmEqS Z zc k_IDENTIFIER k_INTEGER k_END k_ARCHITECTURE k_COLON k_MINUS_SIGN k_NOT k_SUBSET of a1 a2 h0 v U'.heap L ∧ FrameEnd U o U' L RMrmEqS.cells RMrmEqS.slots) := by
  refine MetFree.of_bodySF (plainFor_of_name pn_com_example_thorough_topology_thoroughtopology_language_Token) hisR ?_
  intro p e s m args below meth c s₁ Bd hml0 hP hK
  obtain ⟨rfl, hZ, hh⟩ := hP
  have hx := Bd.exec
  have hby := Bd.bytes
  have hlk : meth.locks = false := BodyLoose.notSynchronized Bd
  have hret := Bd.returns
  have hml : c.maxLocals = 3 := hml0
  have hown : s.vm.findClass "com/example/thorough_topology/thoroughtopology/language/Token" = some m.cls := findClass_of_methodNamed Bd.named
  have hnm := (name_of_methodNamed Bd.named Bd.method).1
  have X0 : Stand p l e RMrmEqS s m #[(.ref a1), (.ref a2)] below meth c s₁ [] 0 0 := Stand.of_body Bd
  have e0 : s₁.heap = h0 := by rw [← hh, Bd.state]; rfl
  have N0 := Fr.nil Z.heap.size
  show OEnd p e below (GN s (QrmEqS Z zc k_IDENTIFIER k_INTEGER k_END k_ARCHITECTURE k_COLON k_MINUS_SIGN k_NOT k_SUBSET of a1 a2 h0) RMrmEqS.cells RMrmEqS.slots) _
  refine OEnd.of (fun t k => castTop (ef_rmEqS m a1 a2) k) ?_
  refine OEnd.of (fun t k => XS.aloadN X0.here hx rfl (hb hby d11_0) rfl rfl k) ?_
  show OEnd p e below _ (s₁.setTop (mkF m 1 #[.val (.ref a1), .val (.ref a2), .unset] [(.ref a2)]))
  obtain ⟨T199, X199, e199, st199⟩ := instNo X0 hx hZ hown (hw _ (List.mem_of_getElem? (i := 71) rfl)) e0 E2 (own_notAssign (hw _ (List.mem_of_getElem? (i := 95) rfl)) (hw _ (List.mem_of_getElem? (i := 96) rfl)) (hw _ (List.mem_of_getElem? (i := 2) rfl)) (by decide) (by decide)) (g := (mkF m 1 #[.val (.ref a1), .val (.ref a2), .unset] [(.ref a2)])) rfl rfl (hb hby d11_1)
  refine OEnd.of st199 ?_
  show OEnd p e below _ (T199.setTop (mkF m 4 #[.val (.ref a1), .val (.ref a2), .unset] [(.int (0 : Int32))]))
  refine OEnd.of (fun t k => XS.ifNo X199.here hx rfl (hb hby d11_4) rfl ((if0 _ _).trans (teq (by decide : ((0 : Int32) = (0 : Int32)))).2) k) ?_
  show OEnd p e below _ (T199.setTop (mkF m 7 #[.val (.ref a1), .val (.ref a2), .unset] []))
  refine OEnd.of (fun t k => XS.iconst X199.here hx rfl (hb hby d11_7) k) ?_
  show OEnd p e below _ (T199.setTop (mkF m 8 #[.val (.ref a1), .val (.ref a2), .unset] [(.int (0 : Int32))]))
  exact OEnd.retN X199 hx hlk e199 (t := .boolean) hret (by simp) (hb hby d11_8) ⟨rfl, N0, rfl⟩ (by decide) (by decide)
abbrev RMrmEqN : Room := { frames := 0, cells := 0, slots := 0, locals := 0 }
theorem ef_rmEqN (m : MethodId) (a1 : Addr) : entryFrame m #[(.ref a1), .null] 3 = mkF m 0 #[.val (.ref a1), .val .null, .unset] [] := by first | (simp [entryFrame, mkF, argsToLocals, Value.category]; done) | rfl
def QrmEqN (Z : State) (zc : Int32) (k_IDENTIFIER : Addr) (k_INTEGER : Addr) (k_END : Addr) (k_ARCHITECTURE : Addr) (k_COLON : Addr) (k_MINUS_SIGN : Addr) (k_NOT : Addr) (k_SUBSET : Addr) (of : Addr → Int32) (a1 : Addr) (h0 : Heap) (v : Option Value) (h : Heap) (L : List Loc) : Prop := v = some (.int (0 : Int32)) ∧ Fr Z.heap.size L ∧ h = h0
set_option maxRecDepth 65536 in
set_option maxHeartbeats 40000000 in
theorem rmEqN (l : Launch) (Z : State) (a0 : Array Value) (hw : ∀ d ∈ tables_1, d.before a0 Z = true) (zc : Int32) (k_IDENTIFIER : Addr) (k_INTEGER : Addr) (k_END : Addr) (k_ARCHITECTURE : Addr) (k_COLON : Addr) (k_MINUS_SIGN : Addr) (k_NOT : Addr) (k_SUBSET : Addr) (of : Addr → Int32) (S_CS : Sta Z Z.heap "java/lang/String" "COMPACT_STRINGS" "Z" (.int zc)) (hzc : ¬ zc = 0) (S_IDENTIFIER : Sta Z Z.heap "com/example/thorough_topology/thoroughtopology/language/TokenKind" "IDENTIFIER" "Lcom/example/thorough_topology/thoroughtopology/language/TokenKind;" (.ref k_IDENTIFIER)) (S_INTEGER : Sta Z Z.heap "com/example/thorough_topology/thoroughtopology/language/TokenKind" "INTEGER" "Lcom/example/thorough_topology/thoroughtopology/language/TokenKind;" (.ref k_INTEGER)) (S_END : Sta Z Z.heap "com/example/thorough_topology/thoroughtopology/language/TokenKind" "END" "Lcom/example/thorough_topology/thoroughtopology/language/TokenKind;" (.ref k_END)) (S_ARCHITECTURE : Sta Z Z.heap "com/example/thorough_topology/thoroughtopology/language/TokenKind" "ARCHITECTURE" "Lcom/example/thorough_topology/thoroughtopology/language/TokenKind;" (.ref k_ARCHITECTURE)) (S_COLON : Sta Z Z.heap "com/example/thorough_topology/thoroughtopology/language/TokenKind" "COLON" "Lcom/example/thorough_topology/thoroughtopology/language/TokenKind;" (.ref k_COLON)) (S_MINUS_SIGN : Sta Z Z.heap "com/example/thorough_topology/thoroughtopology/language/TokenKind" "MINUS_SIGN" "Lcom/example/thorough_topology/thoroughtopology/language/TokenKind;" (.ref k_MINUS_SIGN)) (S_NOT : Sta Z Z.heap "com/example/thorough_topology/thoroughtopology/language/TokenKind" "NOT" "Lcom/example/thorough_topology/thoroughtopology/language/TokenKind;" (.ref k_NOT)) (S_SUBSET : Sta Z Z.heap "com/example/thorough_topology/thoroughtopology/language/TokenKind" "SUBSET" "Lcom/example/thorough_topology/thoroughtopology/language/TokenKind;" (.ref k_SUBSET)) (E_IDENTIFIER : Exa Z Z.heap k_IDENTIFIER "com/example/thorough_topology/thoroughtopology/language/TokenKind") (od_IDENTIFIER : of k_IDENTIFIER = 0) (E_INTEGER : Exa Z Z.heap k_INTEGER "com/example/thorough_topology/thoroughtopology/language/TokenKind") (od_INTEGER : of k_INTEGER = 1) (E_END : Exa Z Z.heap k_END "com/example/thorough_topology/thoroughtopology/language/TokenKind") (od_END : of k_END = 2) (E_ARCHITECTURE : Exa Z Z.heap k_ARCHITECTURE "com/example/thorough_topology/thoroughtopology/language/TokenKind") (od_ARCHITECTURE : of k_ARCHITECTURE = 3) (E_COLON : Exa Z Z.heap k_COLON "com/example/thorough_topology/thoroughtopology/language/TokenKind") (od_COLON : of k_COLON = 37) (E_MINUS_SIGN : Exa Z Z.heap k_MINUS_SIGN "com/example/thorough_topology/thoroughtopology/language/TokenKind") (od_MINUS_SIGN : of k_MINUS_SIGN = 55) (E_NOT : Exa Z Z.heap k_NOT "com/example/thorough_topology/thoroughtopology/language/TokenKind") (od_NOT : of k_NOT = 25) (E_SUBSET : Exa Z Z.heap k_SUBSET "com/example/thorough_topology/thoroughtopology/language/TokenKind") (od_SUBSET : of k_SUBSET = 36) (ws : List Jvm.Cond) (a1 : Addr) (h0 : Heap) (O0 : Ext Z.heap h0) :
    MetFree l (⟨"com/example/thorough_topology/thoroughtopology/language/Token", "equals", "(Ljava/lang/Object;)Z"⟩ : MethodName) (head1 (Jvm.Cond.code (⟨"com/example/thorough_topology/thoroughtopology/language/Token", "equals", "(Ljava/lang/Object;)Z"⟩ : MethodName) prog_69_method_5_code 3 (some .boolean) :: ws) RMrmEqN) (fun a U => a = #[(.ref a1), .null] ∧ Z.Warmed39 U.vm ∧ U.heap = h0) (fun _ _ _ _ _ => True) (fun _ U o U' => ∃ v L, o = .returned v ∧ QrmEqN Z zc k_IDENTIFIER k_INTEGER k_END k_ARCHITECTURE k_COLON k_MINUS_SIGN k_NOT k_SUBSET of a1 h0 v U'.heap L ∧ FrameEnd U o U' L RMrmEqN.cells RMrmEqN.slots) := by
  refine MetFree.of_bodySF (plainFor_of_name pn_com_example_thorough_topology_thoroughtopology_language_Token) hisR ?_
  intro p e s m args below meth c s₁ Bd hml0 hP hK
  obtain ⟨rfl, hZ, hh⟩ := hP
  have hx := Bd.exec
  have hby := Bd.bytes
  have hlk : meth.locks = false := BodyLoose.notSynchronized Bd
  have hret := Bd.returns
  have hml : c.maxLocals = 3 := hml0
  have hown : s.vm.findClass "com/example/thorough_topology/thoroughtopology/language/Token" = some m.cls := findClass_of_methodNamed Bd.named
  have hnm := (name_of_methodNamed Bd.named Bd.method).1
  have X0 : Stand p l e RMrmEqN s m #[(.ref a1), .null] below meth c s₁ [] 0 0 := Stand.of_body Bd
  have e0 : s₁.heap = h0 := by rw [← hh, Bd.state]; rfl
  have N0 := Fr.nil Z.heap.size
  show OEnd p e below (GN s (QrmEqN Z zc k_IDENTIFIER k_INTEGER k_END k_ARCHITECTURE k_COLON k_MINUS_SIGN k_NOT k_SUBSET of a1 h0) RMrmEqN.cells RMrmEqN.slots) _
  refine OEnd.of (fun t k => castTop (ef_rmEqN m a1) k) ?_
  refine OEnd.of (fun t k => XS.aloadN X0.here hx rfl (hb hby d11_0) rfl rfl k) ?_
  show OEnd p e below _ (s₁.setTop (mkF m 1 #[.val (.ref a1), .val .null, .unset] [.null]))
  refine OEnd.of (X0.instanceofNull hx (g := (mkF m 1 #[.val (.ref a1), .val .null, .unset] [.null])) rfl rfl (hb hby d11_1)) ?_
  show OEnd p e below _ (s₁.setTop (mkF m 4 #[.val (.ref a1), .val .null, .unset] [(.int (0 : Int32))]))
  refine OEnd.of (fun t k => XS.ifNo X0.here hx rfl (hb hby d11_4) rfl ((if0 _ _).trans (teq (by decide : ((0 : Int32) = (0 : Int32)))).2) k) ?_
  show OEnd p e below _ (s₁.setTop (mkF m 7 #[.val (.ref a1), .val .null, .unset] []))
  refine OEnd.of (fun t k => XS.iconst X0.here hx rfl (hb hby d11_7) k) ?_
  show OEnd p e below _ (s₁.setTop (mkF m 8 #[.val (.ref a1), .val .null, .unset] [(.int (0 : Int32))]))
  exact OEnd.retN X0 hx hlk e0 (t := .boolean) hret (by simp) (hb hby d11_8) ⟨rfl, N0, rfl⟩ (by decide) (by decide)
theorem pd_28I29Lcom2fexample2fthorough_topology2fthoroughtopology2flanguage2fTokenKind3b : parseMethodDescriptor "(I)Lcom/example/thorough_topology/thoroughtopology/language/TokenKind;" = some ⟨[.int], some (.object "com/example/thorough_topology/thoroughtopology/language/TokenKind")⟩ := by decide +kernel
theorem pd_28ICC29Ljava2flang2fString3b : parseMethodDescriptor "(ICC)Ljava/lang/String;" = some ⟨[.int, .char, .char], some (.object "java/lang/String")⟩ := by decide +kernel
theorem pd_28Lcom2fexample2fthorough_topology2fthoroughtopology2flanguage2fTokenKind3bLjava2flang2fString3bI29V : parseMethodDescriptor "(Lcom/example/thorough_topology/thoroughtopology/language/TokenKind;Ljava/lang/String;I)V" = some ⟨[(.object "com/example/thorough_topology/thoroughtopology/language/TokenKind"), (.object "java/lang/String"), .int], none⟩ := by decide +kernel
theorem ef_rm0 (m : MethodId) (p0 : Int32) (p1 : Int32) (q2 : Int64) (p4 : Int32) (p5 : Int32) (p6 : Int32) : entryFrame m #[(.int p0), (.int p1), (.long q2), (.int p4), (.int p5), (.int p6)] maxLocals = mkF m 0 #[.val (.int p0), .val (.int p1), .val (.long q2), .second, .val (.int p4), .val (.int p5), .val (.int p6), .unset, .unset, .unset, .unset, .unset, .unset, .unset, .unset, .unset, .unset, .unset, .unset, .unset, .unset, .unset] [] := by first | (simp [entryFrame, mkF, argsToLocals, Value.category, maxLocals]; done) | rfl
def Qrm0 (Z : State) (zc : Int32) (k_IDENTIFIER : Addr) (k_INTEGER : Addr) (k_END : Addr) (k_ARCHITECTURE : Addr) (k_COLON : Addr) (k_MINUS_SIGN : Addr) (k_NOT : Addr) (k_SUBSET : Addr) (of : Addr → Int32) (p0 : Int32) (p1 : Int32) (q2 : Int64) (p4 : Int32) (p5 : Int32) (p6 : Int32) (h0 : Heap) (v : Option Value) (h : Heap) (L : List Loc) : Prop := v = some (.int (1 : Int32)) ∧ Fr Z.heap.size L ∧ Keep h0 h []
set_option maxRecDepth 65536 in
set_option maxHeartbeats 40000000 in
theorem rm0 (l : Launch) (Z : State) (a0 : Array Value) (hw : ∀ d ∈ tables_1, d.before a0 Z = true) (zc : Int32) (k_IDENTIFIER : Addr) (k_INTEGER : Addr) (k_END : Addr) (k_ARCHITECTURE : Addr) (k_COLON : Addr) (k_MINUS_SIGN : Addr) (k_NOT : Addr) (k_SUBSET : Addr) (of : Addr → Int32) (S_CS : Sta Z Z.heap "java/lang/String" "COMPACT_STRINGS" "Z" (.int zc)) (hzc : ¬ zc = 0) (S_IDENTIFIER : Sta Z Z.heap "com/example/thorough_topology/thoroughtopology/language/TokenKind" "IDENTIFIER" "Lcom/example/thorough_topology/thoroughtopology/language/TokenKind;" (.ref k_IDENTIFIER)) (S_INTEGER : Sta Z Z.heap "com/example/thorough_topology/thoroughtopology/language/TokenKind" "INTEGER" "Lcom/example/thorough_topology/thoroughtopology/language/TokenKind;" (.ref k_INTEGER)) (S_END : Sta Z Z.heap "com/example/thorough_topology/thoroughtopology/language/TokenKind" "END" "Lcom/example/thorough_topology/thoroughtopology/language/TokenKind;" (.ref k_END)) (S_ARCHITECTURE : Sta Z Z.heap "com/example/thorough_topology/thoroughtopology/language/TokenKind" "ARCHITECTURE" "Lcom/example/thorough_topology/thoroughtopology/language/TokenKind;" (.ref k_ARCHITECTURE)) (S_COLON : Sta Z Z.heap "com/example/thorough_topology/thoroughtopology/language/TokenKind" "COLON" "Lcom/example/thorough_topology/thoroughtopology/language/TokenKind;" (.ref k_COLON)) (S_MINUS_SIGN : Sta Z Z.heap "com/example/thorough_topology/thoroughtopology/language/TokenKind" "MINUS_SIGN" "Lcom/example/thorough_topology/thoroughtopology/language/TokenKind;" (.ref k_MINUS_SIGN)) (S_NOT : Sta Z Z.heap "com/example/thorough_topology/thoroughtopology/language/TokenKind" "NOT" "Lcom/example/thorough_topology/thoroughtopology/language/TokenKind;" (.ref k_NOT)) (S_SUBSET : Sta Z Z.heap "com/example/thorough_topology/thoroughtopology/language/TokenKind" "SUBSET" "Lcom/example/thorough_topology/thoroughtopology/language/TokenKind;" (.ref k_SUBSET)) (E_IDENTIFIER : Exa Z Z.heap k_IDENTIFIER "com/example/thorough_topology/thoroughtopology/language/TokenKind") (od_IDENTIFIER : of k_IDENTIFIER = 0) (E_INTEGER : Exa Z Z.heap k_INTEGER "com/example/thorough_topology/thoroughtopology/language/TokenKind") (od_INTEGER : of k_INTEGER = 1) (E_END : Exa Z Z.heap k_END "com/example/thorough_topology/thoroughtopology/language/TokenKind") (od_END : of k_END = 2) (E_ARCHITECTURE : Exa Z Z.heap k_ARCHITECTURE "com/example/thorough_topology/thoroughtopology/language/TokenKind") (od_ARCHITECTURE : of k_ARCHITECTURE = 3) (E_COLON : Exa Z Z.heap k_COLON "com/example/thorough_topology/thoroughtopology/language/TokenKind") (od_COLON : of k_COLON = 37) (E_MINUS_SIGN : Exa Z Z.heap k_MINUS_SIGN "com/example/thorough_topology/thoroughtopology/language/TokenKind") (od_MINUS_SIGN : of k_MINUS_SIGN = 55) (E_NOT : Exa Z Z.heap k_NOT "com/example/thorough_topology/thoroughtopology/language/TokenKind") (od_NOT : of k_NOT = 25) (E_SUBSET : Exa Z Z.heap k_SUBSET "com/example/thorough_topology/thoroughtopology/language/TokenKind") (od_SUBSET : of k_SUBSET = 36) (hEL : EW Z a0 EL) (ws : List Jvm.Cond) (p0 : Int32) (p1 : Int32) (q2 : Int64) (p4 : Int32) (p5 : Int32) (p6 : Int32) (h0 : Heap) (O0 : Ext Z.heap h0) :
    MetFree l x (head1 (Jvm.Cond.code x code maxLocals ret :: ws) room_1) (fun a U => a = #[(.int p0), (.int p1), (.long q2), (.int p4), (.int p5), (.int p6)] ∧ Z.Warmed39 U.vm ∧ U.heap = h0 ∧ CHv Z EL U.vm h0) (fun _ _ _ _ _ => True) (fun _ U o U' => ∃ v L, o = .returned v ∧ Qrm0 Z zc k_IDENTIFIER k_INTEGER k_END k_ARCHITECTURE k_COLON k_MINUS_SIGN k_NOT k_SUBSET of p0 p1 q2 p4 p5 p6 h0 v U'.heap L ∧ CHr Z EL U.vm U.heap U'.vm U'.heap ∧ ReturnedEndW U o U' L 32 3200) := by
  refine MetFree.of_bodySF (plainFor_of_name pn_com_example_thorough_topology_thoroughtopology_language_TokenEqualsPinLaw) hisR ?_
  intro p e s m args below meth c s₁ Bd hml0 hP hK
  obtain ⟨rfl, hZ, hh, hC0⟩ := hP
  have hx := Bd.exec
  have hby := Bd.bytes
  have hlk : meth.locks = false := BodyLoose.notSynchronized Bd
  have hret := Bd.returns
  have hml : c.maxLocals = 22 := hml0
  have hown : s.vm.findClass "com/example/thorough_topology/thoroughtopology/language/TokenEqualsPinLaw" = some m.cls := findClass_of_methodNamed Bd.named
  have hnm := (name_of_methodNamed Bd.named Bd.method).1
  have X0 : Stand p l e room_1 (s.setVm s.vm) m #[(.int p0), (.int p1), (.long q2), (.int p4), (.int p5), (.int p6)] below meth c s₁ [] 0 0 := Stand.of_body Bd
  have e0 : s₁.heap = h0 := by rw [← hh, Bd.state]; rfl
  have N0 := Fr.nil Z.heap.size
  have hZ : Z.Warmed39 (s.setVm s.vm).vm := hZ
  have hS0 : s.Since s.vm h0.size := (State.WarmedH.refl s).since _
  have hk0 : h0.size ≤ h0.size := Nat.le_refl _
  have HR0 : CHr Z EL s.vm h0 s.vm h0 := CHr.refl hC0
  have hwS : ∀ d ∈ Bundle.stringAtoms, d.before a0 Z = true := fun d hd => hw d (own_strAtoms d hd)
  show OEnd p e below (GW s Z EL (Qrm0 Z zc k_IDENTIFIER k_INTEGER k_END k_ARCHITECTURE k_COLON k_MINUS_SIGN k_NOT k_SUBSET of p0 p1 q2 p4 p5 p6 h0) 32 3200) _
  refine OEnd.of (fun t k => castTop (ef_rm0 m p0 p1 q2 p4 p5 p6) k) ?_
  refine OEnd.of (fun t k => XS.iloadN X0.here hx rfl (hb hby at_0) rfl k) ?_
  show OEnd p e below _ (s₁.setTop (mkF m 1 #[.val (.int p0), .val (.int p1), .val (.long q2), .second, .val (.int p4), .val (.int p5), .val (.int p6), .unset, .unset, .unset, .unset, .unset, .unset, .unset, .unset, .unset, .unset, .unset, .unset, .unset, .unset, .unset] [(.int p0)]))
  refine OEnd.of (fun t k => XS.bipush X0.here hx rfl (hb hby at_1) k) ?_
  show OEnd p e below _ (s₁.setTop (mkF m 3 #[.val (.int p0), .val (.int p1), .val (.long q2), .second, .val (.int p4), .val (.int p5), .val (.int p6), .unset, .unset, .unset, .unset, .unset, .unset, .unset, .unset, .unset, .unset, .unset, .unset, .unset, .unset, .unset] [(.int (7 : Int32)), (.int p0)]))
  refine OEnd.of (fun t k => XS.iand X0.here hx rfl (hb hby at_3) rfl k) ?_
  show OEnd p e below _ (s₁.setTop (mkF m 4 #[.val (.int p0), .val (.int p1), .val (.long q2), .second, .val (.int p4), .val (.int p5), .val (.int p6), .unset, .unset, .unset, .unset, .unset, .unset, .unset, .unset, .unset, .unset, .unset, .unset, .unset, .unset, .unset] [(.int (p0 &&& (7 : Int32)))]))
  refine OEnd.of (fun t k => XS.istore X0.here hx rfl (hb hby at_4) rfl (l' := #[.val (.int p0), .val (.int p1), .val (.long q2), .second, .val (.int p4), .val (.int p5), .val (.int p6), .val (.int (p0 &&& (7 : Int32))), .unset, .unset, .unset, .unset, .unset, .unset, .unset, .unset, .unset, .unset, .unset, .unset, .unset, .unset]) rfl k) ?_
  show OEnd p e below _ (s₁.setTop (mkF m 6 #[.val (.int p0), .val (.int p1), .val (.long q2), .second, .val (.int p4), .val (.int p5), .val (.int p6), .val (.int (p0 &&& (7 : Int32))), .unset, .unset, .unset, .unset, .unset, .unset, .unset, .unset, .unset, .unset, .unset, .unset, .unset, .unset] []))
  generalize q_ka200 : (p0 &&& (7 : Int32)) = ka200
  have hka := own_r8 q_ka200
  refine OEnd.of (fun t k => XS.iload X0.here hx rfl (hb hby at_6) rfl k) ?_
  show OEnd p e below _ (s₁.setTop (mkF m 8 #[.val (.int p0), .val (.int p1), .val (.long q2), .second, .val (.int p4), .val (.int p5), .val (.int p6), .val (.int ka200), .unset, .unset, .unset, .unset, .unset, .unset, .unset, .unset, .unset, .unset, .unset, .unset, .unset, .unset] [(.int p6)]))
  refine OEnd.of (fun t k => XS.iconst X0.here hx rfl (hb hby at_8) k) ?_
  show OEnd p e below _ (s₁.setTop (mkF m 9 #[.val (.int p0), .val (.int p1), .val (.long q2), .second, .val (.int p4), .val (.int p5), .val (.int p6), .val (.int ka200), .unset, .unset, .unset, .unset, .unset, .unset, .unset, .unset, .unset, .unset, .unset, .unset, .unset, .unset] [(.int (1 : Int32)), (.int p6)]))
  refine OEnd.of (fun t k => XS.iand X0.here hx rfl (hb hby at_9) rfl k) ?_
  show OEnd p e below _ (s₁.setTop (mkF m 10 #[.val (.int p0), .val (.int p1), .val (.long q2), .second, .val (.int p4), .val (.int p5), .val (.int p6), .val (.int ka200), .unset, .unset, .unset, .unset, .unset, .unset, .unset, .unset, .unset, .unset, .unset, .unset, .unset, .unset] [(.int (p6 &&& (1 : Int32)))]))
  have J201 : ∀ (vm201 : Vm) (T201 : State) (Lo201 : List Loc) (n8 : Int32) (s36 : Int32), Stand p l e room_1 (s.setVm vm201) m #[(.int p0), (.int p1), (.long q2), (.int p4), (.int p5), (.int p6)] below meth c T201 Lo201 0 0 → T201.heap = h0 → Fr Z.heap.size Lo201 → (∃ k0, s.Since vm201 k0 ∧ k0 ≤ h0.size) → Z.Warmed39 (s.setVm vm201).vm → (s.setVm vm201).vm.findClass "com/example/thorough_topology/thoroughtopology/language/TokenEqualsPinLaw" = some m.cls → CHr Z EL s.vm h0 vm201 h0 → (¬ s36 < 0 ∧ ¬ (7 : Int32) < s36) → OEnd p e below (GW s Z EL (Qrm0 Z zc k_IDENTIFIER k_INTEGER k_END k_ARCHITECTURE k_COLON k_MINUS_SIGN k_NOT k_SUBSET of p0 p1 q2 p4 p5 p6 h0) 32 3200) (T201.setTop (mkF m 36 #[.val (.int p0), .val (.int p1), .val (.long q2), .second, .val (.int p4), .val (.int p5), .val (.int p6), .val (.int ka200), .val (.int n8), .unset, .unset, .unset, .unset, .unset, .unset, .unset, .unset, .unset, .unset, .unset, .unset, .unset] [(.int s36)])) := by
    rintro vm201 T201 Lo201 n8 s36 X201 e201 N201 ⟨kk201, hS201, hk201⟩ hZ201 hown201 HR201 h36
    show OEnd p e below _ (T201.setTop (mkF m 36 #[.val (.int p0), .val (.int p1), .val (.long q2), .second, .val (.int p4), .val (.int p5), .val (.int p6), .val (.int ka200), .val (.int n8), .unset, .unset, .unset, .unset, .unset, .unset, .unset, .unset, .unset, .unset, .unset, .unset, .unset] [(.int s36)]))
    refine OEnd.of (fun t k => XS.istore X201.here hx rfl (hb hby at_36) rfl (l' := #[.val (.int p0), .val (.int p1), .val (.long q2), .second, .val (.int p4), .val (.int p5), .val (.int p6), .val (.int ka200), .val (.int n8), .val (.int s36), .unset, .unset, .unset, .unset, .unset, .unset, .unset, .unset, .unset, .unset, .unset, .unset]) rfl k) ?_
    show OEnd p e below _ (T201.setTop (mkF m 38 #[.val (.int p0), .val (.int p1), .val (.long q2), .second, .val (.int p4), .val (.int p5), .val (.int p6), .val (.int ka200), .val (.int n8), .val (.int s36), .unset, .unset, .unset, .unset, .unset, .unset, .unset, .unset, .unset, .unset, .unset, .unset] []))
    refine OEnd.of (fun t k => XS.iload X201.here hx rfl (hb hby at_38) rfl k) ?_
    show OEnd p e below _ (T201.setTop (mkF m 40 #[.val (.int p0), .val (.int p1), .val (.long q2), .second, .val (.int p4), .val (.int p5), .val (.int p6), .val (.int ka200), .val (.int n8), .val (.int s36), .unset, .unset, .unset, .unset, .unset, .unset, .unset, .unset, .unset, .unset, .unset, .unset] [(.int p6)]))
    refine OEnd.of (fun t k => XS.iconst X201.here hx rfl (hb hby at_40) k) ?_
    show OEnd p e below _ (T201.setTop (mkF m 41 #[.val (.int p0), .val (.int p1), .val (.long q2), .second, .val (.int p4), .val (.int p5), .val (.int p6), .val (.int ka200), .val (.int n8), .val (.int s36), .unset, .unset, .unset, .unset, .unset, .unset, .unset, .unset, .unset, .unset, .unset, .unset] [(.int (2 : Int32)), (.int p6)]))
    refine OEnd.of (fun t k => XS.iand X201.here hx rfl (hb hby at_41) rfl k) ?_
    show OEnd p e below _ (T201.setTop (mkF m 42 #[.val (.int p0), .val (.int p1), .val (.long q2), .second, .val (.int p4), .val (.int p5), .val (.int p6), .val (.int ka200), .val (.int n8), .val (.int s36), .unset, .unset, .unset, .unset, .unset, .unset, .unset, .unset, .unset, .unset, .unset, .unset] [(.int (p6 &&& (2 : Int32)))]))
    have J202 : ∀ (vm202 : Vm) (T202 : State) (Lo202 : List Loc) (n10 : Int32), Stand p l e room_1 (s.setVm vm202) m #[(.int p0), (.int p1), (.long q2), (.int p4), (.int p5), (.int p6)] below meth c T202 Lo202 0 0 → T202.heap = h0 → Fr Z.heap.size Lo202 → (∃ k0, s.Since vm202 k0 ∧ k0 ≤ h0.size) → Z.Warmed39 (s.setVm vm202).vm → (s.setVm vm202).vm.findClass "com/example/thorough_topology/thoroughtopology/language/TokenEqualsPinLaw" = some m.cls → CHr Z EL s.vm h0 vm202 h0 → OEnd p e below (GW s Z EL (Qrm0 Z zc k_IDENTIFIER k_INTEGER k_END k_ARCHITECTURE k_COLON k_MINUS_SIGN k_NOT k_SUBSET of p0 p1 q2 p4 p5 p6 h0) 32 3200) (T202.setTop (mkF m 52 #[.val (.int p0), .val (.int p1), .val (.long q2), .second, .val (.int p4), .val (.int p5), .val (.int p6), .val (.int ka200), .val (.int n8), .val (.int s36), .val (.int n10), .unset, .unset, .unset, .unset, .unset, .unset, .unset, .unset, .unset, .unset, .unset] [])) := by
      rintro vm202 T202 Lo202 n10 X202 e202 N202 ⟨kk202, hS202, hk202⟩ hZ202 hown202 HR202
      show OEnd p e below _ (T202.setTop (mkF m 52 #[.val (.int p0), .val (.int p1), .val (.long q2), .second, .val (.int p4), .val (.int p5), .val (.int p6), .val (.int ka200), .val (.int n8), .val (.int s36), .val (.int n10), .unset, .unset, .unset, .unset, .unset, .unset, .unset, .unset, .unset, .unset, .unset] []))
      refine OEnd.of (fun t k => XS.iloadN X202.here hx rfl (hb hby at_52) rfl k) ?_
      show OEnd p e below _ (T202.setTop (mkF m 53 #[.val (.int p0), .val (.int p1), .val (.long q2), .second, .val (.int p4), .val (.int p5), .val (.int p6), .val (.int ka200), .val (.int n8), .val (.int s36), .val (.int n10), .unset, .unset, .unset, .unset, .unset, .unset, .unset, .unset, .unset, .unset, .unset] [(.int p1)]))
      refine OEnd.of (fun t k => XS.iconst X202.here hx rfl (hb hby at_53) k) ?_
      show OEnd p e below _ (T202.setTop (mkF m 54 #[.val (.int p0), .val (.int p1), .val (.long q2), .second, .val (.int p4), .val (.int p5), .val (.int p6), .val (.int ka200), .val (.int n8), .val (.int s36), .val (.int n10), .unset, .unset, .unset, .unset, .unset, .unset, .unset, .unset, .unset, .unset, .unset] [(.int (1 : Int32)), (.int p1)]))
      refine OEnd.of (fun t k => XS.iushr X202.here hx rfl (hb hby at_54) rfl k) ?_
      show OEnd p e below _ (T202.setTop (mkF m 55 #[.val (.int p0), .val (.int p1), .val (.long q2), .second, .val (.int p4), .val (.int p5), .val (.int p6), .val (.int ka200), .val (.int n8), .val (.int s36), .val (.int n10), .unset, .unset, .unset, .unset, .unset, .unset, .unset, .unset, .unset, .unset, .unset] [(.int ((p1.toUInt32 >>> ((1 : Int32) &&& 31).toUInt32).toInt32))]))
      refine OEnd.of (fun t k => XS.iconst X202.here hx rfl (hb hby at_55) k) ?_
      show OEnd p e below _ (T202.setTop (mkF m 56 #[.val (.int p0), .val (.int p1), .val (.long q2), .second, .val (.int p4), .val (.int p5), .val (.int p6), .val (.int ka200), .val (.int n8), .val (.int s36), .val (.int n10), .unset, .unset, .unset, .unset, .unset, .unset, .unset, .unset, .unset, .unset, .unset] [(.int (3 : Int32)), (.int ((p1.toUInt32 >>> ((1 : Int32) &&& 31).toUInt32).toInt32))]))
      refine OEnd.of (fun t k => iremM X202 hx rfl (hb hby at_56) rfl (by decide) k) ?_
      show OEnd p e below _ (T202.setTop (mkF m 57 #[.val (.int p0), .val (.int p1), .val (.long q2), .second, .val (.int p4), .val (.int p5), .val (.int p6), .val (.int ka200), .val (.int n8), .val (.int s36), .val (.int n10), .unset, .unset, .unset, .unset, .unset, .unset, .unset, .unset, .unset, .unset, .unset] [(.int (((p1.toUInt32 >>> ((1 : Int32) &&& 31).toUInt32).toInt32) % (3 : Int32)))]))
      refine OEnd.of (fun t k => XS.istore X202.here hx rfl (hb hby at_57) rfl (l' := #[.val (.int p0), .val (.int p1), .val (.long q2), .second, .val (.int p4), .val (.int p5), .val (.int p6), .val (.int ka200), .val (.int n8), .val (.int s36), .val (.int n10), .val (.int (((p1.toUInt32 >>> ((1 : Int32) &&& 31).toUInt32).toInt32) % (3 : Int32))), .unset, .unset, .unset, .unset, .unset, .unset, .unset, .unset, .unset, .unset]) rfl k) ?_
      show OEnd p e below _ (T202.setTop (mkF m 59 #[.val (.int p0), .val (.int p1), .val (.long q2), .second, .val (.int p4), .val (.int p5), .val (.int p6), .val (.int ka200), .val (.int n8), .val (.int s36), .val (.int n10), .val (.int (((p1.toUInt32 >>> ((1 : Int32) &&& 31).toUInt32).toInt32) % (3 : Int32))), .unset, .unset, .unset, .unset, .unset, .unset, .unset, .unset, .unset, .unset] []))
      generalize q_xl203 : (((p1.toUInt32 >>> ((1 : Int32) &&& 31).toUInt32).toInt32) % (3 : Int32)) = xl203
      have hx11 := own_l3u q_xl203
      refine OEnd.of (fun t k => XS.iload X202.here hx rfl (hb hby at_59) rfl k) ?_
      show OEnd p e below _ (T202.setTop (mkF m 61 #[.val (.int p0), .val (.int p1), .val (.long q2), .second, .val (.int p4), .val (.int p5), .val (.int p6), .val (.int ka200), .val (.int n8), .val (.int s36), .val (.int n10), .val (.int xl203), .unset, .unset, .unset, .unset, .unset, .unset, .unset, .unset, .unset, .unset] [(.int n10)]))
      have J204 : ∀ (vm204 : Vm) (T204 : State) (Lo204 : List Loc) (s75 : Int32), Stand p l e room_1 (s.setVm vm204) m #[(.int p0), (.int p1), (.long q2), (.int p4), (.int p5), (.int p6)] below meth c T204 Lo204 0 0 → T204.heap = h0 → Fr Z.heap.size Lo204 → (∃ k0, s.Since vm204 k0 ∧ k0 ≤ h0.size) → Z.Warmed39 (s.setVm vm204).vm → (s.setVm vm204).vm.findClass "com/example/thorough_topology/thoroughtopology/language/TokenEqualsPinLaw" = some m.cls → CHr Z EL s.vm h0 vm204 h0 → (s75 = 0 ∨ s75 = 1 ∨ s75 = 2) → OEnd p e below (GW s Z EL (Qrm0 Z zc k_IDENTIFIER k_INTEGER k_END k_ARCHITECTURE k_COLON k_MINUS_SIGN k_NOT k_SUBSET of p0 p1 q2 p4 p5 p6 h0) 32 3200) (T204.setTop (mkF m 75 #[.val (.int p0), .val (.int p1), .val (.long q2), .second, .val (.int p4), .val (.int p5), .val (.int p6), .val (.int ka200), .val (.int n8), .val (.int s36), .val (.int n10), .val (.int xl203), .unset, .unset, .unset, .unset, .unset, .unset, .unset, .unset, .unset, .unset] [(.int s75)])) := by
        rintro vm204 T204 Lo204 s75 X204 e204 N204 ⟨kk204, hS204, hk204⟩ hZ204 hown204 HR204 h75
        show OEnd p e below _ (T204.setTop (mkF m 75 #[.val (.int p0), .val (.int p1), .val (.long q2), .second, .val (.int p4), .val (.int p5), .val (.int p6), .val (.int ka200), .val (.int n8), .val (.int s36), .val (.int n10), .val (.int xl203), .unset, .unset, .unset, .unset, .unset, .unset, .unset, .unset, .unset, .unset] [(.int s75)]))
        refine OEnd.of (fun t k => XS.istore X204.here hx rfl (hb hby at_75) rfl (l' := #[.val (.int p0), .val (.int p1), .val (.long q2), .second, .val (.int p4), .val (.int p5), .val (.int p6), .val (.int ka200), .val (.int n8), .val (.int s36), .val (.int n10), .val (.int xl203), .val (.int s75), .unset, .unset, .unset, .unset, .unset, .unset, .unset, .unset, .unset]) rfl k) ?_
        show OEnd p e below _ (T204.setTop (mkF m 77 #[.val (.int p0), .val (.int p1), .val (.long q2), .second, .val (.int p4), .val (.int p5), .val (.int p6), .val (.int ka200), .val (.int n8), .val (.int s36), .val (.int n10), .val (.int xl203), .val (.int s75), .unset, .unset, .unset, .unset, .unset, .unset, .unset, .unset, .unset] []))
        refine OEnd.of (fun t k => XS.lloadN X204.here hx rfl (hb hby at_77) rfl k) ?_
        show OEnd p e below _ (T204.setTop (mkF m 78 #[.val (.int p0), .val (.int p1), .val (.long q2), .second, .val (.int p4), .val (.int p5), .val (.int p6), .val (.int ka200), .val (.int n8), .val (.int s36), .val (.int n10), .val (.int xl203), .val (.int s75), .unset, .unset, .unset, .unset, .unset, .unset, .unset, .unset, .unset] [(.long q2)]))
        refine OEnd.of (X204.ldc2Long hx hown204 (mvT hZ204 (hw _ (List.mem_of_getElem? (i := 0) rfl))) (g := (mkF m 78 #[.val (.int p0), .val (.int p1), .val (.long q2), .second, .val (.int p4), .val (.int p5), .val (.int p6), .val (.int ka200), .val (.int n8), .val (.int s36), .val (.int n10), .val (.int xl203), .val (.int s75), .unset, .unset, .unset, .unset, .unset, .unset, .unset, .unset, .unset] [(.long q2)])) rfl (hb hby at_78)) ?_
        show OEnd p e below _ (T204.setTop (mkF m 81 #[.val (.int p0), .val (.int p1), .val (.long q2), .second, .val (.int p4), .val (.int p5), .val (.int p6), .val (.int ka200), .val (.int n8), .val (.int s36), .val (.int n10), .val (.int xl203), .val (.int s75), .unset, .unset, .unset, .unset, .unset, .unset, .unset, .unset, .unset] [(.long (255 : Int64)), (.long q2)]))
        refine OEnd.of (fun t k => XS.land X204.here hx rfl (hb hby at_81) rfl k) ?_
        show OEnd p e below _ (T204.setTop (mkF m 82 #[.val (.int p0), .val (.int p1), .val (.long q2), .second, .val (.int p4), .val (.int p5), .val (.int p6), .val (.int ka200), .val (.int n8), .val (.int s36), .val (.int n10), .val (.int xl203), .val (.int s75), .unset, .unset, .unset, .unset, .unset, .unset, .unset, .unset, .unset] [(.long (q2 &&& (255 : Int64)))]))
        refine OEnd.of (fun t k => XS.l2i X204.here hx rfl (hb hby at_82) rfl k) ?_
        show OEnd p e below _ (T204.setTop (mkF m 83 #[.val (.int p0), .val (.int p1), .val (.long q2), .second, .val (.int p4), .val (.int p5), .val (.int p6), .val (.int ka200), .val (.int n8), .val (.int s36), .val (.int n10), .val (.int xl203), .val (.int s75), .unset, .unset, .unset, .unset, .unset, .unset, .unset, .unset, .unset] [(.int ((q2 &&& (255 : Int64)).toInt32))]))
        refine OEnd.of (fun t k => XS.i2c X204.here hx rfl (hb hby at_83) rfl k) ?_
        show OEnd p e below _ (T204.setTop (mkF m 84 #[.val (.int p0), .val (.int p1), .val (.long q2), .second, .val (.int p4), .val (.int p5), .val (.int p6), .val (.int ka200), .val (.int n8), .val (.int s36), .val (.int n10), .val (.int xl203), .val (.int s75), .unset, .unset, .unset, .unset, .unset, .unset, .unset, .unset, .unset] [(.int (((q2 &&& (255 : Int64)).toInt32).toUInt32.toUInt16.toUInt32.toInt32))]))
        generalize q_ch205 : (((q2 &&& (255 : Int64)).toInt32).toUInt32.toUInt16.toUInt32.toInt32) = ch205
        have hch_ch205 : ¬ ch205 < 0 ∧ ¬ (255 : Int32) < ch205 := own_chL q_ch205
        refine OEnd.of (fun t k => XS.istore X204.here hx rfl (hb hby at_84) rfl (l' := #[.val (.int p0), .val (.int p1), .val (.long q2), .second, .val (.int p4), .val (.int p5), .val (.int p6), .val (.int ka200), .val (.int n8), .val (.int s36), .val (.int n10), .val (.int xl203), .val (.int s75), .val (.int ch205), .unset, .unset, .unset, .unset, .unset, .unset, .unset, .unset]) rfl k) ?_
        show OEnd p e below _ (T204.setTop (mkF m 86 #[.val (.int p0), .val (.int p1), .val (.long q2), .second, .val (.int p4), .val (.int p5), .val (.int p6), .val (.int ka200), .val (.int n8), .val (.int s36), .val (.int n10), .val (.int xl203), .val (.int s75), .val (.int ch205), .unset, .unset, .unset, .unset, .unset, .unset, .unset, .unset] []))
        refine OEnd.of (fun t k => XS.lloadN X204.here hx rfl (hb hby at_86) rfl k) ?_
        show OEnd p e below _ (T204.setTop (mkF m 87 #[.val (.int p0), .val (.int p1), .val (.long q2), .second, .val (.int p4), .val (.int p5), .val (.int p6), .val (.int ka200), .val (.int n8), .val (.int s36), .val (.int n10), .val (.int xl203), .val (.int s75), .val (.int ch205), .unset, .unset, .unset, .unset, .unset, .unset, .unset, .unset] [(.long q2)]))
        refine OEnd.of (fun t k => XS.bipush X204.here hx rfl (hb hby at_87) k) ?_
        show OEnd p e below _ (T204.setTop (mkF m 89 #[.val (.int p0), .val (.int p1), .val (.long q2), .second, .val (.int p4), .val (.int p5), .val (.int p6), .val (.int ka200), .val (.int n8), .val (.int s36), .val (.int n10), .val (.int xl203), .val (.int s75), .val (.int ch205), .unset, .unset, .unset, .unset, .unset, .unset, .unset, .unset] [(.int (8 : Int32)), (.long q2)]))
        refine OEnd.of (fun t k => XS.lushr X204.here hx rfl (hb hby at_89) rfl k) ?_
        show OEnd p e below _ (T204.setTop (mkF m 90 #[.val (.int p0), .val (.int p1), .val (.long q2), .second, .val (.int p4), .val (.int p5), .val (.int p6), .val (.int ka200), .val (.int n8), .val (.int s36), .val (.int n10), .val (.int xl203), .val (.int s75), .val (.int ch205), .unset, .unset, .unset, .unset, .unset, .unset, .unset, .unset] [(.long ((q2.toUInt64 >>> ((8 : Int32) &&& 0x3f).toInt64.toUInt64).toInt64))]))
        refine OEnd.of (X204.ldc2Long hx hown204 (mvT hZ204 (hw _ (List.mem_of_getElem? (i := 0) rfl))) (g := (mkF m 90 #[.val (.int p0), .val (.int p1), .val (.long q2), .second, .val (.int p4), .val (.int p5), .val (.int p6), .val (.int ka200), .val (.int n8), .val (.int s36), .val (.int n10), .val (.int xl203), .val (.int s75), .val (.int ch205), .unset, .unset, .unset, .unset, .unset, .unset, .unset, .unset] [(.long ((q2.toUInt64 >>> ((8 : Int32) &&& 0x3f).toInt64.toUInt64).toInt64))])) rfl (hb hby at_90)) ?_
        show OEnd p e below _ (T204.setTop (mkF m 93 #[.val (.int p0), .val (.int p1), .val (.long q2), .second, .val (.int p4), .val (.int p5), .val (.int p6), .val (.int ka200), .val (.int n8), .val (.int s36), .val (.int n10), .val (.int xl203), .val (.int s75), .val (.int ch205), .unset, .unset, .unset, .unset, .unset, .unset, .unset, .unset] [(.long (255 : Int64)), (.long ((q2.toUInt64 >>> ((8 : Int32) &&& 0x3f).toInt64.toUInt64).toInt64))]))
        refine OEnd.of (fun t k => XS.land X204.here hx rfl (hb hby at_93) rfl k) ?_
        show OEnd p e below _ (T204.setTop (mkF m 94 #[.val (.int p0), .val (.int p1), .val (.long q2), .second, .val (.int p4), .val (.int p5), .val (.int p6), .val (.int ka200), .val (.int n8), .val (.int s36), .val (.int n10), .val (.int xl203), .val (.int s75), .val (.int ch205), .unset, .unset, .unset, .unset, .unset, .unset, .unset, .unset] [(.long (((q2.toUInt64 >>> ((8 : Int32) &&& 0x3f).toInt64.toUInt64).toInt64) &&& (255 : Int64)))]))
        refine OEnd.of (fun t k => XS.l2i X204.here hx rfl (hb hby at_94) rfl k) ?_
        show OEnd p e below _ (T204.setTop (mkF m 95 #[.val (.int p0), .val (.int p1), .val (.long q2), .second, .val (.int p4), .val (.int p5), .val (.int p6), .val (.int ka200), .val (.int n8), .val (.int s36), .val (.int n10), .val (.int xl203), .val (.int s75), .val (.int ch205), .unset, .unset, .unset, .unset, .unset, .unset, .unset, .unset] [(.int ((((q2.toUInt64 >>> ((8 : Int32) &&& 0x3f).toInt64.toUInt64).toInt64) &&& (255 : Int64)).toInt32))]))
        refine OEnd.of (fun t k => XS.i2c X204.here hx rfl (hb hby at_95) rfl k) ?_
        show OEnd p e below _ (T204.setTop (mkF m 96 #[.val (.int p0), .val (.int p1), .val (.long q2), .second, .val (.int p4), .val (.int p5), .val (.int p6), .val (.int ka200), .val (.int n8), .val (.int s36), .val (.int n10), .val (.int xl203), .val (.int s75), .val (.int ch205), .unset, .unset, .unset, .unset, .unset, .unset, .unset, .unset] [(.int (((((q2.toUInt64 >>> ((8 : Int32) &&& 0x3f).toInt64.toUInt64).toInt64) &&& (255 : Int64)).toInt32).toUInt32.toUInt16.toUInt32.toInt32))]))
        generalize q_ch206 : (((((q2.toUInt64 >>> ((8 : Int32) &&& 0x3f).toInt64.toUInt64).toInt64) &&& (255 : Int64)).toInt32).toUInt32.toUInt16.toUInt32.toInt32) = ch206
        have hch_ch206 : ¬ ch206 < 0 ∧ ¬ (255 : Int32) < ch206 := own_chL q_ch206
        refine OEnd.of (fun t k => XS.istore X204.here hx rfl (hb hby at_96) rfl (l' := #[.val (.int p0), .val (.int p1), .val (.long q2), .second, .val (.int p4), .val (.int p5), .val (.int p6), .val (.int ka200), .val (.int n8), .val (.int s36), .val (.int n10), .val (.int xl203), .val (.int s75), .val (.int ch205), .val (.int ch206), .unset, .unset, .unset, .unset, .unset, .unset, .unset]) rfl k) ?_
        show OEnd p e below _ (T204.setTop (mkF m 98 #[.val (.int p0), .val (.int p1), .val (.long q2), .second, .val (.int p4), .val (.int p5), .val (.int p6), .val (.int ka200), .val (.int n8), .val (.int s36), .val (.int n10), .val (.int xl203), .val (.int s75), .val (.int ch205), .val (.int ch206), .unset, .unset, .unset, .unset, .unset, .unset, .unset] []))
        refine OEnd.of (fun t k => XS.lloadN X204.here hx rfl (hb hby at_98) rfl k) ?_
        show OEnd p e below _ (T204.setTop (mkF m 99 #[.val (.int p0), .val (.int p1), .val (.long q2), .second, .val (.int p4), .val (.int p5), .val (.int p6), .val (.int ka200), .val (.int n8), .val (.int s36), .val (.int n10), .val (.int xl203), .val (.int s75), .val (.int ch205), .val (.int ch206), .unset, .unset, .unset, .unset, .unset, .unset, .unset] [(.long q2)]))
        refine OEnd.of (fun t k => XS.bipush X204.here hx rfl (hb hby at_99) k) ?_
        show OEnd p e below _ (T204.setTop (mkF m 101 #[.val (.int p0), .val (.int p1), .val (.long q2), .second, .val (.int p4), .val (.int p5), .val (.int p6), .val (.int ka200), .val (.int n8), .val (.int s36), .val (.int n10), .val (.int xl203), .val (.int s75), .val (.int ch205), .val (.int ch206), .unset, .unset, .unset, .unset, .unset, .unset, .unset] [(.int (16 : Int32)), (.long q2)]))
        refine OEnd.of (fun t k => XS.lushr X204.here hx rfl (hb hby at_101) rfl k) ?_
        show OEnd p e below _ (T204.setTop (mkF m 102 #[.val (.int p0), .val (.int p1), .val (.long q2), .second, .val (.int p4), .val (.int p5), .val (.int p6), .val (.int ka200), .val (.int n8), .val (.int s36), .val (.int n10), .val (.int xl203), .val (.int s75), .val (.int ch205), .val (.int ch206), .unset, .unset, .unset, .unset, .unset, .unset, .unset] [(.long ((q2.toUInt64 >>> ((16 : Int32) &&& 0x3f).toInt64.toUInt64).toInt64))]))
        refine OEnd.of (X204.ldc2Long hx hown204 (mvT hZ204 (hw _ (List.mem_of_getElem? (i := 0) rfl))) (g := (mkF m 102 #[.val (.int p0), .val (.int p1), .val (.long q2), .second, .val (.int p4), .val (.int p5), .val (.int p6), .val (.int ka200), .val (.int n8), .val (.int s36), .val (.int n10), .val (.int xl203), .val (.int s75), .val (.int ch205), .val (.int ch206), .unset, .unset, .unset, .unset, .unset, .unset, .unset] [(.long ((q2.toUInt64 >>> ((16 : Int32) &&& 0x3f).toInt64.toUInt64).toInt64))])) rfl (hb hby at_102)) ?_
        show OEnd p e below _ (T204.setTop (mkF m 105 #[.val (.int p0), .val (.int p1), .val (.long q2), .second, .val (.int p4), .val (.int p5), .val (.int p6), .val (.int ka200), .val (.int n8), .val (.int s36), .val (.int n10), .val (.int xl203), .val (.int s75), .val (.int ch205), .val (.int ch206), .unset, .unset, .unset, .unset, .unset, .unset, .unset] [(.long (255 : Int64)), (.long ((q2.toUInt64 >>> ((16 : Int32) &&& 0x3f).toInt64.toUInt64).toInt64))]))
        refine OEnd.of (fun t k => XS.land X204.here hx rfl (hb hby at_105) rfl k) ?_
        show OEnd p e below _ (T204.setTop (mkF m 106 #[.val (.int p0), .val (.int p1), .val (.long q2), .second, .val (.int p4), .val (.int p5), .val (.int p6), .val (.int ka200), .val (.int n8), .val (.int s36), .val (.int n10), .val (.int xl203), .val (.int s75), .val (.int ch205), .val (.int ch206), .unset, .unset, .unset, .unset, .unset, .unset, .unset] [(.long (((q2.toUInt64 >>> ((16 : Int32) &&& 0x3f).toInt64.toUInt64).toInt64) &&& (255 : Int64)))]))
        refine OEnd.of (fun t k => XS.l2i X204.here hx rfl (hb hby at_106) rfl k) ?_
        show OEnd p e below _ (T204.setTop (mkF m 107 #[.val (.int p0), .val (.int p1), .val (.long q2), .second, .val (.int p4), .val (.int p5), .val (.int p6), .val (.int ka200), .val (.int n8), .val (.int s36), .val (.int n10), .val (.int xl203), .val (.int s75), .val (.int ch205), .val (.int ch206), .unset, .unset, .unset, .unset, .unset, .unset, .unset] [(.int ((((q2.toUInt64 >>> ((16 : Int32) &&& 0x3f).toInt64.toUInt64).toInt64) &&& (255 : Int64)).toInt32))]))
        refine OEnd.of (fun t k => XS.i2c X204.here hx rfl (hb hby at_107) rfl k) ?_
        show OEnd p e below _ (T204.setTop (mkF m 108 #[.val (.int p0), .val (.int p1), .val (.long q2), .second, .val (.int p4), .val (.int p5), .val (.int p6), .val (.int ka200), .val (.int n8), .val (.int s36), .val (.int n10), .val (.int xl203), .val (.int s75), .val (.int ch205), .val (.int ch206), .unset, .unset, .unset, .unset, .unset, .unset, .unset] [(.int (((((q2.toUInt64 >>> ((16 : Int32) &&& 0x3f).toInt64.toUInt64).toInt64) &&& (255 : Int64)).toInt32).toUInt32.toUInt16.toUInt32.toInt32))]))
        generalize q_ch207 : (((((q2.toUInt64 >>> ((16 : Int32) &&& 0x3f).toInt64.toUInt64).toInt64) &&& (255 : Int64)).toInt32).toUInt32.toUInt16.toUInt32.toInt32) = ch207
        have hch_ch207 : ¬ ch207 < 0 ∧ ¬ (255 : Int32) < ch207 := own_chL q_ch207
        refine OEnd.of (fun t k => XS.istore X204.here hx rfl (hb hby at_108) rfl (l' := #[.val (.int p0), .val (.int p1), .val (.long q2), .second, .val (.int p4), .val (.int p5), .val (.int p6), .val (.int ka200), .val (.int n8), .val (.int s36), .val (.int n10), .val (.int xl203), .val (.int s75), .val (.int ch205), .val (.int ch206), .val (.int ch207), .unset, .unset, .unset, .unset, .unset, .unset]) rfl k) ?_
        show OEnd p e below _ (T204.setTop (mkF m 110 #[.val (.int p0), .val (.int p1), .val (.long q2), .second, .val (.int p4), .val (.int p5), .val (.int p6), .val (.int ka200), .val (.int n8), .val (.int s36), .val (.int n10), .val (.int xl203), .val (.int s75), .val (.int ch205), .val (.int ch206), .val (.int ch207), .unset, .unset, .unset, .unset, .unset, .unset] []))
        refine OEnd.of (fun t k => XS.lloadN X204.here hx rfl (hb hby at_110) rfl k) ?_
        show OEnd p e below _ (T204.setTop (mkF m 111 #[.val (.int p0), .val (.int p1), .val (.long q2), .second, .val (.int p4), .val (.int p5), .val (.int p6), .val (.int ka200), .val (.int n8), .val (.int s36), .val (.int n10), .val (.int xl203), .val (.int s75), .val (.int ch205), .val (.int ch206), .val (.int ch207), .unset, .unset, .unset, .unset, .unset, .unset] [(.long q2)]))
        refine OEnd.of (fun t k => XS.bipush X204.here hx rfl (hb hby at_111) k) ?_
        show OEnd p e below _ (T204.setTop (mkF m 113 #[.val (.int p0), .val (.int p1), .val (.long q2), .second, .val (.int p4), .val (.int p5), .val (.int p6), .val (.int ka200), .val (.int n8), .val (.int s36), .val (.int n10), .val (.int xl203), .val (.int s75), .val (.int ch205), .val (.int ch206), .val (.int ch207), .unset, .unset, .unset, .unset, .unset, .unset] [(.int (24 : Int32)), (.long q2)]))
        refine OEnd.of (fun t k => XS.lushr X204.here hx rfl (hb hby at_113) rfl k) ?_
        show OEnd p e below _ (T204.setTop (mkF m 114 #[.val (.int p0), .val (.int p1), .val (.long q2), .second, .val (.int p4), .val (.int p5), .val (.int p6), .val (.int ka200), .val (.int n8), .val (.int s36), .val (.int n10), .val (.int xl203), .val (.int s75), .val (.int ch205), .val (.int ch206), .val (.int ch207), .unset, .unset, .unset, .unset, .unset, .unset] [(.long ((q2.toUInt64 >>> ((24 : Int32) &&& 0x3f).toInt64.toUInt64).toInt64))]))
        refine OEnd.of (X204.ldc2Long hx hown204 (mvT hZ204 (hw _ (List.mem_of_getElem? (i := 0) rfl))) (g := (mkF m 114 #[.val (.int p0), .val (.int p1), .val (.long q2), .second, .val (.int p4), .val (.int p5), .val (.int p6), .val (.int ka200), .val (.int n8), .val (.int s36), .val (.int n10), .val (.int xl203), .val (.int s75), .val (.int ch205), .val (.int ch206), .val (.int ch207), .unset, .unset, .unset, .unset, .unset, .unset] [(.long ((q2.toUInt64 >>> ((24 : Int32) &&& 0x3f).toInt64.toUInt64).toInt64))])) rfl (hb hby at_114)) ?_
        show OEnd p e below _ (T204.setTop (mkF m 117 #[.val (.int p0), .val (.int p1), .val (.long q2), .second, .val (.int p4), .val (.int p5), .val (.int p6), .val (.int ka200), .val (.int n8), .val (.int s36), .val (.int n10), .val (.int xl203), .val (.int s75), .val (.int ch205), .val (.int ch206), .val (.int ch207), .unset, .unset, .unset, .unset, .unset, .unset] [(.long (255 : Int64)), (.long ((q2.toUInt64 >>> ((24 : Int32) &&& 0x3f).toInt64.toUInt64).toInt64))]))
        refine OEnd.of (fun t k => XS.land X204.here hx rfl (hb hby at_117) rfl k) ?_
        show OEnd p e below _ (T204.setTop (mkF m 118 #[.val (.int p0), .val (.int p1), .val (.long q2), .second, .val (.int p4), .val (.int p5), .val (.int p6), .val (.int ka200), .val (.int n8), .val (.int s36), .val (.int n10), .val (.int xl203), .val (.int s75), .val (.int ch205), .val (.int ch206), .val (.int ch207), .unset, .unset, .unset, .unset, .unset, .unset] [(.long (((q2.toUInt64 >>> ((24 : Int32) &&& 0x3f).toInt64.toUInt64).toInt64) &&& (255 : Int64)))]))
        refine OEnd.of (fun t k => XS.l2i X204.here hx rfl (hb hby at_118) rfl k) ?_
        show OEnd p e below _ (T204.setTop (mkF m 119 #[.val (.int p0), .val (.int p1), .val (.long q2), .second, .val (.int p4), .val (.int p5), .val (.int p6), .val (.int ka200), .val (.int n8), .val (.int s36), .val (.int n10), .val (.int xl203), .val (.int s75), .val (.int ch205), .val (.int ch206), .val (.int ch207), .unset, .unset, .unset, .unset, .unset, .unset] [(.int ((((q2.toUInt64 >>> ((24 : Int32) &&& 0x3f).toInt64.toUInt64).toInt64) &&& (255 : Int64)).toInt32))]))
        refine OEnd.of (fun t k => XS.i2c X204.here hx rfl (hb hby at_119) rfl k) ?_
        show OEnd p e below _ (T204.setTop (mkF m 120 #[.val (.int p0), .val (.int p1), .val (.long q2), .second, .val (.int p4), .val (.int p5), .val (.int p6), .val (.int ka200), .val (.int n8), .val (.int s36), .val (.int n10), .val (.int xl203), .val (.int s75), .val (.int ch205), .val (.int ch206), .val (.int ch207), .unset, .unset, .unset, .unset, .unset, .unset] [(.int (((((q2.toUInt64 >>> ((24 : Int32) &&& 0x3f).toInt64.toUInt64).toInt64) &&& (255 : Int64)).toInt32).toUInt32.toUInt16.toUInt32.toInt32))]))
        generalize q_ch208 : (((((q2.toUInt64 >>> ((24 : Int32) &&& 0x3f).toInt64.toUInt64).toInt64) &&& (255 : Int64)).toInt32).toUInt32.toUInt16.toUInt32.toInt32) = ch208
        have hch_ch208 : ¬ ch208 < 0 ∧ ¬ (255 : Int32) < ch208 := own_chL q_ch208
        refine OEnd.of (fun t k => XS.istore X204.here hx rfl (hb hby at_120) rfl (l' := #[.val (.int p0), .val (.int p1), .val (.long q2), .second, .val (.int p4), .val (.int p5), .val (.int p6), .val (.int ka200), .val (.int n8), .val (.int s36), .val (.int n10), .val (.int xl203), .val (.int s75), .val (.int ch205), .val (.int ch206), .val (.int ch207), .val (.int ch208), .unset, .unset, .unset, .unset, .unset]) rfl k) ?_
        show OEnd p e below _ (T204.setTop (mkF m 122 #[.val (.int p0), .val (.int p1), .val (.long q2), .second, .val (.int p4), .val (.int p5), .val (.int p6), .val (.int ka200), .val (.int n8), .val (.int s36), .val (.int n10), .val (.int xl203), .val (.int s75), .val (.int ch205), .val (.int ch206), .val (.int ch207), .val (.int ch208), .unset, .unset, .unset, .unset, .unset] []))
        refine OEnd.of (fun t k => XS.iload X204.here hx rfl (hb hby at_122) rfl k) ?_
        show OEnd p e below _ (T204.setTop (mkF m 124 #[.val (.int p0), .val (.int p1), .val (.long q2), .second, .val (.int p4), .val (.int p5), .val (.int p6), .val (.int ka200), .val (.int n8), .val (.int s36), .val (.int n10), .val (.int xl203), .val (.int s75), .val (.int ch205), .val (.int ch206), .val (.int ch207), .val (.int ch208), .unset, .unset, .unset, .unset, .unset] [(.int n10)]))
        have J209 : ∀ (vm209 : Vm) (T209 : State) (Lo209 : List Loc) (d15 : Int32) (d16 : Int32), Stand p l e room_1 (s.setVm vm209) m #[(.int p0), (.int p1), (.long q2), (.int p4), (.int p5), (.int p6)] below meth c T209 Lo209 0 0 → T209.heap = h0 → Fr Z.heap.size Lo209 → (∃ k0, s.Since vm209 k0 ∧ k0 ≤ h0.size) → Z.Warmed39 (s.setVm vm209).vm → (s.setVm vm209).vm.findClass "com/example/thorough_topology/thoroughtopology/language/TokenEqualsPinLaw" = some m.cls → CHr Z EL s.vm h0 vm209 h0 → (¬ d15 < 0 ∧ ¬ (255 : Int32) < d15) → (¬ d16 < 0 ∧ ¬ (255 : Int32) < d16) → OEnd p e below (GW s Z EL (Qrm0 Z zc k_IDENTIFIER k_INTEGER k_END k_ARCHITECTURE k_COLON k_MINUS_SIGN k_NOT k_SUBSET of p0 p1 q2 p4 p5 p6 h0) 32 3200) (T209.setTop (mkF m 135 #[.val (.int p0), .val (.int p1), .val (.long q2), .second, .val (.int p4), .val (.int p5), .val (.int p6), .val (.int ka200), .val (.int n8), .val (.int s36), .val (.int n10), .val (.int xl203), .val (.int s75), .val (.int ch205), .val (.int ch206), .val (.int d15), .val (.int d16), .unset, .unset, .unset, .unset, .unset] [])) := by
          rintro vm209 T209 Lo209 d15 d16 X209 e209 N209 ⟨kk209, hS209, hk209⟩ hZ209 hown209 HR209 h15 h16
          show OEnd p e below _ (T209.setTop (mkF m 135 #[.val (.int p0), .val (.int p1), .val (.long q2), .second, .val (.int p4), .val (.int p5), .val (.int p6), .val (.int ka200), .val (.int n8), .val (.int s36), .val (.int n10), .val (.int xl203), .val (.int s75), .val (.int ch205), .val (.int ch206), .val (.int d15), .val (.int d16), .unset, .unset, .unset, .unset, .unset] []))
          refine OEnd.of (fun t k => XS.iload X209.here hx rfl (hb hby at_135) rfl k) ?_
          show OEnd p e below _ (T209.setTop (mkF m 137 #[.val (.int p0), .val (.int p1), .val (.long q2), .second, .val (.int p4), .val (.int p5), .val (.int p6), .val (.int ka200), .val (.int n8), .val (.int s36), .val (.int n10), .val (.int xl203), .val (.int s75), .val (.int ch205), .val (.int ch206), .val (.int d15), .val (.int d16), .unset, .unset, .unset, .unset, .unset] [(.int p6)]))
          refine OEnd.of (fun t k => XS.iconst X209.here hx rfl (hb hby at_137) k) ?_
          show OEnd p e below _ (T209.setTop (mkF m 138 #[.val (.int p0), .val (.int p1), .val (.long q2), .second, .val (.int p4), .val (.int p5), .val (.int p6), .val (.int ka200), .val (.int n8), .val (.int s36), .val (.int n10), .val (.int xl203), .val (.int s75), .val (.int ch205), .val (.int ch206), .val (.int d15), .val (.int d16), .unset, .unset, .unset, .unset, .unset] [(.int (4 : Int32)), (.int p6)]))
          refine OEnd.of (fun t k => XS.iand X209.here hx rfl (hb hby at_138) rfl k) ?_
          show OEnd p e below _ (T209.setTop (mkF m 139 #[.val (.int p0), .val (.int p1), .val (.long q2), .second, .val (.int p4), .val (.int p5), .val (.int p6), .val (.int ka200), .val (.int n8), .val (.int s36), .val (.int n10), .val (.int xl203), .val (.int s75), .val (.int ch205), .val (.int ch206), .val (.int d15), .val (.int d16), .unset, .unset, .unset, .unset, .unset] [(.int (p6 &&& (4 : Int32)))]))
          have J210 : ∀ (vm210 : Vm) (T210 : State) (Lo210 : List Loc) (s149 : Int32), Stand p l e room_1 (s.setVm vm210) m #[(.int p0), (.int p1), (.long q2), (.int p4), (.int p5), (.int p6)] below meth c T210 Lo210 0 0 → T210.heap = h0 → Fr Z.heap.size Lo210 → (∃ k0, s.Since vm210 k0 ∧ k0 ≤ h0.size) → Z.Warmed39 (s.setVm vm210).vm → (s.setVm vm210).vm.findClass "com/example/thorough_topology/thoroughtopology/language/TokenEqualsPinLaw" = some m.cls → CHr Z EL s.vm h0 vm210 h0 → OEnd p e below (GW s Z EL (Qrm0 Z zc k_IDENTIFIER k_INTEGER k_END k_ARCHITECTURE k_COLON k_MINUS_SIGN k_NOT k_SUBSET of p0 p1 q2 p4 p5 p6 h0) 32 3200) (T210.setTop (mkF m 149 #[.val (.int p0), .val (.int p1), .val (.long q2), .second, .val (.int p4), .val (.int p5), .val (.int p6), .val (.int ka200), .val (.int n8), .val (.int s36), .val (.int n10), .val (.int xl203), .val (.int s75), .val (.int ch205), .val (.int ch206), .val (.int d15), .val (.int d16), .unset, .unset, .unset, .unset, .unset] [(.int s149)])) := by
            rintro vm210 T210 Lo210 s149 X210 e210 N210 ⟨kk210, hS210, hk210⟩ hZ210 hown210 HR210
            show OEnd p e below _ (T210.setTop (mkF m 149 #[.val (.int p0), .val (.int p1), .val (.long q2), .second, .val (.int p4), .val (.int p5), .val (.int p6), .val (.int ka200), .val (.int n8), .val (.int s36), .val (.int n10), .val (.int xl203), .val (.int s75), .val (.int ch205), .val (.int ch206), .val (.int d15), .val (.int d16), .unset, .unset, .unset, .unset, .unset] [(.int s149)]))
            refine OEnd.of (fun t k => XS.istore X210.here hx rfl (hb hby at_149) rfl (l' := #[.val (.int p0), .val (.int p1), .val (.long q2), .second, .val (.int p4), .val (.int p5), .val (.int p6), .val (.int ka200), .val (.int n8), .val (.int s36), .val (.int n10), .val (.int xl203), .val (.int s75), .val (.int ch205), .val (.int ch206), .val (.int d15), .val (.int d16), .val (.int s149), .unset, .unset, .unset, .unset]) rfl k) ?_
            show OEnd p e below _ (T210.setTop (mkF m 151 #[.val (.int p0), .val (.int p1), .val (.long q2), .second, .val (.int p4), .val (.int p5), .val (.int p6), .val (.int ka200), .val (.int n8), .val (.int s36), .val (.int n10), .val (.int xl203), .val (.int s75), .val (.int ch205), .val (.int ch206), .val (.int d15), .val (.int d16), .val (.int s149), .unset, .unset, .unset, .unset] []))
            obtain ⟨T211, h211, X211, e211, E211, A211, D211, -, st211⟩ := newO X210 hx hZ210 hown210 (hw _ (List.mem_of_getElem? (i := 1) rfl)) (hw _ (List.mem_of_getElem? (i := 2) rfl)) (hw _ (List.mem_of_getElem? (i := 3) rfl)) e210 (g := (mkF m 151 #[.val (.int p0), .val (.int p1), .val (.long q2), .second, .val (.int p4), .val (.int p5), .val (.int p6), .val (.int ka200), .val (.int n8), .val (.int s36), .val (.int n10), .val (.int xl203), .val (.int s75), .val (.int ch205), .val (.int ch206), .val (.int d15), .val (.int d16), .val (.int s149), .unset, .unset, .unset, .unset] [])) rfl (hb hby at_151) (by decide) (by decide)
            obtain ⟨b211, g211⟩ : ∃ z, z = h0.size := ⟨_, rfl⟩
            rw [← g211] at A211 D211 st211
            refine OEnd.of st211 ?_
            have f211 : Z.heap.size ≤ b211 := Nat.le_trans O0.1 (Nat.le_of_eq g211.symm)
            have F212 : Fld Z h211 b211 "com/example/thorough_topology/thoroughtopology/language/Token" "kind" "Lcom/example/thorough_topology/thoroughtopology/language/TokenKind;" .null := D211 (Or.inr (hw _ (List.mem_of_getElem? (i := 58) rfl))) (ty := (.object "com/example/thorough_topology/thoroughtopology/language/TokenKind")) (by decide)
            have F213 : Fld Z h211 b211 "com/example/thorough_topology/thoroughtopology/language/Token" "text" "Ljava/lang/String;" .null := D211 (Or.inr (hw _ (List.mem_of_getElem? (i := 62) rfl))) (ty := (.object "java/lang/String")) (by decide)
            have F214 : Fld Z h211 b211 "com/example/thorough_topology/thoroughtopology/language/Token" "line" "I" (.int (0 : Int32)) := D211 (Or.inr (hw _ (List.mem_of_getElem? (i := 64) rfl))) (ty := .int) (by decide)
            have CR215 : CHr Z EL vm210 h0 vm210 h211 := CHr.ext E211 HR210.1
            have HR216 : CHr Z EL s.vm h0 vm210 h211 := HR210.trans CR215
            show OEnd p e below _ (T211.setTop (mkF m 154 #[.val (.int p0), .val (.int p1), .val (.long q2), .second, .val (.int p4), .val (.int p5), .val (.int p6), .val (.int ka200), .val (.int n8), .val (.int s36), .val (.int n10), .val (.int xl203), .val (.int s75), .val (.int ch205), .val (.int ch206), .val (.int d15), .val (.int d16), .val (.int s149), .unset, .unset, .unset, .unset] [(.ref b211)]))
            refine OEnd.of (fun t k => XS.dup X211.here hx rfl (hb hby at_154) rfl rfl k) ?_
            show OEnd p e below _ (T211.setTop (mkF m 155 #[.val (.int p0), .val (.int p1), .val (.long q2), .second, .val (.int p4), .val (.int p5), .val (.int p6), .val (.int ka200), .val (.int n8), .val (.int s36), .val (.int n10), .val (.int xl203), .val (.int s75), .val (.int ch205), .val (.int ch206), .val (.int d15), .val (.int d16), .val (.int s149), .unset, .unset, .unset, .unset] [(.ref b211), (.ref b211)]))
            refine OEnd.of (fun t k => XS.iload X211.here hx rfl (hb hby at_155) rfl k) ?_
            show OEnd p e below _ (T211.setTop (mkF m 157 #[.val (.int p0), .val (.int p1), .val (.long q2), .second, .val (.int p4), .val (.int p5), .val (.int p6), .val (.int ka200), .val (.int n8), .val (.int s36), .val (.int n10), .val (.int xl203), .val (.int s75), .val (.int ch205), .val (.int ch206), .val (.int d15), .val (.int d16), .val (.int s149), .unset, .unset, .unset, .unset] [(.int ka200), (.ref b211), (.ref b211)]))
            have K218 : Keep h0 h211 [] := ((Keep.refl h0 []).ext E211)
            have O219 : Ext Z.heap h211 := own_extKeep O0 K218 all0
            obtain ⟨_, _, ⟨T217, L217, k217, n217⟩, -, X217, ⟨Lc217, hQ217, l217, y217, z217⟩, st217⟩ := Jvm.LawKit.callS X211 hx (y := (⟨"com/example/thorough_topology/thoroughtopology/language/TokenEqualsPinLaw", "kindOf", "(I)Lcom/example/thorough_topology/thoroughtopology/language/TokenKind;"⟩ : MethodName)) hown210 (mvT hZ210 (hw _ (List.mem_of_getElem? (i := 4) rfl))) (mvT hZ210 (hw _ (List.mem_of_getElem? (i := 5) rfl))) (mvT hZ210 (hw _ (List.mem_of_getElem? (i := 6) rfl))) (mvT hZ210 (hw _ (List.mem_of_getElem? (i := 7) rfl))) (by decide) (backOf (W := 2) (rmKind l Z a0 hw zc k_IDENTIFIER k_INTEGER k_END k_ARCHITECTURE k_COLON k_MINUS_SIGN k_NOT k_SUBSET of S_CS hzc S_IDENTIFIER S_INTEGER S_END S_ARCHITECTURE S_COLON S_MINUS_SIGN S_NOT S_SUBSET E_IDENTIFIER od_IDENTIFIER E_INTEGER od_INTEGER E_END od_END E_ARCHITECTURE od_ARCHITECTURE E_COLON od_COLON E_MINUS_SIGN od_MINUS_SIGN E_NOT od_NOT E_SUBSET od_SUBSET [] ka200 h211 O219 ) hZ210 (hw _ (List.mem_of_getElem? (i := 7) rfl)) (hw _ (List.mem_of_getElem? (i := 6) rfl)) (by decide) (by decide)) (g := (mkF m 157 #[.val (.int p0), .val (.int p1), .val (.long q2), .second, .val (.int p4), .val (.int p5), .val (.int p6), .val (.int ka200), .val (.int n8), .val (.int s36), .val (.int n10), .val (.int xl203), .val (.int s75), .val (.int ch205), .val (.int ch206), .val (.int d15), .val (.int d16), .val (.int s149), .unset, .unset, .unset, .unset] [(.int ka200), (.ref b211), (.ref b211)])) rfl (by rw [hml]; rfl) (argsL := [(.int ka200)]) (rest := [(.ref b211), (.ref b211)]) (lenOf pd_28I29Lcom2fexample2fthorough_topology2fthoroughtopology2flanguage2fTokenKind3b rfl) rfl (by show 2 * 0 + _ ≤ _; exact Nat.le_of_eq rfl) (hb hby at_157) (fun _ _ => ⟨rfl, e211, (by decide : 1 + 0 ≤ _), (by decide : 3 + 0 ≤ _)⟩)
            dsimp only [Pt.U, Pt.locs, Pt.cells, Pt.slots] at X217 l217 y217 z217 st217 hQ217
            subst l217 y217 z217
            obtain ⟨kk_220, rfl, Nq217, e217, Ek_221, hk_222⟩ := hQ217
            rw [e217] at Ek_221
            have N223 := Fr.app N210 Nq217
            refine OEnd.of st217 ?_
            show OEnd p e below _ (T217.setTop (mkF m 160 #[.val (.int p0), .val (.int p1), .val (.long q2), .second, .val (.int p4), .val (.int p5), .val (.int p6), .val (.int ka200), .val (.int n8), .val (.int s36), .val (.int n10), .val (.int xl203), .val (.int s75), .val (.int ch205), .val (.int ch206), .val (.int d15), .val (.int d16), .val (.int s149), .unset, .unset, .unset, .unset] [(.ref kk_220), (.ref b211), (.ref b211)]))
            refine OEnd.of (fun t k => XS.iload X217.here hx rfl (hb hby at_160) rfl k) ?_
            show OEnd p e below _ (T217.setTop (mkF m 162 #[.val (.int p0), .val (.int p1), .val (.long q2), .second, .val (.int p4), .val (.int p5), .val (.int p6), .val (.int ka200), .val (.int n8), .val (.int s36), .val (.int n10), .val (.int xl203), .val (.int s75), .val (.int ch205), .val (.int ch206), .val (.int d15), .val (.int d16), .val (.int s149), .unset, .unset, .unset, .unset] [(.int xl203), (.ref kk_220), (.ref b211), (.ref b211)]))
            refine OEnd.of (fun t k => XS.iload X217.here hx rfl (hb hby at_162) rfl k) ?_
            show OEnd p e below _ (T217.setTop (mkF m 164 #[.val (.int p0), .val (.int p1), .val (.long q2), .second, .val (.int p4), .val (.int p5), .val (.int p6), .val (.int ka200), .val (.int n8), .val (.int s36), .val (.int n10), .val (.int xl203), .val (.int s75), .val (.int ch205), .val (.int ch206), .val (.int d15), .val (.int d16), .val (.int s149), .unset, .unset, .unset, .unset] [(.int ch205), (.int xl203), (.ref kk_220), (.ref b211), (.ref b211)]))
            refine OEnd.of (fun t k => XS.iload X217.here hx rfl (hb hby at_164) rfl k) ?_
            show OEnd p e below _ (T217.setTop (mkF m 166 #[.val (.int p0), .val (.int p1), .val (.long q2), .second, .val (.int p4), .val (.int p5), .val (.int p6), .val (.int ka200), .val (.int n8), .val (.int s36), .val (.int n10), .val (.int xl203), .val (.int s75), .val (.int ch205), .val (.int ch206), .val (.int d15), .val (.int d16), .val (.int s149), .unset, .unset, .unset, .unset] [(.int ch206), (.int ch205), (.int xl203), (.ref kk_220), (.ref b211), (.ref b211)]))
            obtain ⟨_, vq224, ⟨T224, L224, k224, n224⟩, -, X224, S224, G224, ⟨Lc224, hQ224, l224, y224, z224, C224⟩, st224⟩ := callSS X217 hx (y := (⟨"com/example/thorough_topology/thoroughtopology/language/TokenEqualsPinLaw", "text", "(ICC)Ljava/lang/String;"⟩ : MethodName)) hown210 (mvT hZ210 (hw _ (List.mem_of_getElem? (i := 11) rfl))) (mvT hZ210 (hw _ (List.mem_of_getElem? (i := 12) rfl))) (mvT hZ210 (hw _ (List.mem_of_getElem? (i := 6) rfl))) (mvT hZ210 (hw _ (List.mem_of_getElem? (i := 13) rfl))) (by decide) (backOfSH (W := 3) (rmMk l Z a0 hw zc k_IDENTIFIER k_INTEGER k_END k_ARCHITECTURE k_COLON k_MINUS_SIGN k_NOT k_SUBSET of S_CS hzc S_IDENTIFIER S_INTEGER S_END S_ARCHITECTURE S_COLON S_MINUS_SIGN S_NOT S_SUBSET E_IDENTIFIER od_IDENTIFIER E_INTEGER od_INTEGER E_END od_END E_ARCHITECTURE od_ARCHITECTURE E_COLON od_COLON E_MINUS_SIGN od_MINUS_SIGN E_NOT od_NOT E_SUBSET od_SUBSET hEL [] xl203 ch205 ch206 h211 O219 hch_ch205 hch_ch206) hZ210 (hw _ (List.mem_of_getElem? (i := 13) rfl)) (hw _ (List.mem_of_getElem? (i := 6) rfl)) (by decide) (by decide) hEL HR216.1) (g := (mkF m 166 #[.val (.int p0), .val (.int p1), .val (.long q2), .second, .val (.int p4), .val (.int p5), .val (.int p6), .val (.int ka200), .val (.int n8), .val (.int s36), .val (.int n10), .val (.int xl203), .val (.int s75), .val (.int ch205), .val (.int ch206), .val (.int d15), .val (.int d16), .val (.int s149), .unset, .unset, .unset, .unset] [(.int ch206), (.int ch205), (.int xl203), (.ref kk_220), (.ref b211), (.ref b211)])) rfl (by rw [hml]; rfl) (argsL := [(.int xl203), (.int ch205), (.int ch206)]) (rest := [(.ref kk_220), (.ref b211), (.ref b211)]) (lenOf pd_28ICC29Ljava2flang2fString3b rfl) rfl (by show 2 * 0 + _ ≤ _; exact Nat.le_of_eq rfl) (hb hby at_166) (fun _ _ => ⟨rfl, e217, (by decide : 1 + 6 ≤ _), (by decide : 3 + 12 ≤ _)⟩)
            dsimp only [Pt.U, Pt.locs, Pt.cells, Pt.slots] at X224 l224 y224 z224 st224 hQ224 S224 G224 C224
            subst l224 y224 z224
            obtain ⟨h224, e224⟩ : ∃ z, T224.heap = z := ⟨_, rfl⟩
            rw [e224] at hQ224 C224
            obtain ⟨r_225, rfl, Nq224, Kq224, S_226⟩ := hQ224
            have N227 := Fr.app N223 Nq224
            obtain ⟨X224, S224, hZ224, hown224⟩ := rebS hS210 (by rw [e217]; exact (Nat.le_trans hk210 K218.1)) X224 S224 G224 hZ210 hown210
            rw [e224] at S224
            have hk224 : h224.size ≤ h224.size := Nat.le_refl _
            have CR228 : CHr Z EL vm210 h211 T224.vm h224 := C224
            have HR229 : CHr Z EL s.vm h0 T224.vm h224 := HR216.trans CR228
            refine OEnd.of (fun t k => st224.trans k) ?_
            show OEnd p e below _ (T224.setTop (mkF m 169 #[.val (.int p0), .val (.int p1), .val (.long q2), .second, .val (.int p4), .val (.int p5), .val (.int p6), .val (.int ka200), .val (.int n8), .val (.int s36), .val (.int n10), .val (.int xl203), .val (.int s75), .val (.int ch205), .val (.int ch206), .val (.int d15), .val (.int d16), .val (.int s149), .unset, .unset, .unset, .unset] [(.ref r_225), (.ref kk_220), (.ref b211), (.ref b211)]))
            refine OEnd.of (fun t k => XS.iload X224.here hx rfl (hb hby at_169) rfl k) ?_
            show OEnd p e below _ (T224.setTop (mkF m 171 #[.val (.int p0), .val (.int p1), .val (.long q2), .second, .val (.int p4), .val (.int p5), .val (.int p6), .val (.int ka200), .val (.int n8), .val (.int s36), .val (.int n10), .val (.int xl203), .val (.int s75), .val (.int ch205), .val (.int ch206), .val (.int d15), .val (.int d16), .val (.int s149), .unset, .unset, .unset, .unset] [(.int p4), (.ref r_225), (.ref kk_220), (.ref b211), (.ref b211)]))
            have K231 : Keep h211 h224 [] := ((Keep.refl h211 []).trans Kq224 all0)
            have O232 : Ext Z.heap h224 := own_extKeep O219 K231 all0
            obtain ⟨_, vq230, ⟨T230, L230, k230, n230⟩, -, X230, S230, G230, ⟨Lc230, hQ230, l230, y230, z230, C230⟩, st230⟩ := X224.specialBackS hx (y := (⟨"com/example/thorough_topology/thoroughtopology/language/Token", "<init>", "(Lcom/example/thorough_topology/thoroughtopology/language/TokenKind;Ljava/lang/String;I)V"⟩ : MethodName)) rfl hown224 (mvT hZ224 (hw _ (List.mem_of_getElem? (i := 44) rfl))) (mvT hZ224 (hw _ (List.mem_of_getElem? (i := 45) rfl))) (mvT hZ224 (hw _ (List.mem_of_getElem? (i := 46) rfl))) (by decide) (backOfSH (W := 1) (rmTok l Z a0 hw zc k_IDENTIFIER k_INTEGER k_END k_ARCHITECTURE k_COLON k_MINUS_SIGN k_NOT k_SUBSET of S_CS hzc S_IDENTIFIER S_INTEGER S_END S_ARCHITECTURE S_COLON S_MINUS_SIGN S_NOT S_SUBSET E_IDENTIFIER od_IDENTIFIER E_INTEGER od_INTEGER E_END od_END E_ARCHITECTURE od_ARCHITECTURE E_COLON od_COLON E_MINUS_SIGN od_MINUS_SIGN E_NOT od_NOT E_SUBSET od_SUBSET hEL [] b211 kk_220 r_225 p4 (own_mk xl203 ch205 ch206) h224 O232 (A211.keep K231) (F212.keep K231 nin0) (F213.keep K231 nin0) (F214.keep K231 nin0) f211 (Ek_221.keep K231) S_226) hZ224 (hw _ (List.mem_of_getElem? (i := 46) rfl)) (hw _ (List.mem_of_getElem? (i := 3) rfl)) (by decide) (by decide) hEL HR229.1) (g := (mkF m 171 #[.val (.int p0), .val (.int p1), .val (.long q2), .second, .val (.int p4), .val (.int p5), .val (.int p6), .val (.int ka200), .val (.int n8), .val (.int s36), .val (.int n10), .val (.int xl203), .val (.int s75), .val (.int ch205), .val (.int ch206), .val (.int d15), .val (.int d16), .val (.int s149), .unset, .unset, .unset, .unset] [(.int p4), (.ref r_225), (.ref kk_220), (.ref b211), (.ref b211)])) rfl (by rw [hml]; rfl) (Steps.refl _) (a := b211) (argsL := [(.ref kk_220), (.ref r_225), (.int p4)]) (rest := [(.ref b211)]) (lenOf pd_28Lcom2fexample2fthorough_topology2fthoroughtopology2flanguage2fTokenKind3bLjava2flang2fString3bI29V rfl) rfl (by show 2 * 0 + _ ≤ _; exact Nat.le_of_eq rfl) (hb hby at_171) (fun _ _ => ⟨rfl, e224, (by decide : 7 + 4 ≤ _), (by decide : 15 + 40 ≤ _)⟩)
            dsimp only [Pt.U, Pt.locs, Pt.cells, Pt.slots] at X230 l230 y230 z230 st230 hQ230 S230 G230 C230
            subst l230 y230 z230
            obtain ⟨h230, e230⟩ : ∃ z, T230.heap = z := ⟨_, rfl⟩
            rw [e230] at hQ230 C230
            obtain ⟨rfl, Nq230, Kq230, E_233, Fk_234, Ft_235, Fl_236⟩ := hQ230
            have N237 := Fr.app N227 Nq230
            obtain ⟨X230, S230, hZ230, hown230⟩ := rebS S224 (by rw [e224]; exact hk224) X230 S230 G230 hZ224 hown224
            rw [e230] at S230
            have hk230 : h230.size ≤ h230.size := Nat.le_refl _
            have CR238 : CHr Z EL T224.vm h224 T230.vm h230 := C230
            have HR239 : CHr Z EL s.vm h0 T230.vm h230 := HR229.trans CR238
            refine OEnd.of (fun t k => st230.trans k) ?_
            show OEnd p e below _ (T230.setTop (mkF m 174 #[.val (.int p0), .val (.int p1), .val (.long q2), .second, .val (.int p4), .val (.int p5), .val (.int p6), .val (.int ka200), .val (.int n8), .val (.int s36), .val (.int n10), .val (.int xl203), .val (.int s75), .val (.int ch205), .val (.int ch206), .val (.int d15), .val (.int d16), .val (.int s149), .unset, .unset, .unset, .unset] [(.ref b211)]))
            refine OEnd.of (fun t k => XS.astore X230.here hx rfl (hb hby at_174) rfl rfl (l' := #[.val (.int p0), .val (.int p1), .val (.long q2), .second, .val (.int p4), .val (.int p5), .val (.int p6), .val (.int ka200), .val (.int n8), .val (.int s36), .val (.int n10), .val (.int xl203), .val (.int s75), .val (.int ch205), .val (.int ch206), .val (.int d15), .val (.int d16), .val (.int s149), .val (.ref b211), .unset, .unset, .unset]) rfl k) ?_
            show OEnd p e below _ (T230.setTop (mkF m 176 #[.val (.int p0), .val (.int p1), .val (.long q2), .second, .val (.int p4), .val (.int p5), .val (.int p6), .val (.int ka200), .val (.int n8), .val (.int s36), .val (.int n10), .val (.int xl203), .val (.int s75), .val (.int ch205), .val (.int ch206), .val (.int d15), .val (.int d16), .val (.int s149), .val (.ref b211), .unset, .unset, .unset] []))
            refine OEnd.of (fun t k => XS.iload X230.here hx rfl (hb hby at_176) rfl k) ?_
            show OEnd p e below _ (T230.setTop (mkF m 178 #[.val (.int p0), .val (.int p1), .val (.long q2), .second, .val (.int p4), .val (.int p5), .val (.int p6), .val (.int ka200), .val (.int n8), .val (.int s36), .val (.int n10), .val (.int xl203), .val (.int s75), .val (.int ch205), .val (.int ch206), .val (.int d15), .val (.int d16), .val (.int s149), .val (.ref b211), .unset, .unset, .unset] [(.int p6)]))
            refine OEnd.of (fun t k => XS.iconst X230.here hx rfl (hb hby at_178) k) ?_
            show OEnd p e below _ (T230.setTop (mkF m 179 #[.val (.int p0), .val (.int p1), .val (.long q2), .second, .val (.int p4), .val (.int p5), .val (.int p6), .val (.int ka200), .val (.int n8), .val (.int s36), .val (.int n10), .val (.int xl203), .val (.int s75), .val (.int ch205), .val (.int ch206), .val (.int d15), .val (.int d16), .val (.int s149), .val (.ref b211), .unset, .unset, .unset] [(.int (3 : Int32)), (.int p6)]))
            refine OEnd.of (fun t k => XS.iushr X230.here hx rfl (hb hby at_179) rfl k) ?_
            show OEnd p e below _ (T230.setTop (mkF m 180 #[.val (.int p0), .val (.int p1), .val (.long q2), .second, .val (.int p4), .val (.int p5), .val (.int p6), .val (.int ka200), .val (.int n8), .val (.int s36), .val (.int n10), .val (.int xl203), .val (.int s75), .val (.int ch205), .val (.int ch206), .val (.int d15), .val (.int d16), .val (.int s149), .val (.ref b211), .unset, .unset, .unset] [(.int ((p6.toUInt32 >>> ((3 : Int32) &&& 31).toUInt32).toInt32))]))
            refine OEnd.of (fun t k => XS.iconst X230.here hx rfl (hb hby at_180) k) ?_
            show OEnd p e below _ (T230.setTop (mkF m 181 #[.val (.int p0), .val (.int p1), .val (.long q2), .second, .val (.int p4), .val (.int p5), .val (.int p6), .val (.int ka200), .val (.int n8), .val (.int s36), .val (.int n10), .val (.int xl203), .val (.int s75), .val (.int ch205), .val (.int ch206), .val (.int d15), .val (.int d16), .val (.int s149), .val (.ref b211), .unset, .unset, .unset] [(.int (3 : Int32)), (.int ((p6.toUInt32 >>> ((3 : Int32) &&& 31).toUInt32).toInt32))]))
            refine OEnd.of (fun t k => XS.iand X230.here hx rfl (hb hby at_181) rfl k) ?_
            show OEnd p e below _ (T230.setTop (mkF m 182 #[.val (.int p0), .val (.int p1), .val (.long q2), .second, .val (.int p4), .val (.int p5), .val (.int p6), .val (.int ka200), .val (.int n8), .val (.int s36), .val (.int n10), .val (.int xl203), .val (.int s75), .val (.int ch205), .val (.int ch206), .val (.int d15), .val (.int d16), .val (.int s149), .val (.ref b211), .unset, .unset, .unset] [(.int (((p6.toUInt32 >>> ((3 : Int32) &&& 31).toUInt32).toInt32) &&& (3 : Int32)))]))
            refine OEnd.of (fun t k => XS.istore X230.here hx rfl (hb hby at_182) rfl (l' := #[.val (.int p0), .val (.int p1), .val (.long q2), .second, .val (.int p4), .val (.int p5), .val (.int p6), .val (.int ka200), .val (.int n8), .val (.int s36), .val (.int n10), .val (.int xl203), .val (.int s75), .val (.int ch205), .val (.int ch206), .val (.int d15), .val (.int d16), .val (.int s149), .val (.ref b211), .val (.int (((p6.toUInt32 >>> ((3 : Int32) &&& 31).toUInt32).toInt32) &&& (3 : Int32))), .unset, .unset]) rfl k) ?_
            show OEnd p e below _ (T230.setTop (mkF m 184 #[.val (.int p0), .val (.int p1), .val (.long q2), .second, .val (.int p4), .val (.int p5), .val (.int p6), .val (.int ka200), .val (.int n8), .val (.int s36), .val (.int n10), .val (.int xl203), .val (.int s75), .val (.int ch205), .val (.int ch206), .val (.int d15), .val (.int d16), .val (.int s149), .val (.ref b211), .val (.int (((p6.toUInt32 >>> ((3 : Int32) &&& 31).toUInt32).toInt32) &&& (3 : Int32))), .unset, .unset] []))
            refine OEnd.of (fun t k => XS.iload X230.here hx rfl (hb hby at_184) rfl k) ?_
            show OEnd p e below _ (T230.setTop (mkF m 186 #[.val (.int p0), .val (.int p1), .val (.long q2), .second, .val (.int p4), .val (.int p5), .val (.int p6), .val (.int ka200), .val (.int n8), .val (.int s36), .val (.int n10), .val (.int xl203), .val (.int s75), .val (.int ch205), .val (.int ch206), .val (.int d15), .val (.int d16), .val (.int s149), .val (.ref b211), .val (.int (((p6.toUInt32 >>> ((3 : Int32) &&& 31).toUInt32).toInt32) &&& (3 : Int32))), .unset, .unset] [(.int (((p6.toUInt32 >>> ((3 : Int32) &&& 31).toUInt32).toInt32) &&& (3 : Int32)))]))
            refine OEnd.of (fun t k => XS.iconst X230.here hx rfl (hb hby at_186) k) ?_
            show OEnd p e below _ (T230.setTop (mkF m 187 #[.val (.int p0), .val (.int p1), .val (.long q2), .second, .val (.int p4), .val (.int p5), .val (.int p6), .val (.int ka200), .val (.int n8), .val (.int s36), .val (.int n10), .val (.int xl203), .val (.int s75), .val (.int ch205), .val (.int ch206), .val (.int d15), .val (.int d16), .val (.int s149), .val (.ref b211), .val (.int (((p6.toUInt32 >>> ((3 : Int32) &&& 31).toUInt32).toInt32) &&& (3 : Int32))), .unset, .unset] [(.int (1 : Int32)), (.int (((p6.toUInt32 >>> ((3 : Int32) &&& 31).toUInt32).toInt32) &&& (3 : Int32)))]))
            generalize q_xw240 : (((p6.toUInt32 >>> ((3 : Int32) &&& 31).toUInt32).toInt32) &&& (3 : Int32)) = xw240
            by_cases hc241 : xw240 = (1 : Int32)
            · refine OEnd.of (fun t k => XS.icmpNo X230.here hx rfl (hb hby at_187) rfl (teq hc241).2 k) ?_
              show OEnd p e below _ (T230.setTop (mkF m 190 #[.val (.int p0), .val (.int p1), .val (.long q2), .second, .val (.int p4), .val (.int p5), .val (.int p6), .val (.int ka200), .val (.int n8), .val (.int s36), .val (.int n10), .val (.int xl203), .val (.int s75), .val (.int ch205), .val (.int ch206), .val (.int d15), .val (.int d16), .val (.int s149), .val (.ref b211), .val (.int xw240), .unset, .unset] []))
              refine OEnd.of (fun t k => XS.aconstNull X230.here hx rfl (hb hby at_190) k) ?_
              show OEnd p e below _ (T230.setTop (mkF m 191 #[.val (.int p0), .val (.int p1), .val (.long q2), .second, .val (.int p4), .val (.int p5), .val (.int p6), .val (.int ka200), .val (.int n8), .val (.int s36), .val (.int n10), .val (.int xl203), .val (.int s75), .val (.int ch205), .val (.int ch206), .val (.int d15), .val (.int d16), .val (.int s149), .val (.ref b211), .val (.int xw240), .unset, .unset] [.null]))
              refine OEnd.of (fun t k => XS.astore X230.here hx rfl (hb hby at_191) rfl rfl (l' := #[.val (.int p0), .val (.int p1), .val (.long q2), .second, .val (.int p4), .val (.int p5), .val (.int p6), .val (.int ka200), .val (.int n8), .val (.int s36), .val (.int n10), .val (.int xl203), .val (.int s75), .val (.int ch205), .val (.int ch206), .val (.int d15), .val (.int d16), .val (.int s149), .val (.ref b211), .val (.int xw240), .val .null, .unset]) rfl k) ?_
              show OEnd p e below _ (T230.setTop (mkF m 193 #[.val (.int p0), .val (.int p1), .val (.long q2), .second, .val (.int p4), .val (.int p5), .val (.int p6), .val (.int ka200), .val (.int n8), .val (.int s36), .val (.int n10), .val (.int xl203), .val (.int s75), .val (.int ch205), .val (.int ch206), .val (.int d15), .val (.int d16), .val (.int s149), .val (.ref b211), .val (.int xw240), .val .null, .unset] []))
              refine OEnd.of (fun t k => XS.iconst X230.here hx rfl (hb hby at_193) k) ?_
              show OEnd p e below _ (T230.setTop (mkF m 194 #[.val (.int p0), .val (.int p1), .val (.long q2), .second, .val (.int p4), .val (.int p5), .val (.int p6), .val (.int ka200), .val (.int n8), .val (.int s36), .val (.int n10), .val (.int xl203), .val (.int s75), .val (.int ch205), .val (.int ch206), .val (.int d15), .val (.int d16), .val (.int s149), .val (.ref b211), .val (.int xw240), .val .null, .unset] [(.int (0 : Int32))]))
              refine OEnd.of (fun t k => XS.istore X230.here hx rfl (hb hby at_194) rfl (l' := #[.val (.int p0), .val (.int p1), .val (.long q2), .second, .val (.int p4), .val (.int p5), .val (.int p6), .val (.int ka200), .val (.int n8), .val (.int s36), .val (.int n10), .val (.int xl203), .val (.int s75), .val (.int ch205), .val (.int ch206), .val (.int d15), .val (.int d16), .val (.int s149), .val (.ref b211), .val (.int xw240), .val .null, .val (.int (0 : Int32))]) rfl k) ?_
              show OEnd p e below _ (T230.setTop (mkF m 196 #[.val (.int p0), .val (.int p1), .val (.long q2), .second, .val (.int p4), .val (.int p5), .val (.int p6), .val (.int ka200), .val (.int n8), .val (.int s36), .val (.int n10), .val (.int xl203), .val (.int s75), .val (.int ch205), .val (.int ch206), .val (.int d15), .val (.int d16), .val (.int s149), .val (.ref b211), .val (.int xw240), .val .null, .val (.int (0 : Int32))] []))
              refine OEnd.of (fun t k => XS.goto X230.here hx rfl (pc0 := 196) (pc' := 301) rfl (hb hby at_196) (by decide) (by decide) k) ?_
              show OEnd p e below _ (T230.setTop (mkF m 301 #[.val (.int p0), .val (.int p1), .val (.long q2), .second, .val (.int p4), .val (.int p5), .val (.int p6), .val (.int ka200), .val (.int n8), .val (.int s36), .val (.int n10), .val (.int xl203), .val (.int s75), .val (.int ch205), .val (.int ch206), .val (.int d15), .val (.int d16), .val (.int s149), .val (.ref b211), .val (.int xw240), .val .null, .val (.int (0 : Int32))] []))
              refine OEnd.of (fun t k => XS.aload X230.here hx rfl (hb hby at_301) rfl rfl k) ?_
              show OEnd p e below _ (T230.setTop (mkF m 303 #[.val (.int p0), .val (.int p1), .val (.long q2), .second, .val (.int p4), .val (.int p5), .val (.int p6), .val (.int ka200), .val (.int n8), .val (.int s36), .val (.int n10), .val (.int xl203), .val (.int s75), .val (.int ch205), .val (.int ch206), .val (.int d15), .val (.int d16), .val (.int s149), .val (.ref b211), .val (.int xw240), .val .null, .val (.int (0 : Int32))] [(.ref b211)]))
              refine OEnd.of (fun t k => XS.aload X230.here hx rfl (hb hby at_303) rfl rfl k) ?_
              show OEnd p e below _ (T230.setTop (mkF m 305 #[.val (.int p0), .val (.int p1), .val (.long q2), .second, .val (.int p4), .val (.int p5), .val (.int p6), .val (.int ka200), .val (.int n8), .val (.int s36), .val (.int n10), .val (.int xl203), .val (.int s75), .val (.int ch205), .val (.int ch206), .val (.int d15), .val (.int d16), .val (.int s149), .val (.ref b211), .val (.int xw240), .val .null, .val (.int (0 : Int32))] [.null, (.ref b211)]))
              have K243 : Keep h224 h230 [b211] := ((Keep.refl h224 [b211]).trans Kq230 (allS (Or.inl (List.mem_of_getElem? (i := 0) rfl)) all0))
              have O244 : Ext Z.heap h230 := own_extKeep O232 K243 (allS f211 all0)
              obtain ⟨cq242, kq242, q242a, q242b, q242c⟩ := isOf hZ230 e230 E_233
              obtain ⟨_, _, ⟨T242, L242, k242, n242⟩, -, X242, ⟨Lc242, hQ242, l242, y242, z242⟩, st242⟩ := X230.virtualBack hx (y := (⟨"com/example/thorough_topology/thoroughtopology/language/Token", "equals", "(Ljava/lang/Object;)Z"⟩ : MethodName)) (z := (⟨"com/example/thorough_topology/thoroughtopology/language/Token", "equals", "(Ljava/lang/Object;)Z"⟩ : MethodName)) hown230 (mvT hZ230 (hw _ (List.mem_of_getElem? (i := 66) rfl))) (mvT hZ230 (hw _ (List.mem_of_getElem? (i := 67) rfl))) (notFace_of_selects (args := #[]) (mvT hZ230 (hw _ (List.mem_of_getElem? (i := 69) rfl)))) (mvT hZ230 (hw _ (List.mem_of_getElem? (i := 69) rfl))) (mvT hZ230 (hw _ (List.mem_of_getElem? (i := 68) rfl))) (by decide) (backOf (W := 0) (rmEqN l Z a0 hw zc k_IDENTIFIER k_INTEGER k_END k_ARCHITECTURE k_COLON k_MINUS_SIGN k_NOT k_SUBSET of S_CS hzc S_IDENTIFIER S_INTEGER S_END S_ARCHITECTURE S_COLON S_MINUS_SIGN S_NOT S_SUBSET E_IDENTIFIER od_IDENTIFIER E_INTEGER od_INTEGER E_END od_END E_ARCHITECTURE od_ARCHITECTURE E_COLON od_COLON E_MINUS_SIGN od_MINUS_SIGN E_NOT od_NOT E_SUBSET od_SUBSET [] b211 h230 O244 ) hZ230 (hw _ (List.mem_of_getElem? (i := 70) rfl)) (hw _ (List.mem_of_getElem? (i := 3) rfl)) (by decide) (by decide)) q242a q242c (g := (mkF m 305 #[.val (.int p0), .val (.int p1), .val (.long q2), .second, .val (.int p4), .val (.int p5), .val (.int p6), .val (.int ka200), .val (.int n8), .val (.int s36), .val (.int n10), .val (.int xl203), .val (.int s75), .val (.int ch205), .val (.int ch206), .val (.int d15), .val (.int d16), .val (.int s149), .val (.ref b211), .val (.int xw240), .val .null, .val (.int (0 : Int32))] [.null, (.ref b211)])) rfl (by rw [hml]; rfl) (Steps.refl _) (argsL := [.null]) (rest := []) (lenOf pd_28Ljava2flang2fObject3b29Z rfl) rfl (by show 2 * 0 + _ ≤ _; exact Nat.le_of_eq rfl) (hb hby at_305) (fun _ _ => ⟨rfl, e230, (by decide : 11 + 0 ≤ _), (by decide : 55 + 0 ≤ _)⟩)
              dsimp only [Pt.U, Pt.locs, Pt.cells, Pt.slots] at X242 l242 y242 z242 st242 hQ242
              subst l242 y242 z242
              obtain ⟨rfl, Nq242, e242⟩ := hQ242
              have N245 := Fr.app N237 Nq242
              refine OEnd.of (fun t k => st242.trans k) ?_
              show OEnd p e below _ (T242.setTop (mkF m 308 #[.val (.int p0), .val (.int p1), .val (.long q2), .second, .val (.int p4), .val (.int p5), .val (.int p6), .val (.int ka200), .val (.int n8), .val (.int s36), .val (.int n10), .val (.int xl203), .val (.int s75), .val (.int ch205), .val (.int ch206), .val (.int d15), .val (.int d16), .val (.int s149), .val (.ref b211), .val (.int xw240), .val .null, .val (.int (0 : Int32))] [(.int (0 : Int32))]))
              refine OEnd.of (fun t k => XS.iload X242.here hx rfl (hb hby at_308) rfl k) ?_
              show OEnd p e below _ (T242.setTop (mkF m 310 #[.val (.int p0), .val (.int p1), .val (.long q2), .second, .val (.int p4), .val (.int p5), .val (.int p6), .val (.int ka200), .val (.int n8), .val (.int s36), .val (.int n10), .val (.int xl203), .val (.int s75), .val (.int ch205), .val (.int ch206), .val (.int d15), .val (.int d16), .val (.int s149), .val (.ref b211), .val (.int xw240), .val .null, .val (.int (0 : Int32))] [(.int (0 : Int32)), (.int (0 : Int32))]))
              refine OEnd.of (fun t k => XS.icmpNo X242.here hx rfl (hb hby at_310) rfl (teq rfl).2 k) ?_
              show OEnd p e below _ (T242.setTop (mkF m 313 #[.val (.int p0), .val (.int p1), .val (.long q2), .second, .val (.int p4), .val (.int p5), .val (.int p6), .val (.int ka200), .val (.int n8), .val (.int s36), .val (.int n10), .val (.int xl203), .val (.int s75), .val (.int ch205), .val (.int ch206), .val (.int d15), .val (.int d16), .val (.int s149), .val (.ref b211), .val (.int xw240), .val .null, .val (.int (0 : Int32))] []))
              refine OEnd.of (fun t k => XS.iconst X242.here hx rfl (hb hby at_313) k) ?_
              show OEnd p e below _ (T242.setTop (mkF m 314 #[.val (.int p0), .val (.int p1), .val (.long q2), .second, .val (.int p4), .val (.int p5), .val (.int p6), .val (.int ka200), .val (.int n8), .val (.int s36), .val (.int n10), .val (.int xl203), .val (.int s75), .val (.int ch205), .val (.int ch206), .val (.int d15), .val (.int d16), .val (.int s149), .val (.ref b211), .val (.int xw240), .val .null, .val (.int (0 : Int32))] [(.int (1 : Int32))]))
              refine OEnd.of (fun t k => XS.goto X242.here hx rfl (pc0 := 314) (pc' := 318) rfl (hb hby at_314) (by decide) (by decide) k) ?_
              show OEnd p e below _ (T242.setTop (mkF m 318 #[.val (.int p0), .val (.int p1), .val (.long q2), .second, .val (.int p4), .val (.int p5), .val (.int p6), .val (.int ka200), .val (.int n8), .val (.int s36), .val (.int n10), .val (.int xl203), .val (.int s75), .val (.int ch205), .val (.int ch206), .val (.int d15), .val (.int d16), .val (.int s149), .val (.ref b211), .val (.int xw240), .val .null, .val (.int (0 : Int32))] [(.int (1 : Int32))]))
              have K246 : Keep h0 h230 [] := ((K218.trans Kq224 all0).trans Kq230 (allS (Or.inr (Nat.le_of_eq g211.symm)) all0))
              exact OEnd.retNW X242 hx hlk e242 hh S230 hk230 hEL hZ230 HR239 (t := .boolean) hret (by simp) (hb hby at_318) ⟨rfl, N245, K246⟩ (by decide) (by decide)
            · refine OEnd.of (fun t k => XS.icmpYes X230.here hx rfl (pc0 := 187) (pc' := 199) rfl (hb hby at_187) rfl (feq hc241).2 (by decide) (by decide) k) ?_
              show OEnd p e below _ (T230.setTop (mkF m 199 #[.val (.int p0), .val (.int p1), .val (.long q2), .second, .val (.int p4), .val (.int p5), .val (.int p6), .val (.int ka200), .val (.int n8), .val (.int s36), .val (.int n10), .val (.int xl203), .val (.int s75), .val (.int ch205), .val (.int ch206), .val (.int d15), .val (.int d16), .val (.int s149), .val (.ref b211), .val (.int xw240), .unset, .unset] []))
              refine OEnd.of (fun t k => XS.iload X230.here hx rfl (hb hby at_199) rfl k) ?_
              show OEnd p e below _ (T230.setTop (mkF m 201 #[.val (.int p0), .val (.int p1), .val (.long q2), .second, .val (.int p4), .val (.int p5), .val (.int p6), .val (.int ka200), .val (.int n8), .val (.int s36), .val (.int n10), .val (.int xl203), .val (.int s75), .val (.int ch205), .val (.int ch206), .val (.int d15), .val (.int d16), .val (.int s149), .val (.ref b211), .val (.int xw240), .unset, .unset] [(.int xw240)]))
              refine OEnd.of (fun t k => XS.iconst X230.here hx rfl (hb hby at_201) k) ?_
              show OEnd p e below _ (T230.setTop (mkF m 202 #[.val (.int p0), .val (.int p1), .val (.long q2), .second, .val (.int p4), .val (.int p5), .val (.int p6), .val (.int ka200), .val (.int n8), .val (.int s36), .val (.int n10), .val (.int xl203), .val (.int s75), .val (.int ch205), .val (.int ch206), .val (.int d15), .val (.int d16), .val (.int s149), .val (.ref b211), .val (.int xw240), .unset, .unset] [(.int (2 : Int32)), (.int xw240)]))
              by_cases hc247 : xw240 = (2 : Int32)
              · refine OEnd.of (fun t k => XS.icmpNo X230.here hx rfl (hb hby at_202) rfl (teq hc247).2 k) ?_
                show OEnd p e below _ (T230.setTop (mkF m 205 #[.val (.int p0), .val (.int p1), .val (.long q2), .second, .val (.int p4), .val (.int p5), .val (.int p6), .val (.int ka200), .val (.int n8), .val (.int s36), .val (.int n10), .val (.int xl203), .val (.int s75), .val (.int ch205), .val (.int ch206), .val (.int d15), .val (.int d16), .val (.int s149), .val (.ref b211), .val (.int xw240), .unset, .unset] []))
                refine OEnd.of (fun t k => XS.iload X230.here hx rfl (hb hby at_205) rfl k) ?_
                show OEnd p e below _ (T230.setTop (mkF m 207 #[.val (.int p0), .val (.int p1), .val (.long q2), .second, .val (.int p4), .val (.int p5), .val (.int p6), .val (.int ka200), .val (.int n8), .val (.int s36), .val (.int n10), .val (.int xl203), .val (.int s75), .val (.int ch205), .val (.int ch206), .val (.int d15), .val (.int d16), .val (.int s149), .val (.ref b211), .val (.int xw240), .unset, .unset] [(.int xl203)]))
                refine OEnd.of (fun t k => XS.iload X230.here hx rfl (hb hby at_207) rfl k) ?_
                show OEnd p e below _ (T230.setTop (mkF m 209 #[.val (.int p0), .val (.int p1), .val (.long q2), .second, .val (.int p4), .val (.int p5), .val (.int p6), .val (.int ka200), .val (.int n8), .val (.int s36), .val (.int n10), .val (.int xl203), .val (.int s75), .val (.int ch205), .val (.int ch206), .val (.int d15), .val (.int d16), .val (.int s149), .val (.ref b211), .val (.int xw240), .unset, .unset] [(.int ch205), (.int xl203)]))
                refine OEnd.of (fun t k => XS.iload X230.here hx rfl (hb hby at_209) rfl k) ?_
                show OEnd p e below _ (T230.setTop (mkF m 211 #[.val (.int p0), .val (.int p1), .val (.long q2), .second, .val (.int p4), .val (.int p5), .val (.int p6), .val (.int ka200), .val (.int n8), .val (.int s36), .val (.int n10), .val (.int xl203), .val (.int s75), .val (.int ch205), .val (.int ch206), .val (.int d15), .val (.int d16), .val (.int s149), .val (.ref b211), .val (.int xw240), .unset, .unset] [(.int ch206), (.int ch205), (.int xl203)]))
                have K249 : Keep h224 h230 [b211] := ((Keep.refl h224 [b211]).trans Kq230 (allS (Or.inl (List.mem_of_getElem? (i := 0) rfl)) all0))
                have O250 : Ext Z.heap h230 := own_extKeep O232 K249 (allS f211 all0)
                obtain ⟨_, vq248, ⟨T248, L248, k248, n248⟩, -, X248, S248, G248, ⟨Lc248, hQ248, l248, y248, z248, C248⟩, st248⟩ := callSS X230 hx (y := (⟨"com/example/thorough_topology/thoroughtopology/language/TokenEqualsPinLaw", "text", "(ICC)Ljava/lang/String;"⟩ : MethodName)) hown230 (mvT hZ230 (hw _ (List.mem_of_getElem? (i := 11) rfl))) (mvT hZ230 (hw _ (List.mem_of_getElem? (i := 12) rfl))) (mvT hZ230 (hw _ (List.mem_of_getElem? (i := 6) rfl))) (mvT hZ230 (hw _ (List.mem_of_getElem? (i := 13) rfl))) (by decide) (backOfSH (W := 0) (rmMk l Z a0 hw zc k_IDENTIFIER k_INTEGER k_END k_ARCHITECTURE k_COLON k_MINUS_SIGN k_NOT k_SUBSET of S_CS hzc S_IDENTIFIER S_INTEGER S_END S_ARCHITECTURE S_COLON S_MINUS_SIGN S_NOT S_SUBSET E_IDENTIFIER od_IDENTIFIER E_INTEGER od_INTEGER E_END od_END E_ARCHITECTURE od_ARCHITECTURE E_COLON od_COLON E_MINUS_SIGN od_MINUS_SIGN E_NOT od_NOT E_SUBSET od_SUBSET hEL [] xl203 ch205 ch206 h230 O250 hch_ch205 hch_ch206) hZ230 (hw _ (List.mem_of_getElem? (i := 13) rfl)) (hw _ (List.mem_of_getElem? (i := 6) rfl)) (by decide) (by decide) hEL HR239.1) (g := (mkF m 211 #[.val (.int p0), .val (.int p1), .val (.long q2), .second, .val (.int p4), .val (.int p5), .val (.int p6), .val (.int ka200), .val (.int n8), .val (.int s36), .val (.int n10), .val (.int xl203), .val (.int s75), .val (.int ch205), .val (.int ch206), .val (.int d15), .val (.int d16), .val (.int s149), .val (.ref b211), .val (.int xw240), .unset, .unset] [(.int ch206), (.int ch205), (.int xl203)])) rfl (by rw [hml]; rfl) (argsL := [(.int xl203), (.int ch205), (.int ch206)]) (rest := []) (lenOf pd_28ICC29Ljava2flang2fString3b rfl) rfl (by show 2 * 0 + _ ≤ _; exact Nat.le_of_eq rfl) (hb hby at_211) (fun _ _ => ⟨rfl, e230, (by decide : 11 + 6 ≤ _), (by decide : 55 + 12 ≤ _)⟩)
                dsimp only [Pt.U, Pt.locs, Pt.cells, Pt.slots] at X248 l248 y248 z248 st248 hQ248 S248 G248 C248
                subst l248 y248 z248
                obtain ⟨h248, e248⟩ : ∃ z, T248.heap = z := ⟨_, rfl⟩
                rw [e248] at hQ248 C248
                obtain ⟨r_251, rfl, Nq248, Kq248, S_252⟩ := hQ248
                have N253 := Fr.app N237 Nq248
                obtain ⟨X248, S248, hZ248, hown248⟩ := rebS S230 (by rw [e230]; exact hk230) X248 S248 G248 hZ230 hown230
                rw [e248] at S248
                have hk248 : h248.size ≤ h248.size := Nat.le_refl _
                have CR254 : CHr Z EL T230.vm h230 T248.vm h248 := C248
                have HR255 : CHr Z EL s.vm h0 T248.vm h248 := HR239.trans CR254
                refine OEnd.of (fun t k => st248.trans k) ?_
                show OEnd p e below _ (T248.setTop (mkF m 214 #[.val (.int p0), .val (.int p1), .val (.long q2), .second, .val (.int p4), .val (.int p5), .val (.int p6), .val (.int ka200), .val (.int n8), .val (.int s36), .val (.int n10), .val (.int xl203), .val (.int s75), .val (.int ch205), .val (.int ch206), .val (.int d15), .val (.int d16), .val (.int s149), .val (.ref b211), .val (.int xw240), .unset, .unset] [(.ref r_251)]))
                have Ert := (S_252).1
                refine OEnd.of (fun t k => XS.astore X248.here hx rfl (hb hby at_214) rfl rfl (l' := #[.val (.int p0), .val (.int p1), .val (.long q2), .second, .val (.int p4), .val (.int p5), .val (.int p6), .val (.int ka200), .val (.int n8), .val (.int s36), .val (.int n10), .val (.int xl203), .val (.int s75), .val (.int ch205), .val (.int ch206), .val (.int d15), .val (.int d16), .val (.int s149), .val (.ref b211), .val (.int xw240), .val (.ref r_251), .unset]) rfl k) ?_
                show OEnd p e below _ (T248.setTop (mkF m 216 #[.val (.int p0), .val (.int p1), .val (.long q2), .second, .val (.int p4), .val (.int p5), .val (.int p6), .val (.int ka200), .val (.int n8), .val (.int s36), .val (.int n10), .val (.int xl203), .val (.int s75), .val (.int ch205), .val (.int ch206), .val (.int d15), .val (.int d16), .val (.int s149), .val (.ref b211), .val (.int xw240), .val (.ref r_251), .unset] []))
                refine OEnd.of (fun t k => XS.iconst X248.here hx rfl (hb hby at_216) k) ?_
                show OEnd p e below _ (T248.setTop (mkF m 217 #[.val (.int p0), .val (.int p1), .val (.long q2), .second, .val (.int p4), .val (.int p5), .val (.int p6), .val (.int ka200), .val (.int n8), .val (.int s36), .val (.int n10), .val (.int xl203), .val (.int s75), .val (.int ch205), .val (.int ch206), .val (.int d15), .val (.int d16), .val (.int s149), .val (.ref b211), .val (.int xw240), .val (.ref r_251), .unset] [(.int (0 : Int32))]))
                refine OEnd.of (fun t k => XS.istore X248.here hx rfl (hb hby at_217) rfl (l' := #[.val (.int p0), .val (.int p1), .val (.long q2), .second, .val (.int p4), .val (.int p5), .val (.int p6), .val (.int ka200), .val (.int n8), .val (.int s36), .val (.int n10), .val (.int xl203), .val (.int s75), .val (.int ch205), .val (.int ch206), .val (.int d15), .val (.int d16), .val (.int s149), .val (.ref b211), .val (.int xw240), .val (.ref r_251), .val (.int (0 : Int32))]) rfl k) ?_
                show OEnd p e below _ (T248.setTop (mkF m 219 #[.val (.int p0), .val (.int p1), .val (.long q2), .second, .val (.int p4), .val (.int p5), .val (.int p6), .val (.int ka200), .val (.int n8), .val (.int s36), .val (.int n10), .val (.int xl203), .val (.int s75), .val (.int ch205), .val (.int ch206), .val (.int d15), .val (.int d16), .val (.int s149), .val (.ref b211), .val (.int xw240), .val (.ref r_251), .val (.int (0 : Int32))] []))
                refine OEnd.of (fun t k => XS.goto X248.here hx rfl (pc0 := 219) (pc' := 301) rfl (hb hby at_219) (by decide) (by decide) k) ?_
                show OEnd p e below _ (T248.setTop (mkF m 301 #[.val (.int p0), .val (.int p1), .val (.long q2), .second, .val (.int p4), .val (.int p5), .val (.int p6), .val (.int ka200), .val (.int n8), .val (.int s36), .val (.int n10), .val (.int xl203), .val (.int s75), .val (.int ch205), .val (.int ch206), .val (.int d15), .val (.int d16), .val (.int s149), .val (.ref b211), .val (.int xw240), .val (.ref r_251), .val (.int (0 : Int32))] []))
                refine OEnd.of (fun t k => XS.aload X248.here hx rfl (hb hby at_301) rfl rfl k) ?_
                show OEnd p e below _ (T248.setTop (mkF m 303 #[.val (.int p0), .val (.int p1), .val (.long q2), .second, .val (.int p4), .val (.int p5), .val (.int p6), .val (.int ka200), .val (.int n8), .val (.int s36), .val (.int n10), .val (.int xl203), .val (.int s75), .val (.int ch205), .val (.int ch206), .val (.int d15), .val (.int d16), .val (.int s149), .val (.ref b211), .val (.int xw240), .val (.ref r_251), .val (.int (0 : Int32))] [(.ref b211)]))
                refine OEnd.of (fun t k => XS.aload X248.here hx rfl (hb hby at_303) rfl rfl k) ?_
                show OEnd p e below _ (T248.setTop (mkF m 305 #[.val (.int p0), .val (.int p1), .val (.long q2), .second, .val (.int p4), .val (.int p5), .val (.int p6), .val (.int ka200), .val (.int n8), .val (.int s36), .val (.int n10), .val (.int xl203), .val (.int s75), .val (.int ch205), .val (.int ch206), .val (.int d15), .val (.int d16), .val (.int s149), .val (.ref b211), .val (.int xw240), .val (.ref r_251), .val (.int (0 : Int32))] [(.ref r_251), (.ref b211)]))
                have K257 : Keep h230 h248 [] := ((Keep.refl h230 []).trans Kq248 all0)
                have O258 : Ext Z.heap h248 := own_extKeep O250 K257 all0
                obtain ⟨cq256, kq256, q256a, q256b, q256c⟩ := isOf hZ248 e248 (E_233.keep K257)
                obtain ⟨_, _, ⟨T256, L256, k256, n256⟩, -, X256, ⟨Lc256, hQ256, l256, y256, z256⟩, st256⟩ := X248.virtualBack hx (y := (⟨"com/example/thorough_topology/thoroughtopology/language/Token", "equals", "(Ljava/lang/Object;)Z"⟩ : MethodName)) (z := (⟨"com/example/thorough_topology/thoroughtopology/language/Token", "equals", "(Ljava/lang/Object;)Z"⟩ : MethodName)) hown248 (mvT hZ248 (hw _ (List.mem_of_getElem? (i := 66) rfl))) (mvT hZ248 (hw _ (List.mem_of_getElem? (i := 67) rfl))) (notFace_of_selects (args := #[]) (mvT hZ248 (hw _ (List.mem_of_getElem? (i := 69) rfl)))) (mvT hZ248 (hw _ (List.mem_of_getElem? (i := 69) rfl))) (mvT hZ248 (hw _ (List.mem_of_getElem? (i := 68) rfl))) (by decide) (backOf (W := 0) (rmEqS l Z a0 hw zc k_IDENTIFIER k_INTEGER k_END k_ARCHITECTURE k_COLON k_MINUS_SIGN k_NOT k_SUBSET of S_CS hzc S_IDENTIFIER S_INTEGER S_END S_ARCHITECTURE S_COLON S_MINUS_SIGN S_NOT S_SUBSET E_IDENTIFIER od_IDENTIFIER E_INTEGER od_INTEGER E_END od_END E_ARCHITECTURE od_ARCHITECTURE E_COLON od_COLON E_MINUS_SIGN od_MINUS_SIGN E_NOT od_NOT E_SUBSET od_SUBSET [] b211 r_251 h248 O258 Ert) hZ248 (hw _ (List.mem_of_getElem? (i := 70) rfl)) (hw _ (List.mem_of_getElem? (i := 3) rfl)) (by decide) (by decide)) q256a q256c (g := (mkF m 305 #[.val (.int p0), .val (.int p1), .val (.long q2), .second, .val (.int p4), .val (.int p5), .val (.int p6), .val (.int ka200), .val (.int n8), .val (.int s36), .val (.int n10), .val (.int xl203), .val (.int s75), .val (.int ch205), .val (.int ch206), .val (.int d15), .val (.int d16), .val (.int s149), .val (.ref b211), .val (.int xw240), .val (.ref r_251), .val (.int (0 : Int32))] [(.ref r_251), (.ref b211)])) rfl (by rw [hml]; rfl) (Steps.refl _) (argsL := [(.ref r_251)]) (rest := []) (lenOf pd_28Ljava2flang2fObject3b29Z rfl) rfl (by show 2 * 0 + _ ≤ _; exact Nat.le_of_eq rfl) (hb hby at_305) (fun _ _ => ⟨rfl, e248, (by decide : 17 + 0 ≤ _), (by decide : 67 + 0 ≤ _)⟩)
                dsimp only [Pt.U, Pt.locs, Pt.cells, Pt.slots] at X256 l256 y256 z256 st256 hQ256
                subst l256 y256 z256
                obtain ⟨rfl, Nq256, e256⟩ := hQ256
                have N259 := Fr.app N253 Nq256
                refine OEnd.of (fun t k => st256.trans k) ?_
                show OEnd p e below _ (T256.setTop (mkF m 308 #[.val (.int p0), .val (.int p1), .val (.long q2), .second, .val (.int p4), .val (.int p5), .val (.int p6), .val (.int ka200), .val (.int n8), .val (.int s36), .val (.int n10), .val (.int xl203), .val (.int s75), .val (.int ch205), .val (.int ch206), .val (.int d15), .val (.int d16), .val (.int s149), .val (.ref b211), .val (.int xw240), .val (.ref r_251), .val (.int (0 : Int32))] [(.int (0 : Int32))]))
                refine OEnd.of (fun t k => XS.iload X256.here hx rfl (hb hby at_308) rfl k) ?_
                show OEnd p e below _ (T256.setTop (mkF m 310 #[.val (.int p0), .val (.int p1), .val (.long q2), .second, .val (.int p4), .val (.int p5), .val (.int p6), .val (.int ka200), .val (.int n8), .val (.int s36), .val (.int n10), .val (.int xl203), .val (.int s75), .val (.int ch205), .val (.int ch206), .val (.int d15), .val (.int d16), .val (.int s149), .val (.ref b211), .val (.int xw240), .val (.ref r_251), .val (.int (0 : Int32))] [(.int (0 : Int32)), (.int (0 : Int32))]))
                refine OEnd.of (fun t k => XS.icmpNo X256.here hx rfl (hb hby at_310) rfl (teq rfl).2 k) ?_
                show OEnd p e below _ (T256.setTop (mkF m 313 #[.val (.int p0), .val (.int p1), .val (.long q2), .second, .val (.int p4), .val (.int p5), .val (.int p6), .val (.int ka200), .val (.int n8), .val (.int s36), .val (.int n10), .val (.int xl203), .val (.int s75), .val (.int ch205), .val (.int ch206), .val (.int d15), .val (.int d16), .val (.int s149), .val (.ref b211), .val (.int xw240), .val (.ref r_251), .val (.int (0 : Int32))] []))
                refine OEnd.of (fun t k => XS.iconst X256.here hx rfl (hb hby at_313) k) ?_
                show OEnd p e below _ (T256.setTop (mkF m 314 #[.val (.int p0), .val (.int p1), .val (.long q2), .second, .val (.int p4), .val (.int p5), .val (.int p6), .val (.int ka200), .val (.int n8), .val (.int s36), .val (.int n10), .val (.int xl203), .val (.int s75), .val (.int ch205), .val (.int ch206), .val (.int d15), .val (.int d16), .val (.int s149), .val (.ref b211), .val (.int xw240), .val (.ref r_251), .val (.int (0 : Int32))] [(.int (1 : Int32))]))
                refine OEnd.of (fun t k => XS.goto X256.here hx rfl (pc0 := 314) (pc' := 318) rfl (hb hby at_314) (by decide) (by decide) k) ?_
                show OEnd p e below _ (T256.setTop (mkF m 318 #[.val (.int p0), .val (.int p1), .val (.long q2), .second, .val (.int p4), .val (.int p5), .val (.int p6), .val (.int ka200), .val (.int n8), .val (.int s36), .val (.int n10), .val (.int xl203), .val (.int s75), .val (.int ch205), .val (.int ch206), .val (.int d15), .val (.int d16), .val (.int s149), .val (.ref b211), .val (.int xw240), .val (.ref r_251), .val (.int (0 : Int32))] [(.int (1 : Int32))]))
                have K260 : Keep h0 h248 [] := (((K218.trans Kq224 all0).trans Kq230 (allS (Or.inr (Nat.le_of_eq g211.symm)) all0)).trans Kq248 all0)
                exact OEnd.retNW X256 hx hlk e256 hh S248 hk248 hEL hZ248 HR255 (t := .boolean) hret (by simp) (hb hby at_318) ⟨rfl, N259, K260⟩ (by decide) (by decide)
              · refine OEnd.of (fun t k => XS.icmpYes X230.here hx rfl (pc0 := 202) (pc' := 222) rfl (hb hby at_202) rfl (feq hc247).2 (by decide) (by decide) k) ?_
                show OEnd p e below _ (T230.setTop (mkF m 222 #[.val (.int p0), .val (.int p1), .val (.long q2), .second, .val (.int p4), .val (.int p5), .val (.int p6), .val (.int ka200), .val (.int n8), .val (.int s36), .val (.int n10), .val (.int xl203), .val (.int s75), .val (.int ch205), .val (.int ch206), .val (.int d15), .val (.int d16), .val (.int s149), .val (.ref b211), .val (.int xw240), .unset, .unset] []))
                have K262 : Keep h224 h230 [b211] := ((Keep.refl h224 [b211]).trans Kq230 (allS (Or.inl (List.mem_of_getElem? (i := 0) rfl)) all0))
                have O263 : Ext Z.heap h230 := own_extKeep O232 K262 (allS f211 all0)
                obtain ⟨T261, h261, X261, e261, E261, A261, D261, -, st261⟩ := newO X230 hx hZ230 hown230 (hw _ (List.mem_of_getElem? (i := 1) rfl)) (hw _ (List.mem_of_getElem? (i := 2) rfl)) (hw _ (List.mem_of_getElem? (i := 3) rfl)) e230 (g := (mkF m 222 #[.val (.int p0), .val (.int p1), .val (.long q2), .second, .val (.int p4), .val (.int p5), .val (.int p6), .val (.int ka200), .val (.int n8), .val (.int s36), .val (.int n10), .val (.int xl203), .val (.int s75), .val (.int ch205), .val (.int ch206), .val (.int d15), .val (.int d16), .val (.int s149), .val (.ref b211), .val (.int xw240), .unset, .unset] [])) rfl (hb hby at_222) (by decide) (by decide)
                obtain ⟨b261, g261⟩ : ∃ z, z = h230.size := ⟨_, rfl⟩
                rw [← g261] at A261 D261 st261
                refine OEnd.of st261 ?_
                have f261 : Z.heap.size ≤ b261 := Nat.le_trans O263.1 (Nat.le_of_eq g261.symm)
                have F264 : Fld Z h261 b261 "com/example/thorough_topology/thoroughtopology/language/Token" "kind" "Lcom/example/thorough_topology/thoroughtopology/language/TokenKind;" .null := D261 (Or.inr (hw _ (List.mem_of_getElem? (i := 58) rfl))) (ty := (.object "com/example/thorough_topology/thoroughtopology/language/TokenKind")) (by decide)
                have F265 : Fld Z h261 b261 "com/example/thorough_topology/thoroughtopology/language/Token" "text" "Ljava/lang/String;" .null := D261 (Or.inr (hw _ (List.mem_of_getElem? (i := 62) rfl))) (ty := (.object "java/lang/String")) (by decide)
                have F266 : Fld Z h261 b261 "com/example/thorough_topology/thoroughtopology/language/Token" "line" "I" (.int (0 : Int32)) := D261 (Or.inr (hw _ (List.mem_of_getElem? (i := 64) rfl))) (ty := .int) (by decide)
                have CR267 : CHr Z EL T230.vm h230 T230.vm h261 := CHr.ext E261 HR239.1
                have HR268 : CHr Z EL s.vm h0 T230.vm h261 := HR239.trans CR267
                show OEnd p e below _ (T261.setTop (mkF m 225 #[.val (.int p0), .val (.int p1), .val (.long q2), .second, .val (.int p4), .val (.int p5), .val (.int p6), .val (.int ka200), .val (.int n8), .val (.int s36), .val (.int n10), .val (.int xl203), .val (.int s75), .val (.int ch205), .val (.int ch206), .val (.int d15), .val (.int d16), .val (.int s149), .val (.ref b211), .val (.int xw240), .unset, .unset] [(.ref b261)]))
                refine OEnd.of (fun t k => XS.dup X261.here hx rfl (hb hby at_225) rfl rfl k) ?_
                show OEnd p e below _ (T261.setTop (mkF m 226 #[.val (.int p0), .val (.int p1), .val (.long q2), .second, .val (.int p4), .val (.int p5), .val (.int p6), .val (.int ka200), .val (.int n8), .val (.int s36), .val (.int n10), .val (.int xl203), .val (.int s75), .val (.int ch205), .val (.int ch206), .val (.int d15), .val (.int d16), .val (.int s149), .val (.ref b211), .val (.int xw240), .unset, .unset] [(.ref b261), (.ref b261)]))
                refine OEnd.of (fun t k => XS.iload X261.here hx rfl (hb hby at_226) rfl k) ?_
                show OEnd p e below _ (T261.setTop (mkF m 228 #[.val (.int p0), .val (.int p1), .val (.long q2), .second, .val (.int p4), .val (.int p5), .val (.int p6), .val (.int ka200), .val (.int n8), .val (.int s36), .val (.int n10), .val (.int xl203), .val (.int s75), .val (.int ch205), .val (.int ch206), .val (.int d15), .val (.int d16), .val (.int s149), .val (.ref b211), .val (.int xw240), .unset, .unset] [(.int s36), (.ref b261), (.ref b261)]))
                have K270 : Keep h230 h261 [] := ((Keep.refl h230 []).ext E261)
                have O271 : Ext Z.heap h261 := own_extKeep O263 K270 all0
                obtain ⟨_, _, ⟨T269, L269, k269, n269⟩, -, X269, ⟨Lc269, hQ269, l269, y269, z269⟩, st269⟩ := Jvm.LawKit.callS X261 hx (y := (⟨"com/example/thorough_topology/thoroughtopology/language/TokenEqualsPinLaw", "kindOf", "(I)Lcom/example/thorough_topology/thoroughtopology/language/TokenKind;"⟩ : MethodName)) hown230 (mvT hZ230 (hw _ (List.mem_of_getElem? (i := 4) rfl))) (mvT hZ230 (hw _ (List.mem_of_getElem? (i := 5) rfl))) (mvT hZ230 (hw _ (List.mem_of_getElem? (i := 6) rfl))) (mvT hZ230 (hw _ (List.mem_of_getElem? (i := 7) rfl))) (by decide) (backOf (W := 2) (rmKind l Z a0 hw zc k_IDENTIFIER k_INTEGER k_END k_ARCHITECTURE k_COLON k_MINUS_SIGN k_NOT k_SUBSET of S_CS hzc S_IDENTIFIER S_INTEGER S_END S_ARCHITECTURE S_COLON S_MINUS_SIGN S_NOT S_SUBSET E_IDENTIFIER od_IDENTIFIER E_INTEGER od_INTEGER E_END od_END E_ARCHITECTURE od_ARCHITECTURE E_COLON od_COLON E_MINUS_SIGN od_MINUS_SIGN E_NOT od_NOT E_SUBSET od_SUBSET [] s36 h261 O271 ) hZ230 (hw _ (List.mem_of_getElem? (i := 7) rfl)) (hw _ (List.mem_of_getElem? (i := 6) rfl)) (by decide) (by decide)) (g := (mkF m 228 #[.val (.int p0), .val (.int p1), .val (.long q2), .second, .val (.int p4), .val (.int p5), .val (.int p6), .val (.int ka200), .val (.int n8), .val (.int s36), .val (.int n10), .val (.int xl203), .val (.int s75), .val (.int ch205), .val (.int ch206), .val (.int d15), .val (.int d16), .val (.int s149), .val (.ref b211), .val (.int xw240), .unset, .unset] [(.int s36), (.ref b261), (.ref b261)])) rfl (by rw [hml]; rfl) (argsL := [(.int s36)]) (rest := [(.ref b261), (.ref b261)]) (lenOf pd_28I29Lcom2fexample2fthorough_topology2fthoroughtopology2flanguage2fTokenKind3b rfl) rfl (by show 2 * 0 + _ ≤ _; exact Nat.le_of_eq rfl) (hb hby at_228) (fun _ _ => ⟨rfl, e261, (by decide : 12 + 0 ≤ _), (by decide : 58 + 0 ≤ _)⟩)
                dsimp only [Pt.U, Pt.locs, Pt.cells, Pt.slots] at X269 l269 y269 z269 st269 hQ269
                subst l269 y269 z269
                obtain ⟨kk_272, rfl, Nq269, e269, Ek_273, hk_274⟩ := hQ269
                rw [e269] at Ek_273
                have N275 := Fr.app N237 Nq269
                refine OEnd.of st269 ?_
                show OEnd p e below _ (T269.setTop (mkF m 231 #[.val (.int p0), .val (.int p1), .val (.long q2), .second, .val (.int p4), .val (.int p5), .val (.int p6), .val (.int ka200), .val (.int n8), .val (.int s36), .val (.int n10), .val (.int xl203), .val (.int s75), .val (.int ch205), .val (.int ch206), .val (.int d15), .val (.int d16), .val (.int s149), .val (.ref b211), .val (.int xw240), .unset, .unset] [(.ref kk_272), (.ref b261), (.ref b261)]))
                refine OEnd.of (fun t k => XS.iload X269.here hx rfl (hb hby at_231) rfl k) ?_
                show OEnd p e below _ (T269.setTop (mkF m 233 #[.val (.int p0), .val (.int p1), .val (.long q2), .second, .val (.int p4), .val (.int p5), .val (.int p6), .val (.int ka200), .val (.int n8), .val (.int s36), .val (.int n10), .val (.int xl203), .val (.int s75), .val (.int ch205), .val (.int ch206), .val (.int d15), .val (.int d16), .val (.int s149), .val (.ref b211), .val (.int xw240), .unset, .unset] [(.int s75), (.ref kk_272), (.ref b261), (.ref b261)]))
                refine OEnd.of (fun t k => XS.iload X269.here hx rfl (hb hby at_233) rfl k) ?_
                show OEnd p e below _ (T269.setTop (mkF m 235 #[.val (.int p0), .val (.int p1), .val (.long q2), .second, .val (.int p4), .val (.int p5), .val (.int p6), .val (.int ka200), .val (.int n8), .val (.int s36), .val (.int n10), .val (.int xl203), .val (.int s75), .val (.int ch205), .val (.int ch206), .val (.int d15), .val (.int d16), .val (.int s149), .val (.ref b211), .val (.int xw240), .unset, .unset] [(.int d15), (.int s75), (.ref kk_272), (.ref b261), (.ref b261)]))
                refine OEnd.of (fun t k => XS.iload X269.here hx rfl (hb hby at_235) rfl k) ?_
                show OEnd p e below _ (T269.setTop (mkF m 237 #[.val (.int p0), .val (.int p1), .val (.long q2), .second, .val (.int p4), .val (.int p5), .val (.int p6), .val (.int ka200), .val (.int n8), .val (.int s36), .val (.int n10), .val (.int xl203), .val (.int s75), .val (.int ch205), .val (.int ch206), .val (.int d15), .val (.int d16), .val (.int s149), .val (.ref b211), .val (.int xw240), .unset, .unset] [(.int d16), (.int d15), (.int s75), (.ref kk_272), (.ref b261), (.ref b261)]))
                obtain ⟨_, vq276, ⟨T276, L276, k276, n276⟩, -, X276, S276, G276, ⟨Lc276, hQ276, l276, y276, z276, C276⟩, st276⟩ := callSS X269 hx (y := (⟨"com/example/thorough_topology/thoroughtopology/language/TokenEqualsPinLaw", "text", "(ICC)Ljava/lang/String;"⟩ : MethodName)) hown230 (mvT hZ230 (hw _ (List.mem_of_getElem? (i := 11) rfl))) (mvT hZ230 (hw _ (List.mem_of_getElem? (i := 12) rfl))) (mvT hZ230 (hw _ (List.mem_of_getElem? (i := 6) rfl))) (mvT hZ230 (hw _ (List.mem_of_getElem? (i := 13) rfl))) (by decide) (backOfSH (W := 3) (rmMk l Z a0 hw zc k_IDENTIFIER k_INTEGER k_END k_ARCHITECTURE k_COLON k_MINUS_SIGN k_NOT k_SUBSET of S_CS hzc S_IDENTIFIER S_INTEGER S_END S_ARCHITECTURE S_COLON S_MINUS_SIGN S_NOT S_SUBSET E_IDENTIFIER od_IDENTIFIER E_INTEGER od_INTEGER E_END od_END E_ARCHITECTURE od_ARCHITECTURE E_COLON od_COLON E_MINUS_SIGN od_MINUS_SIGN E_NOT od_NOT E_SUBSET od_SUBSET hEL [] s75 d15 d16 h261 O271 h15 h16) hZ230 (hw _ (List.mem_of_getElem? (i := 13) rfl)) (hw _ (List.mem_of_getElem? (i := 6) rfl)) (by decide) (by decide) hEL HR268.1) (g := (mkF m 237 #[.val (.int p0), .val (.int p1), .val (.long q2), .second, .val (.int p4), .val (.int p5), .val (.int p6), .val (.int ka200), .val (.int n8), .val (.int s36), .val (.int n10), .val (.int xl203), .val (.int s75), .val (.int ch205), .val (.int ch206), .val (.int d15), .val (.int d16), .val (.int s149), .val (.ref b211), .val (.int xw240), .unset, .unset] [(.int d16), (.int d15), (.int s75), (.ref kk_272), (.ref b261), (.ref b261)])) rfl (by rw [hml]; rfl) (argsL := [(.int s75), (.int d15), (.int d16)]) (rest := [(.ref kk_272), (.ref b261), (.ref b261)]) (lenOf pd_28ICC29Ljava2flang2fString3b rfl) rfl (by show 2 * 0 + _ ≤ _; exact Nat.le_of_eq rfl) (hb hby at_237) (fun _ _ => ⟨rfl, e269, (by decide : 12 + 6 ≤ _), (by decide : 58 + 12 ≤ _)⟩)
                dsimp only [Pt.U, Pt.locs, Pt.cells, Pt.slots] at X276 l276 y276 z276 st276 hQ276 S276 G276 C276
                subst l276 y276 z276
                obtain ⟨h276, e276⟩ : ∃ z, T276.heap = z := ⟨_, rfl⟩
                rw [e276] at hQ276 C276
                obtain ⟨r_277, rfl, Nq276, Kq276, S_278⟩ := hQ276
                have N279 := Fr.app N275 Nq276
                obtain ⟨X276, S276, hZ276, hown276⟩ := rebS S230 (by rw [e269]; exact (Nat.le_trans hk230 K270.1)) X276 S276 G276 hZ230 hown230
                rw [e276] at S276
                have hk276 : h276.size ≤ h276.size := Nat.le_refl _
                have CR280 : CHr Z EL T230.vm h261 T276.vm h276 := C276
                have HR281 : CHr Z EL s.vm h0 T276.vm h276 := HR268.trans CR280
                refine OEnd.of (fun t k => st276.trans k) ?_
                show OEnd p e below _ (T276.setTop (mkF m 240 #[.val (.int p0), .val (.int p1), .val (.long q2), .second, .val (.int p4), .val (.int p5), .val (.int p6), .val (.int ka200), .val (.int n8), .val (.int s36), .val (.int n10), .val (.int xl203), .val (.int s75), .val (.int ch205), .val (.int ch206), .val (.int d15), .val (.int d16), .val (.int s149), .val (.ref b211), .val (.int xw240), .unset, .unset] [(.ref r_277), (.ref kk_272), (.ref b261), (.ref b261)]))
                refine OEnd.of (fun t k => XS.iload X276.here hx rfl (hb hby at_240) rfl k) ?_
                show OEnd p e below _ (T276.setTop (mkF m 242 #[.val (.int p0), .val (.int p1), .val (.long q2), .second, .val (.int p4), .val (.int p5), .val (.int p6), .val (.int ka200), .val (.int n8), .val (.int s36), .val (.int n10), .val (.int xl203), .val (.int s75), .val (.int ch205), .val (.int ch206), .val (.int d15), .val (.int d16), .val (.int s149), .val (.ref b211), .val (.int xw240), .unset, .unset] [(.int s149), (.ref r_277), (.ref kk_272), (.ref b261), (.ref b261)]))
                have K283 : Keep h261 h276 [] := ((Keep.refl h261 []).trans Kq276 all0)
                have O284 : Ext Z.heap h276 := own_extKeep O271 K283 all0
                obtain ⟨_, vq282, ⟨T282, L282, k282, n282⟩, -, X282, S282, G282, ⟨Lc282, hQ282, l282, y282, z282, C282⟩, st282⟩ := X276.specialBackS hx (y := (⟨"com/example/thorough_topology/thoroughtopology/language/Token", "<init>", "(Lcom/example/thorough_topology/thoroughtopology/language/TokenKind;Ljava/lang/String;I)V"⟩ : MethodName)) rfl hown276 (mvT hZ276 (hw _ (List.mem_of_getElem? (i := 44) rfl))) (mvT hZ276 (hw _ (List.mem_of_getElem? (i := 45) rfl))) (mvT hZ276 (hw _ (List.mem_of_getElem? (i := 46) rfl))) (by decide) (backOfSH (W := 1) (rmTok l Z a0 hw zc k_IDENTIFIER k_INTEGER k_END k_ARCHITECTURE k_COLON k_MINUS_SIGN k_NOT k_SUBSET of S_CS hzc S_IDENTIFIER S_INTEGER S_END S_ARCHITECTURE S_COLON S_MINUS_SIGN S_NOT S_SUBSET E_IDENTIFIER od_IDENTIFIER E_INTEGER od_INTEGER E_END od_END E_ARCHITECTURE od_ARCHITECTURE E_COLON od_COLON E_MINUS_SIGN od_MINUS_SIGN E_NOT od_NOT E_SUBSET od_SUBSET hEL [] b261 kk_272 r_277 s149 (own_mk s75 d15 d16) h276 O284 (A261.keep K283) (F264.keep K283 nin0) (F265.keep K283 nin0) (F266.keep K283 nin0) f261 (Ek_273.keep K283) S_278) hZ276 (hw _ (List.mem_of_getElem? (i := 46) rfl)) (hw _ (List.mem_of_getElem? (i := 3) rfl)) (by decide) (by decide) hEL HR281.1) (g := (mkF m 242 #[.val (.int p0), .val (.int p1), .val (.long q2), .second, .val (.int p4), .val (.int p5), .val (.int p6), .val (.int ka200), .val (.int n8), .val (.int s36), .val (.int n10), .val (.int xl203), .val (.int s75), .val (.int ch205), .val (.int ch206), .val (.int d15), .val (.int d16), .val (.int s149), .val (.ref b211), .val (.int xw240), .unset, .unset] [(.int s149), (.ref r_277), (.ref kk_272), (.ref b261), (.ref b261)])) rfl (by rw [hml]; rfl) (Steps.refl _) (a := b261) (argsL := [(.ref kk_272), (.ref r_277), (.int s149)]) (rest := [(.ref b261)]) (lenOf pd_28Lcom2fexample2fthorough_topology2fthoroughtopology2flanguage2fTokenKind3bLjava2flang2fString3bI29V rfl) rfl (by show 2 * 0 + _ ≤ _; exact Nat.le_of_eq rfl) (hb hby at_242) (fun _ _ => ⟨rfl, e276, (by decide : 18 + 4 ≤ _), (by decide : 70 + 40 ≤ _)⟩)
                dsimp only [Pt.U, Pt.locs, Pt.cells, Pt.slots] at X282 l282 y282 z282 st282 hQ282 S282 G282 C282
                subst l282 y282 z282
                obtain ⟨h282, e282⟩ : ∃ z, T282.heap = z := ⟨_, rfl⟩
                rw [e282] at hQ282 C282
                obtain ⟨rfl, Nq282, Kq282, E_285, Fk_286, Ft_287, Fl_288⟩ := hQ282
                have N289 := Fr.app N279 Nq282
                obtain ⟨X282, S282, hZ282, hown282⟩ := rebS S276 (by rw [e276]; exact hk276) X282 S282 G282 hZ276 hown276
                rw [e282] at S282
                have hk282 : h282.size ≤ h282.size := Nat.le_refl _
                have CR290 : CHr Z EL T276.vm h276 T282.vm h282 := C282
                have HR291 : CHr Z EL s.vm h0 T282.vm h282 := HR281.trans CR290
                refine OEnd.of (fun t k => st282.trans k) ?_
                show OEnd p e below _ (T282.setTop (mkF m 245 #[.val (.int p0), .val (.int p1), .val (.long q2), .second, .val (.int p4), .val (.int p5), .val (.int p6), .val (.int ka200), .val (.int n8), .val (.int s36), .val (.int n10), .val (.int xl203), .val (.int s75), .val (.int ch205), .val (.int ch206), .val (.int d15), .val (.int d16), .val (.int s149), .val (.ref b211), .val (.int xw240), .unset, .unset] [(.ref b261)]))
                refine OEnd.of (fun t k => XS.astore X282.here hx rfl (hb hby at_245) rfl rfl (l' := #[.val (.int p0), .val (.int p1), .val (.long q2), .second, .val (.int p4), .val (.int p5), .val (.int p6), .val (.int ka200), .val (.int n8), .val (.int s36), .val (.int n10), .val (.int xl203), .val (.int s75), .val (.int ch205), .val (.int ch206), .val (.int d15), .val (.int d16), .val (.int s149), .val (.ref b211), .val (.int xw240), .val (.ref b261), .unset]) rfl k) ?_
                show OEnd p e below _ (T282.setTop (mkF m 247 #[.val (.int p0), .val (.int p1), .val (.long q2), .second, .val (.int p4), .val (.int p5), .val (.int p6), .val (.int ka200), .val (.int n8), .val (.int s36), .val (.int n10), .val (.int xl203), .val (.int s75), .val (.int ch205), .val (.int ch206), .val (.int d15), .val (.int d16), .val (.int s149), .val (.ref b211), .val (.int xw240), .val (.ref b261), .unset] []))
                refine OEnd.of (fun t k => XS.iload X282.here hx rfl (hb hby at_247) rfl k) ?_
                show OEnd p e below _ (T282.setTop (mkF m 249 #[.val (.int p0), .val (.int p1), .val (.long q2), .second, .val (.int p4), .val (.int p5), .val (.int p6), .val (.int ka200), .val (.int n8), .val (.int s36), .val (.int n10), .val (.int xl203), .val (.int s75), .val (.int ch205), .val (.int ch206), .val (.int d15), .val (.int d16), .val (.int s149), .val (.ref b211), .val (.int xw240), .val (.ref b261), .unset] [(.int ka200)]))
                refine OEnd.of (fun t k => XS.iload X282.here hx rfl (hb hby at_249) rfl k) ?_
                show OEnd p e below _ (T282.setTop (mkF m 251 #[.val (.int p0), .val (.int p1), .val (.long q2), .second, .val (.int p4), .val (.int p5), .val (.int p6), .val (.int ka200), .val (.int n8), .val (.int s36), .val (.int n10), .val (.int xl203), .val (.int s75), .val (.int ch205), .val (.int ch206), .val (.int d15), .val (.int d16), .val (.int s149), .val (.ref b211), .val (.int xw240), .val (.ref b261), .unset] [(.int s36), (.int ka200)]))
                have J292 : ∀ (vm292 : Vm) (T292 : State) (Lo292 : List Loc) (e299 : Int32), Stand p l e room_1 (s.setVm vm292) m #[(.int p0), (.int p1), (.long q2), (.int p4), (.int p5), (.int p6)] below meth c T292 Lo292 22 110 → T292.heap = h282 → Fr Z.heap.size Lo292 → (∃ k0, s.Since vm292 k0 ∧ k0 ≤ h282.size) → Z.Warmed39 (s.setVm vm292).vm → (s.setVm vm292).vm.findClass "com/example/thorough_topology/thoroughtopology/language/TokenEqualsPinLaw" = some m.cls → CHr Z EL s.vm h0 vm292 h282 → ((e299 = 1 ∧ (own_kd ka200 k_IDENTIFIER k_INTEGER k_END k_ARCHITECTURE k_COLON k_MINUS_SIGN k_NOT k_SUBSET = own_kd s36 k_IDENTIFIER k_INTEGER k_END k_ARCHITECTURE k_COLON k_MINUS_SIGN k_NOT k_SUBSET ∧ own_mk xl203 ch205 ch206 = own_mk s75 d15 d16 ∧ p4 = s149)) ∨ (e299 = 0 ∧ ¬ (own_kd ka200 k_IDENTIFIER k_INTEGER k_END k_ARCHITECTURE k_COLON k_MINUS_SIGN k_NOT k_SUBSET = own_kd s36 k_IDENTIFIER k_INTEGER k_END k_ARCHITECTURE k_COLON k_MINUS_SIGN k_NOT k_SUBSET ∧ own_mk xl203 ch205 ch206 = own_mk s75 d15 d16 ∧ p4 = s149))) → OEnd p e below (GW s Z EL (Qrm0 Z zc k_IDENTIFIER k_INTEGER k_END k_ARCHITECTURE k_COLON k_MINUS_SIGN k_NOT k_SUBSET of p0 p1 q2 p4 p5 p6 h0) 32 3200) (T292.setTop (mkF m 299 #[.val (.int p0), .val (.int p1), .val (.long q2), .second, .val (.int p4), .val (.int p5), .val (.int p6), .val (.int ka200), .val (.int n8), .val (.int s36), .val (.int n10), .val (.int xl203), .val (.int s75), .val (.int ch205), .val (.int ch206), .val (.int d15), .val (.int d16), .val (.int s149), .val (.ref b211), .val (.int xw240), .val (.ref b261), .unset] [(.int e299)])) := by
                  rintro vm292 T292 Lo292 e299 X292 e292 N292 ⟨kk292, hS292, hk292⟩ hZ292 hown292 HR292 h299
                  show OEnd p e below _ (T292.setTop (mkF m 299 #[.val (.int p0), .val (.int p1), .val (.long q2), .second, .val (.int p4), .val (.int p5), .val (.int p6), .val (.int ka200), .val (.int n8), .val (.int s36), .val (.int n10), .val (.int xl203), .val (.int s75), .val (.int ch205), .val (.int ch206), .val (.int d15), .val (.int d16), .val (.int s149), .val (.ref b211), .val (.int xw240), .val (.ref b261), .unset] [(.int e299)]))
                  refine OEnd.of (fun t k => XS.istore X292.here hx rfl (hb hby at_299) rfl (l' := #[.val (.int p0), .val (.int p1), .val (.long q2), .second, .val (.int p4), .val (.int p5), .val (.int p6), .val (.int ka200), .val (.int n8), .val (.int s36), .val (.int n10), .val (.int xl203), .val (.int s75), .val (.int ch205), .val (.int ch206), .val (.int d15), .val (.int d16), .val (.int s149), .val (.ref b211), .val (.int xw240), .val (.ref b261), .val (.int e299)]) rfl k) ?_
                  show OEnd p e below _ (T292.setTop (mkF m 301 #[.val (.int p0), .val (.int p1), .val (.long q2), .second, .val (.int p4), .val (.int p5), .val (.int p6), .val (.int ka200), .val (.int n8), .val (.int s36), .val (.int n10), .val (.int xl203), .val (.int s75), .val (.int ch205), .val (.int ch206), .val (.int d15), .val (.int d16), .val (.int s149), .val (.ref b211), .val (.int xw240), .val (.ref b261), .val (.int e299)] []))
                  refine OEnd.of (fun t k => XS.aload X292.here hx rfl (hb hby at_301) rfl rfl k) ?_
                  show OEnd p e below _ (T292.setTop (mkF m 303 #[.val (.int p0), .val (.int p1), .val (.long q2), .second, .val (.int p4), .val (.int p5), .val (.int p6), .val (.int ka200), .val (.int n8), .val (.int s36), .val (.int n10), .val (.int xl203), .val (.int s75), .val (.int ch205), .val (.int ch206), .val (.int d15), .val (.int d16), .val (.int s149), .val (.ref b211), .val (.int xw240), .val (.ref b261), .val (.int e299)] [(.ref b211)]))
                  refine OEnd.of (fun t k => XS.aload X292.here hx rfl (hb hby at_303) rfl rfl k) ?_
                  show OEnd p e below _ (T292.setTop (mkF m 305 #[.val (.int p0), .val (.int p1), .val (.long q2), .second, .val (.int p4), .val (.int p5), .val (.int p6), .val (.int ka200), .val (.int n8), .val (.int s36), .val (.int n10), .val (.int xl203), .val (.int s75), .val (.int ch205), .val (.int ch206), .val (.int d15), .val (.int d16), .val (.int s149), .val (.ref b211), .val (.int xw240), .val (.ref b261), .val (.int e299)] [(.ref b261), (.ref b211)]))
                  have K294 : Keep h230 h282 [] := ((K270.trans Kq276 all0).trans Kq282 (allS (Or.inr (Nat.le_of_eq g261.symm)) all0))
                  have K295 : Keep h224 h282 [b211] := (((K262.ext E261).trans Kq276 all0).trans Kq282 (allS (Or.inr (Nat.le_trans K262.1 (Nat.le_of_eq g261.symm))) all0))
                  have K296 : Keep h276 h282 [b261] := ((Keep.refl h276 [b261]).trans Kq282 (allS (Or.inl (List.mem_of_getElem? (i := 0) rfl)) all0))
                  have O297 : Ext Z.heap h282 := own_extKeep O284 K296 (allS f261 all0)
                  obtain ⟨cq293, kq293, q293a, q293b, q293c⟩ := isOf hZ292 e292 (E_233.keep K294)
                  obtain ⟨_, _, ⟨T293, L293, k293, n293⟩, -, X293, ⟨Lc293, hQ293, l293, y293, z293⟩, st293⟩ := X292.virtualBack hx (y := (⟨"com/example/thorough_topology/thoroughtopology/language/Token", "equals", "(Ljava/lang/Object;)Z"⟩ : MethodName)) (z := (⟨"com/example/thorough_topology/thoroughtopology/language/Token", "equals", "(Ljava/lang/Object;)Z"⟩ : MethodName)) hown292 (mvT hZ292 (hw _ (List.mem_of_getElem? (i := 66) rfl))) (mvT hZ292 (hw _ (List.mem_of_getElem? (i := 67) rfl))) (notFace_of_selects (args := #[]) (mvT hZ292 (hw _ (List.mem_of_getElem? (i := 69) rfl)))) (mvT hZ292 (hw _ (List.mem_of_getElem? (i := 69) rfl))) (mvT hZ292 (hw _ (List.mem_of_getElem? (i := 68) rfl))) (by decide) (backOf (W := 0) (rmEqT l Z a0 hw zc k_IDENTIFIER k_INTEGER k_END k_ARCHITECTURE k_COLON k_MINUS_SIGN k_NOT k_SUBSET of S_CS hzc S_IDENTIFIER S_INTEGER S_END S_ARCHITECTURE S_COLON S_MINUS_SIGN S_NOT S_SUBSET E_IDENTIFIER od_IDENTIFIER E_INTEGER od_INTEGER E_END od_END E_ARCHITECTURE od_ARCHITECTURE E_COLON od_COLON E_MINUS_SIGN od_MINUS_SIGN E_NOT od_NOT E_SUBSET od_SUBSET [] b211 b261 kk_220 kk_272 r_225 r_277 p4 s149 (own_mk xl203 ch205 ch206) (own_mk s75 d15 d16) h282 O297 E_285 (Fk_234.keep K294 nin0) Fk_286 (Ft_235.keep K294 nin0) Ft_287 (Fl_236.keep K294 nin0) Fl_288 (S_226.keepA K295 (allS (own_apart (A211.keep K231) (hw _ (List.mem_of_getElem? (i := 2) rfl)) (by decide)) all0)) (S_278.keepA K296 (allS (own_apart (A261.keep K283) (hw _ (List.mem_of_getElem? (i := 2) rfl)) (by decide)) all0))) hZ292 (hw _ (List.mem_of_getElem? (i := 70) rfl)) (hw _ (List.mem_of_getElem? (i := 3) rfl)) (by decide) (by decide)) q293a q293c (g := (mkF m 305 #[.val (.int p0), .val (.int p1), .val (.long q2), .second, .val (.int p4), .val (.int p5), .val (.int p6), .val (.int ka200), .val (.int n8), .val (.int s36), .val (.int n10), .val (.int xl203), .val (.int s75), .val (.int ch205), .val (.int ch206), .val (.int d15), .val (.int d16), .val (.int s149), .val (.ref b211), .val (.int xw240), .val (.ref b261), .val (.int e299)] [(.ref b261), (.ref b211)])) rfl (by rw [hml]; rfl) (Steps.refl _) (argsL := [(.ref b261)]) (rest := []) (lenOf pd_28Ljava2flang2fObject3b29Z rfl) rfl (by show 2 * 0 + _ ≤ _; exact Nat.le_of_eq rfl) (hb hby at_305) (fun _ _ => ⟨rfl, e292, (by decide : 22 + 0 ≤ _), (by decide : 110 + 0 ≤ _)⟩)
                  dsimp only [Pt.U, Pt.locs, Pt.cells, Pt.slots] at X293 l293 y293 z293 st293 hQ293
                  subst l293 y293 z293
                  obtain ⟨bb_298, rfl, Nq293, e293, hb_299⟩ := hQ293
                  have N300 := Fr.app N292 Nq293
                  refine OEnd.of (fun t k => st293.trans k) ?_
                  show OEnd p e below _ (T293.setTop (mkF m 308 #[.val (.int p0), .val (.int p1), .val (.long q2), .second, .val (.int p4), .val (.int p5), .val (.int p6), .val (.int ka200), .val (.int n8), .val (.int s36), .val (.int n10), .val (.int xl203), .val (.int s75), .val (.int ch205), .val (.int ch206), .val (.int d15), .val (.int d16), .val (.int s149), .val (.ref b211), .val (.int xw240), .val (.ref b261), .val (.int e299)] [(.int bb_298)]))
                  refine OEnd.of (fun t k => XS.iload X293.here hx rfl (hb hby at_308) rfl k) ?_
                  show OEnd p e below _ (T293.setTop (mkF m 310 #[.val (.int p0), .val (.int p1), .val (.long q2), .second, .val (.int p4), .val (.int p5), .val (.int p6), .val (.int ka200), .val (.int n8), .val (.int s36), .val (.int n10), .val (.int xl203), .val (.int s75), .val (.int ch205), .val (.int ch206), .val (.int d15), .val (.int d16), .val (.int s149), .val (.ref b211), .val (.int xw240), .val (.ref b261), .val (.int e299)] [(.int e299), (.int bb_298)]))
                  refine OEnd.of (fun t k => XS.icmpNo X293.here hx rfl (hb hby at_310) rfl (teq (own_same hb_299 (by rw [hk_222, hk_274]; exact h299))).2 k) ?_
                  show OEnd p e below _ (T293.setTop (mkF m 313 #[.val (.int p0), .val (.int p1), .val (.long q2), .second, .val (.int p4), .val (.int p5), .val (.int p6), .val (.int ka200), .val (.int n8), .val (.int s36), .val (.int n10), .val (.int xl203), .val (.int s75), .val (.int ch205), .val (.int ch206), .val (.int d15), .val (.int d16), .val (.int s149), .val (.ref b211), .val (.int xw240), .val (.ref b261), .val (.int e299)] []))
                  refine OEnd.of (fun t k => XS.iconst X293.here hx rfl (hb hby at_313) k) ?_
                  show OEnd p e below _ (T293.setTop (mkF m 314 #[.val (.int p0), .val (.int p1), .val (.long q2), .second, .val (.int p4), .val (.int p5), .val (.int p6), .val (.int ka200), .val (.int n8), .val (.int s36), .val (.int n10), .val (.int xl203), .val (.int s75), .val (.int ch205), .val (.int ch206), .val (.int d15), .val (.int d16), .val (.int s149), .val (.ref b211), .val (.int xw240), .val (.ref b261), .val (.int e299)] [(.int (1 : Int32))]))
                  refine OEnd.of (fun t k => XS.goto X293.here hx rfl (pc0 := 314) (pc' := 318) rfl (hb hby at_314) (by decide) (by decide) k) ?_
                  show OEnd p e below _ (T293.setTop (mkF m 318 #[.val (.int p0), .val (.int p1), .val (.long q2), .second, .val (.int p4), .val (.int p5), .val (.int p6), .val (.int ka200), .val (.int n8), .val (.int s36), .val (.int n10), .val (.int xl203), .val (.int s75), .val (.int ch205), .val (.int ch206), .val (.int d15), .val (.int d16), .val (.int s149), .val (.ref b211), .val (.int xw240), .val (.ref b261), .val (.int e299)] [(.int (1 : Int32))]))
                  have K301 : Keep h0 h230 [] := ((K218.trans Kq224 all0).trans Kq230 (allS (Or.inr (Nat.le_of_eq g211.symm)) all0))
                  have K302 : Keep h0 h282 [] := (((((K218.trans Kq224 all0).trans Kq230 (allS (Or.inr (Nat.le_of_eq g211.symm)) all0)).ext E261).trans Kq276 all0).trans Kq282 (allS (Or.inr (Nat.le_trans K301.1 (Nat.le_of_eq g261.symm))) all0))
                  exact OEnd.retNW X293 hx hlk e293 hh hS292 hk292 hEL hZ292 HR292 (t := .boolean) hret (by simp) (hb hby at_318) ⟨rfl, N300, K302⟩ (by decide) (by decide)
                have J303 : ∀ (vm303 : Vm) (T303 : State) (Lo303 : List Loc), Stand p l e room_1 (s.setVm vm303) m #[(.int p0), (.int p1), (.long q2), (.int p4), (.int p5), (.int p6)] below meth c T303 Lo303 22 110 → T303.heap = h282 → Fr Z.heap.size Lo303 → (∃ k0, s.Since vm303 k0 ∧ k0 ≤ h282.size) → Z.Warmed39 (s.setVm vm303).vm → (s.setVm vm303).vm.findClass "com/example/thorough_topology/thoroughtopology/language/TokenEqualsPinLaw" = some m.cls → CHr Z EL s.vm h0 vm303 h282 → (¬ (own_kd ka200 k_IDENTIFIER k_INTEGER k_END k_ARCHITECTURE k_COLON k_MINUS_SIGN k_NOT k_SUBSET = own_kd s36 k_IDENTIFIER k_INTEGER k_END k_ARCHITECTURE k_COLON k_MINUS_SIGN k_NOT k_SUBSET ∧ own_mk xl203 ch205 ch206 = own_mk s75 d15 d16 ∧ p4 = s149)) → OEnd p e below (GW s Z EL (Qrm0 Z zc k_IDENTIFIER k_INTEGER k_END k_ARCHITECTURE k_COLON k_MINUS_SIGN k_NOT k_SUBSET of p0 p1 q2 p4 p5 p6 h0) 32 3200) (T303.setTop (mkF m 298 #[.val (.int p0), .val (.int p1), .val (.long q2), .second, .val (.int p4), .val (.int p5), .val (.int p6), .val (.int ka200), .val (.int n8), .val (.int s36), .val (.int n10), .val (.int xl203), .val (.int s75), .val (.int ch205), .val (.int ch206), .val (.int d15), .val (.int d16), .val (.int s149), .val (.ref b211), .val (.int xw240), .val (.ref b261), .unset] [])) := by
                  rintro vm303 T303 Lo303 X303 e303 N303 ⟨kk303, hS303, hk303⟩ hZ303 hown303 HR303 h298
                  show OEnd p e below _ (T303.setTop (mkF m 298 #[.val (.int p0), .val (.int p1), .val (.long q2), .second, .val (.int p4), .val (.int p5), .val (.int p6), .val (.int ka200), .val (.int n8), .val (.int s36), .val (.int n10), .val (.int xl203), .val (.int s75), .val (.int ch205), .val (.int ch206), .val (.int d15), .val (.int d16), .val (.int s149), .val (.ref b211), .val (.int xw240), .val (.ref b261), .unset] []))
                  refine OEnd.of (fun t k => XS.iconst X303.here hx rfl (hb hby at_298) k) ?_
                  show OEnd p e below _ (T303.setTop (mkF m 299 #[.val (.int p0), .val (.int p1), .val (.long q2), .second, .val (.int p4), .val (.int p5), .val (.int p6), .val (.int ka200), .val (.int n8), .val (.int s36), .val (.int n10), .val (.int xl203), .val (.int s75), .val (.int ch205), .val (.int ch206), .val (.int d15), .val (.int d16), .val (.int s149), .val (.ref b211), .val (.int xw240), .val (.ref b261), .unset] [(.int (0 : Int32))]))
                  exact J292 _ T303 _ (0 : Int32) X303 e303 N303 ⟨_, hS303, hk303⟩ hZ303 hown303 HR303 (Or.inr ⟨rfl, h298⟩)
                by_cases hc304 : ka200 = s36
                · refine OEnd.of (fun t k => XS.icmpNo X282.here hx rfl (hb hby at_251) rfl (teq hc304).2 k) ?_
                  show OEnd p e below _ (T282.setTop (mkF m 254 #[.val (.int p0), .val (.int p1), .val (.long q2), .second, .val (.int p4), .val (.int p5), .val (.int p6), .val (.int ka200), .val (.int n8), .val (.int s36), .val (.int n10), .val (.int xl203), .val (.int s75), .val (.int ch205), .val (.int ch206), .val (.int d15), .val (.int d16), .val (.int s149), .val (.ref b211), .val (.int xw240), .val (.ref b261), .unset] []))
                  refine OEnd.of (fun t k => XS.iload X282.here hx rfl (hb hby at_254) rfl k) ?_
                  show OEnd p e below _ (T282.setTop (mkF m 256 #[.val (.int p0), .val (.int p1), .val (.long q2), .second, .val (.int p4), .val (.int p5), .val (.int p6), .val (.int ka200), .val (.int n8), .val (.int s36), .val (.int n10), .val (.int xl203), .val (.int s75), .val (.int ch205), .val (.int ch206), .val (.int d15), .val (.int d16), .val (.int s149), .val (.ref b211), .val (.int xw240), .val (.ref b261), .unset] [(.int xl203)]))
                  refine OEnd.of (fun t k => XS.iload X282.here hx rfl (hb hby at_256) rfl k) ?_
                  show OEnd p e below _ (T282.setTop (mkF m 258 #[.val (.int p0), .val (.int p1), .val (.long q2), .second, .val (.int p4), .val (.int p5), .val (.int p6), .val (.int ka200), .val (.int n8), .val (.int s36), .val (.int n10), .val (.int xl203), .val (.int s75), .val (.int ch205), .val (.int ch206), .val (.int d15), .val (.int d16), .val (.int s149), .val (.ref b211), .val (.int xw240), .val (.ref b261), .unset] [(.int s75), (.int xl203)]))
                  by_cases hc305 : xl203 = s75
                  · refine OEnd.of (fun t k => XS.icmpNo X282.here hx rfl (hb hby at_258) rfl (teq hc305).2 k) ?_
                    show OEnd p e below _ (T282.setTop (mkF m 261 #[.val (.int p0), .val (.int p1), .val (.long q2), .second, .val (.int p4), .val (.int p5), .val (.int p6), .val (.int ka200), .val (.int n8), .val (.int s36), .val (.int n10), .val (.int xl203), .val (.int s75), .val (.int ch205), .val (.int ch206), .val (.int d15), .val (.int d16), .val (.int s149), .val (.ref b211), .val (.int xw240), .val (.ref b261), .unset] []))
                    refine OEnd.of (fun t k => XS.iload X282.here hx rfl (hb hby at_261) rfl k) ?_
                    show OEnd p e below _ (T282.setTop (mkF m 263 #[.val (.int p0), .val (.int p1), .val (.long q2), .second, .val (.int p4), .val (.int p5), .val (.int p6), .val (.int ka200), .val (.int n8), .val (.int s36), .val (.int n10), .val (.int xl203), .val (.int s75), .val (.int ch205), .val (.int ch206), .val (.int d15), .val (.int d16), .val (.int s149), .val (.ref b211), .val (.int xw240), .val (.ref b261), .unset] [(.int xl203)]))
                    refine OEnd.of (fun t k => XS.iconst X282.here hx rfl (hb hby at_263) k) ?_
                    show OEnd p e below _ (T282.setTop (mkF m 264 #[.val (.int p0), .val (.int p1), .val (.long q2), .second, .val (.int p4), .val (.int p5), .val (.int p6), .val (.int ka200), .val (.int n8), .val (.int s36), .val (.int n10), .val (.int xl203), .val (.int s75), .val (.int ch205), .val (.int ch206), .val (.int d15), .val (.int d16), .val (.int s149), .val (.ref b211), .val (.int xw240), .val (.ref b261), .unset] [(.int (1 : Int32)), (.int xl203)]))
                    have J306 : ∀ (vm306 : Vm) (T306 : State) (Lo306 : List Loc), Stand p l e room_1 (s.setVm vm306) m #[(.int p0), (.int p1), (.long q2), (.int p4), (.int p5), (.int p6)] below meth c T306 Lo306 22 110 → T306.heap = h282 → Fr Z.heap.size Lo306 → (∃ k0, s.Since vm306 k0 ∧ k0 ≤ h282.size) → Z.Warmed39 (s.setVm vm306).vm → (s.setVm vm306).vm.findClass "com/example/thorough_topology/thoroughtopology/language/TokenEqualsPinLaw" = some m.cls → CHr Z EL s.vm h0 vm306 h282 → (own_mk xl203 ch205 ch206 = own_mk s75 d15 d16) → OEnd p e below (GW s Z EL (Qrm0 Z zc k_IDENTIFIER k_INTEGER k_END k_ARCHITECTURE k_COLON k_MINUS_SIGN k_NOT k_SUBSET of p0 p1 q2 p4 p5 p6 h0) 32 3200) (T306.setTop (mkF m 287 #[.val (.int p0), .val (.int p1), .val (.long q2), .second, .val (.int p4), .val (.int p5), .val (.int p6), .val (.int ka200), .val (.int n8), .val (.int s36), .val (.int n10), .val (.int xl203), .val (.int s75), .val (.int ch205), .val (.int ch206), .val (.int d15), .val (.int d16), .val (.int s149), .val (.ref b211), .val (.int xw240), .val (.ref b261), .unset] [])) := by
                      rintro vm306 T306 Lo306 X306 e306 N306 ⟨kk306, hS306, hk306⟩ hZ306 hown306 HR306 h287
                      show OEnd p e below _ (T306.setTop (mkF m 287 #[.val (.int p0), .val (.int p1), .val (.long q2), .second, .val (.int p4), .val (.int p5), .val (.int p6), .val (.int ka200), .val (.int n8), .val (.int s36), .val (.int n10), .val (.int xl203), .val (.int s75), .val (.int ch205), .val (.int ch206), .val (.int d15), .val (.int d16), .val (.int s149), .val (.ref b211), .val (.int xw240), .val (.ref b261), .unset] []))
                      refine OEnd.of (fun t k => XS.iload X306.here hx rfl (hb hby at_287) rfl k) ?_
                      show OEnd p e below _ (T306.setTop (mkF m 289 #[.val (.int p0), .val (.int p1), .val (.long q2), .second, .val (.int p4), .val (.int p5), .val (.int p6), .val (.int ka200), .val (.int n8), .val (.int s36), .val (.int n10), .val (.int xl203), .val (.int s75), .val (.int ch205), .val (.int ch206), .val (.int d15), .val (.int d16), .val (.int s149), .val (.ref b211), .val (.int xw240), .val (.ref b261), .unset] [(.int p4)]))
                      refine OEnd.of (fun t k => XS.iload X306.here hx rfl (hb hby at_289) rfl k) ?_
                      show OEnd p e below _ (T306.setTop (mkF m 291 #[.val (.int p0), .val (.int p1), .val (.long q2), .second, .val (.int p4), .val (.int p5), .val (.int p6), .val (.int ka200), .val (.int n8), .val (.int s36), .val (.int n10), .val (.int xl203), .val (.int s75), .val (.int ch205), .val (.int ch206), .val (.int d15), .val (.int d16), .val (.int s149), .val (.ref b211), .val (.int xw240), .val (.ref b261), .unset] [(.int s149), (.int p4)]))
                      by_cases hc307 : p4 = s149
                      · refine OEnd.of (fun t k => XS.icmpNo X306.here hx rfl (hb hby at_291) rfl (teq hc307).2 k) ?_
                        show OEnd p e below _ (T306.setTop (mkF m 294 #[.val (.int p0), .val (.int p1), .val (.long q2), .second, .val (.int p4), .val (.int p5), .val (.int p6), .val (.int ka200), .val (.int n8), .val (.int s36), .val (.int n10), .val (.int xl203), .val (.int s75), .val (.int ch205), .val (.int ch206), .val (.int d15), .val (.int d16), .val (.int s149), .val (.ref b211), .val (.int xw240), .val (.ref b261), .unset] []))
                        refine OEnd.of (fun t k => XS.iconst X306.here hx rfl (hb hby at_294) k) ?_
                        show OEnd p e below _ (T306.setTop (mkF m 295 #[.val (.int p0), .val (.int p1), .val (.long q2), .second, .val (.int p4), .val (.int p5), .val (.int p6), .val (.int ka200), .val (.int n8), .val (.int s36), .val (.int n10), .val (.int xl203), .val (.int s75), .val (.int ch205), .val (.int ch206), .val (.int d15), .val (.int d16), .val (.int s149), .val (.ref b211), .val (.int xw240), .val (.ref b261), .unset] [(.int (1 : Int32))]))
                        refine OEnd.of (fun t k => XS.goto X306.here hx rfl (pc0 := 295) (pc' := 299) rfl (hb hby at_295) (by decide) (by decide) k) ?_
                        show OEnd p e below _ (T306.setTop (mkF m 299 #[.val (.int p0), .val (.int p1), .val (.long q2), .second, .val (.int p4), .val (.int p5), .val (.int p6), .val (.int ka200), .val (.int n8), .val (.int s36), .val (.int n10), .val (.int xl203), .val (.int s75), .val (.int ch205), .val (.int ch206), .val (.int d15), .val (.int d16), .val (.int s149), .val (.ref b211), .val (.int xw240), .val (.ref b261), .unset] [(.int (1 : Int32))]))
                        exact J292 _ T306 _ (1 : Int32) X306 e306 N306 ⟨_, hS306, hk306⟩ hZ306 hown306 HR306 (Or.inl ⟨rfl, congrArg (fun z => own_kd z k_IDENTIFIER k_INTEGER k_END k_ARCHITECTURE k_COLON k_MINUS_SIGN k_NOT k_SUBSET) hc304, h287, hc307⟩)
                      · refine OEnd.of (fun t k => XS.icmpYes X306.here hx rfl (pc0 := 291) (pc' := 298) rfl (hb hby at_291) rfl (feq hc307).2 (by decide) (by decide) k) ?_
                        show OEnd p e below _ (T306.setTop (mkF m 298 #[.val (.int p0), .val (.int p1), .val (.long q2), .second, .val (.int p4), .val (.int p5), .val (.int p6), .val (.int ka200), .val (.int n8), .val (.int s36), .val (.int n10), .val (.int xl203), .val (.int s75), .val (.int ch205), .val (.int ch206), .val (.int d15), .val (.int d16), .val (.int s149), .val (.ref b211), .val (.int xw240), .val (.ref b261), .unset] []))
                        exact J303 _ T306 _ X306 e306 N306 ⟨_, hS306, hk306⟩ hZ306 hown306 HR306 (fun q => hc307 q.2.2)
                    have J308 : ∀ (vm308 : Vm) (T308 : State) (Lo308 : List Loc), Stand p l e room_1 (s.setVm vm308) m #[(.int p0), (.int p1), (.long q2), (.int p4), (.int p5), (.int p6)] below meth c T308 Lo308 22 110 → T308.heap = h282 → Fr Z.heap.size Lo308 → (∃ k0, s.Since vm308 k0 ∧ k0 ≤ h282.size) → Z.Warmed39 (s.setVm vm308).vm → (s.setVm vm308).vm.findClass "com/example/thorough_topology/thoroughtopology/language/TokenEqualsPinLaw" = some m.cls → CHr Z EL s.vm h0 vm308 h282 → (xl203 < 1 ∨ ch205 = d15) → OEnd p e below (GW s Z EL (Qrm0 Z zc k_IDENTIFIER k_INTEGER k_END k_ARCHITECTURE k_COLON k_MINUS_SIGN k_NOT k_SUBSET of p0 p1 q2 p4 p5 p6 h0) 32 3200) (T308.setTop (mkF m 274 #[.val (.int p0), .val (.int p1), .val (.long q2), .second, .val (.int p4), .val (.int p5), .val (.int p6), .val (.int ka200), .val (.int n8), .val (.int s36), .val (.int n10), .val (.int xl203), .val (.int s75), .val (.int ch205), .val (.int ch206), .val (.int d15), .val (.int d16), .val (.int s149), .val (.ref b211), .val (.int xw240), .val (.ref b261), .unset] [])) := by
                      rintro vm308 T308 Lo308 X308 e308 N308 ⟨kk308, hS308, hk308⟩ hZ308 hown308 HR308 h274
                      show OEnd p e below _ (T308.setTop (mkF m 274 #[.val (.int p0), .val (.int p1), .val (.long q2), .second, .val (.int p4), .val (.int p5), .val (.int p6), .val (.int ka200), .val (.int n8), .val (.int s36), .val (.int n10), .val (.int xl203), .val (.int s75), .val (.int ch205), .val (.int ch206), .val (.int d15), .val (.int d16), .val (.int s149), .val (.ref b211), .val (.int xw240), .val (.ref b261), .unset] []))
                      refine OEnd.of (fun t k => XS.iload X308.here hx rfl (hb hby at_274) rfl k) ?_
                      show OEnd p e below _ (T308.setTop (mkF m 276 #[.val (.int p0), .val (.int p1), .val (.long q2), .second, .val (.int p4), .val (.int p5), .val (.int p6), .val (.int ka200), .val (.int n8), .val (.int s36), .val (.int n10), .val (.int xl203), .val (.int s75), .val (.int ch205), .val (.int ch206), .val (.int d15), .val (.int d16), .val (.int s149), .val (.ref b211), .val (.int xw240), .val (.ref b261), .unset] [(.int xl203)]))
                      refine OEnd.of (fun t k => XS.iconst X308.here hx rfl (hb hby at_276) k) ?_
                      show OEnd p e below _ (T308.setTop (mkF m 277 #[.val (.int p0), .val (.int p1), .val (.long q2), .second, .val (.int p4), .val (.int p5), .val (.int p6), .val (.int ka200), .val (.int n8), .val (.int s36), .val (.int n10), .val (.int xl203), .val (.int s75), .val (.int ch205), .val (.int ch206), .val (.int d15), .val (.int d16), .val (.int s149), .val (.ref b211), .val (.int xw240), .val (.ref b261), .unset] [(.int (2 : Int32)), (.int xl203)]))
                      by_cases hc309 : xl203 < (2 : Int32)
                      · refine OEnd.of (fun t k => XS.icmpYes X308.here hx rfl (pc0 := 277) (pc' := 287) rfl (hb hby at_277) rfl (tlt hc309).1 (by decide) (by decide) k) ?_
                        show OEnd p e below _ (T308.setTop (mkF m 287 #[.val (.int p0), .val (.int p1), .val (.long q2), .second, .val (.int p4), .val (.int p5), .val (.int p6), .val (.int ka200), .val (.int n8), .val (.int s36), .val (.int n10), .val (.int xl203), .val (.int s75), .val (.int ch205), .val (.int ch206), .val (.int d15), .val (.int d16), .val (.int s149), .val (.ref b211), .val (.int xw240), .val (.ref b261), .unset] []))
                        exact J306 _ T308 _ X308 e308 N308 ⟨_, hS308, hk308⟩ hZ308 hown308 HR308 (own_mkE hx11 hc305 h274 (Or.inl hc309))
                      · refine OEnd.of (fun t k => XS.icmpNo X308.here hx rfl (hb hby at_277) rfl (flt hc309).1 k) ?_
                        show OEnd p e below _ (T308.setTop (mkF m 280 #[.val (.int p0), .val (.int p1), .val (.long q2), .second, .val (.int p4), .val (.int p5), .val (.int p6), .val (.int ka200), .val (.int n8), .val (.int s36), .val (.int n10), .val (.int xl203), .val (.int s75), .val (.int ch205), .val (.int ch206), .val (.int d15), .val (.int d16), .val (.int s149), .val (.ref b211), .val (.int xw240), .val (.ref b261), .unset] []))
                        refine OEnd.of (fun t k => XS.iload X308.here hx rfl (hb hby at_280) rfl k) ?_
                        show OEnd p e below _ (T308.setTop (mkF m 282 #[.val (.int p0), .val (.int p1), .val (.long q2), .second, .val (.int p4), .val (.int p5), .val (.int p6), .val (.int ka200), .val (.int n8), .val (.int s36), .val (.int n10), .val (.int xl203), .val (.int s75), .val (.int ch205), .val (.int ch206), .val (.int d15), .val (.int d16), .val (.int s149), .val (.ref b211), .val (.int xw240), .val (.ref b261), .unset] [(.int ch206)]))
                        refine OEnd.of (fun t k => XS.iload X308.here hx rfl (hb hby at_282) rfl k) ?_
                        show OEnd p e below _ (T308.setTop (mkF m 284 #[.val (.int p0), .val (.int p1), .val (.long q2), .second, .val (.int p4), .val (.int p5), .val (.int p6), .val (.int ka200), .val (.int n8), .val (.int s36), .val (.int n10), .val (.int xl203), .val (.int s75), .val (.int ch205), .val (.int ch206), .val (.int d15), .val (.int d16), .val (.int s149), .val (.ref b211), .val (.int xw240), .val (.ref b261), .unset] [(.int d16), (.int ch206)]))
                        by_cases hc310 : ch206 = d16
                        · refine OEnd.of (fun t k => XS.icmpNo X308.here hx rfl (hb hby at_284) rfl (teq hc310).2 k) ?_
                          show OEnd p e below _ (T308.setTop (mkF m 287 #[.val (.int p0), .val (.int p1), .val (.long q2), .second, .val (.int p4), .val (.int p5), .val (.int p6), .val (.int ka200), .val (.int n8), .val (.int s36), .val (.int n10), .val (.int xl203), .val (.int s75), .val (.int ch205), .val (.int ch206), .val (.int d15), .val (.int d16), .val (.int s149), .val (.ref b211), .val (.int xw240), .val (.ref b261), .unset] []))
                          exact J306 _ T308 _ X308 e308 N308 ⟨_, hS308, hk308⟩ hZ308 hown308 HR308 (own_mkE hx11 hc305 h274 (Or.inr hc310))
                        · refine OEnd.of (fun t k => XS.icmpYes X308.here hx rfl (pc0 := 284) (pc' := 298) rfl (hb hby at_284) rfl (feq hc310).2 (by decide) (by decide) k) ?_
                          show OEnd p e below _ (T308.setTop (mkF m 298 #[.val (.int p0), .val (.int p1), .val (.long q2), .second, .val (.int p4), .val (.int p5), .val (.int p6), .val (.int ka200), .val (.int n8), .val (.int s36), .val (.int n10), .val (.int xl203), .val (.int s75), .val (.int ch205), .val (.int ch206), .val (.int d15), .val (.int d16), .val (.int s149), .val (.ref b211), .val (.int xw240), .val (.ref b261), .unset] []))
                          exact J303 _ T308 _ X308 e308 N308 ⟨_, hS308, hk308⟩ hZ308 hown308 HR308 (fun q => own_mkN2 hx11 hc305 hc309 hc310 q.2.1)
                    by_cases hc311 : xl203 < (1 : Int32)
                    · refine OEnd.of (fun t k => XS.icmpYes X282.here hx rfl (pc0 := 264) (pc' := 274) rfl (hb hby at_264) rfl (tlt hc311).1 (by decide) (by decide) k) ?_
                      show OEnd p e below _ (T282.setTop (mkF m 274 #[.val (.int p0), .val (.int p1), .val (.long q2), .second, .val (.int p4), .val (.int p5), .val (.int p6), .val (.int ka200), .val (.int n8), .val (.int s36), .val (.int n10), .val (.int xl203), .val (.int s75), .val (.int ch205), .val (.int ch206), .val (.int d15), .val (.int d16), .val (.int s149), .val (.ref b211), .val (.int xw240), .val (.ref b261), .unset] []))
                      exact J308 _ T282 _ X282 e282 N289 ⟨_, S282, hk282⟩ hZ282 hown282 HR291 (Or.inl hc311)
                    · refine OEnd.of (fun t k => XS.icmpNo X282.here hx rfl (hb hby at_264) rfl (flt hc311).1 k) ?_
                      show OEnd p e below _ (T282.setTop (mkF m 267 #[.val (.int p0), .val (.int p1), .val (.long q2), .second, .val (.int p4), .val (.int p5), .val (.int p6), .val (.int ka200), .val (.int n8), .val (.int s36), .val (.int n10), .val (.int xl203), .val (.int s75), .val (.int ch205), .val (.int ch206), .val (.int d15), .val (.int d16), .val (.int s149), .val (.ref b211), .val (.int xw240), .val (.ref b261), .unset] []))
                      refine OEnd.of (fun t k => XS.iload X282.here hx rfl (hb hby at_267) rfl k) ?_
                      show OEnd p e below _ (T282.setTop (mkF m 269 #[.val (.int p0), .val (.int p1), .val (.long q2), .second, .val (.int p4), .val (.int p5), .val (.int p6), .val (.int ka200), .val (.int n8), .val (.int s36), .val (.int n10), .val (.int xl203), .val (.int s75), .val (.int ch205), .val (.int ch206), .val (.int d15), .val (.int d16), .val (.int s149), .val (.ref b211), .val (.int xw240), .val (.ref b261), .unset] [(.int ch205)]))
                      refine OEnd.of (fun t k => XS.iload X282.here hx rfl (hb hby at_269) rfl k) ?_
                      show OEnd p e below _ (T282.setTop (mkF m 271 #[.val (.int p0), .val (.int p1), .val (.long q2), .second, .val (.int p4), .val (.int p5), .val (.int p6), .val (.int ka200), .val (.int n8), .val (.int s36), .val (.int n10), .val (.int xl203), .val (.int s75), .val (.int ch205), .val (.int ch206), .val (.int d15), .val (.int d16), .val (.int s149), .val (.ref b211), .val (.int xw240), .val (.ref b261), .unset] [(.int d15), (.int ch205)]))
                      by_cases hc312 : ch205 = d15
                      · refine OEnd.of (fun t k => XS.icmpNo X282.here hx rfl (hb hby at_271) rfl (teq hc312).2 k) ?_
                        show OEnd p e below _ (T282.setTop (mkF m 274 #[.val (.int p0), .val (.int p1), .val (.long q2), .second, .val (.int p4), .val (.int p5), .val (.int p6), .val (.int ka200), .val (.int n8), .val (.int s36), .val (.int n10), .val (.int xl203), .val (.int s75), .val (.int ch205), .val (.int ch206), .val (.int d15), .val (.int d16), .val (.int s149), .val (.ref b211), .val (.int xw240), .val (.ref b261), .unset] []))
                        exact J308 _ T282 _ X282 e282 N289 ⟨_, S282, hk282⟩ hZ282 hown282 HR291 (Or.inr hc312)
                      · refine OEnd.of (fun t k => XS.icmpYes X282.here hx rfl (pc0 := 271) (pc' := 298) rfl (hb hby at_271) rfl (feq hc312).2 (by decide) (by decide) k) ?_
                        show OEnd p e below _ (T282.setTop (mkF m 298 #[.val (.int p0), .val (.int p1), .val (.long q2), .second, .val (.int p4), .val (.int p5), .val (.int p6), .val (.int ka200), .val (.int n8), .val (.int s36), .val (.int n10), .val (.int xl203), .val (.int s75), .val (.int ch205), .val (.int ch206), .val (.int d15), .val (.int d16), .val (.int s149), .val (.ref b211), .val (.int xw240), .val (.ref b261), .unset] []))
                        exact J303 _ T282 _ X282 e282 N289 ⟨_, S282, hk282⟩ hZ282 hown282 HR291 (fun q => own_mkN1 hx11 hc305 hc311 hc312 q.2.1)
                  · refine OEnd.of (fun t k => XS.icmpYes X282.here hx rfl (pc0 := 258) (pc' := 298) rfl (hb hby at_258) rfl (feq hc305).2 (by decide) (by decide) k) ?_
                    show OEnd p e below _ (T282.setTop (mkF m 298 #[.val (.int p0), .val (.int p1), .val (.long q2), .second, .val (.int p4), .val (.int p5), .val (.int p6), .val (.int ka200), .val (.int n8), .val (.int s36), .val (.int n10), .val (.int xl203), .val (.int s75), .val (.int ch205), .val (.int ch206), .val (.int d15), .val (.int d16), .val (.int s149), .val (.ref b211), .val (.int xw240), .val (.ref b261), .unset] []))
                    exact J303 _ T282 _ X282 e282 N289 ⟨_, S282, hk282⟩ hZ282 hown282 HR291 (fun q => own_mkN0 hx11 h75 hc305 q.2.1)
                · refine OEnd.of (fun t k => XS.icmpYes X282.here hx rfl (pc0 := 251) (pc' := 298) rfl (hb hby at_251) rfl (feq hc304).2 (by decide) (by decide) k) ?_
                  show OEnd p e below _ (T282.setTop (mkF m 298 #[.val (.int p0), .val (.int p1), .val (.long q2), .second, .val (.int p4), .val (.int p5), .val (.int p6), .val (.int ka200), .val (.int n8), .val (.int s36), .val (.int n10), .val (.int xl203), .val (.int s75), .val (.int ch205), .val (.int ch206), .val (.int d15), .val (.int d16), .val (.int s149), .val (.ref b211), .val (.int xw240), .val (.ref b261), .unset] []))
                  exact J303 _ T282 _ X282 e282 N289 ⟨_, S282, hk282⟩ hZ282 hown282 HR291 (fun q => hc304 (own_kdInj od_IDENTIFIER od_INTEGER od_END od_ARCHITECTURE od_COLON od_MINUS_SIGN od_NOT od_SUBSET hka h36 q.1))
          by_cases hc313 : (p6 &&& (4 : Int32)) = (0 : Int32)
          · refine OEnd.of (fun t k => XS.ifYes X209.here hx rfl (pc0 := 139) (pc' := 147) rfl (hb hby at_139) rfl ((if0 _ _).trans (teq hc313).1) (by decide) (by decide) k) ?_
            show OEnd p e below _ (T209.setTop (mkF m 147 #[.val (.int p0), .val (.int p1), .val (.long q2), .second, .val (.int p4), .val (.int p5), .val (.int p6), .val (.int ka200), .val (.int n8), .val (.int s36), .val (.int n10), .val (.int xl203), .val (.int s75), .val (.int ch205), .val (.int ch206), .val (.int d15), .val (.int d16), .unset, .unset, .unset, .unset, .unset] []))
            refine OEnd.of (fun t k => XS.iload X209.here hx rfl (hb hby at_147) rfl k) ?_
            show OEnd p e below _ (T209.setTop (mkF m 149 #[.val (.int p0), .val (.int p1), .val (.long q2), .second, .val (.int p4), .val (.int p5), .val (.int p6), .val (.int ka200), .val (.int n8), .val (.int s36), .val (.int n10), .val (.int xl203), .val (.int s75), .val (.int ch205), .val (.int ch206), .val (.int d15), .val (.int d16), .unset, .unset, .unset, .unset, .unset] [(.int p5)]))
            exact J210 _ T209 _ p5 X209 e209 N209 ⟨_, hS209, hk209⟩ hZ209 hown209 HR209
          · refine OEnd.of (fun t k => XS.ifNo X209.here hx rfl (hb hby at_139) rfl ((if0 _ _).trans (feq hc313).1) k) ?_
            show OEnd p e below _ (T209.setTop (mkF m 142 #[.val (.int p0), .val (.int p1), .val (.long q2), .second, .val (.int p4), .val (.int p5), .val (.int p6), .val (.int ka200), .val (.int n8), .val (.int s36), .val (.int n10), .val (.int xl203), .val (.int s75), .val (.int ch205), .val (.int ch206), .val (.int d15), .val (.int d16), .unset, .unset, .unset, .unset, .unset] []))
            refine OEnd.of (fun t k => XS.iload X209.here hx rfl (hb hby at_142) rfl k) ?_
            show OEnd p e below _ (T209.setTop (mkF m 144 #[.val (.int p0), .val (.int p1), .val (.long q2), .second, .val (.int p4), .val (.int p5), .val (.int p6), .val (.int ka200), .val (.int n8), .val (.int s36), .val (.int n10), .val (.int xl203), .val (.int s75), .val (.int ch205), .val (.int ch206), .val (.int d15), .val (.int d16), .unset, .unset, .unset, .unset, .unset] [(.int p4)]))
            refine OEnd.of (fun t k => XS.goto X209.here hx rfl (pc0 := 144) (pc' := 149) rfl (hb hby at_144) (by decide) (by decide) k) ?_
            show OEnd p e below _ (T209.setTop (mkF m 149 #[.val (.int p0), .val (.int p1), .val (.long q2), .second, .val (.int p4), .val (.int p5), .val (.int p6), .val (.int ka200), .val (.int n8), .val (.int s36), .val (.int n10), .val (.int xl203), .val (.int s75), .val (.int ch205), .val (.int ch206), .val (.int d15), .val (.int d16), .unset, .unset, .unset, .unset, .unset] [(.int p4)]))
            exact J210 _ T209 _ p4 X209 e209 N209 ⟨_, hS209, hk209⟩ hZ209 hown209 HR209
        by_cases hc314 : n10 = (0 : Int32)
        · refine OEnd.of (fun t k => XS.ifYes X204.here hx rfl (pc0 := 124) (pc' := 135) rfl (hb hby at_124) rfl ((if0 _ _).trans (teq hc314).1) (by decide) (by decide) k) ?_
          show OEnd p e below _ (T204.setTop (mkF m 135 #[.val (.int p0), .val (.int p1), .val (.long q2), .second, .val (.int p4), .val (.int p5), .val (.int p6), .val (.int ka200), .val (.int n8), .val (.int s36), .val (.int n10), .val (.int xl203), .val (.int s75), .val (.int ch205), .val (.int ch206), .val (.int ch207), .val (.int ch208), .unset, .unset, .unset, .unset, .unset] []))
          exact J209 _ T204 _ ch207 ch208 X204 e204 N204 ⟨_, hS204, hk204⟩ hZ204 hown204 HR204 hch_ch207 hch_ch208
        · refine OEnd.of (fun t k => XS.ifNo X204.here hx rfl (hb hby at_124) rfl ((if0 _ _).trans (feq hc314).1) k) ?_
          show OEnd p e below _ (T204.setTop (mkF m 127 #[.val (.int p0), .val (.int p1), .val (.long q2), .second, .val (.int p4), .val (.int p5), .val (.int p6), .val (.int ka200), .val (.int n8), .val (.int s36), .val (.int n10), .val (.int xl203), .val (.int s75), .val (.int ch205), .val (.int ch206), .val (.int ch207), .val (.int ch208), .unset, .unset, .unset, .unset, .unset] []))
          refine OEnd.of (fun t k => XS.iload X204.here hx rfl (hb hby at_127) rfl k) ?_
          show OEnd p e below _ (T204.setTop (mkF m 129 #[.val (.int p0), .val (.int p1), .val (.long q2), .second, .val (.int p4), .val (.int p5), .val (.int p6), .val (.int ka200), .val (.int n8), .val (.int s36), .val (.int n10), .val (.int xl203), .val (.int s75), .val (.int ch205), .val (.int ch206), .val (.int ch207), .val (.int ch208), .unset, .unset, .unset, .unset, .unset] [(.int ch205)]))
          refine OEnd.of (fun t k => XS.istore X204.here hx rfl (hb hby at_129) rfl (l' := #[.val (.int p0), .val (.int p1), .val (.long q2), .second, .val (.int p4), .val (.int p5), .val (.int p6), .val (.int ka200), .val (.int n8), .val (.int s36), .val (.int n10), .val (.int xl203), .val (.int s75), .val (.int ch205), .val (.int ch206), .val (.int ch205), .val (.int ch208), .unset, .unset, .unset, .unset, .unset]) rfl k) ?_
          show OEnd p e below _ (T204.setTop (mkF m 131 #[.val (.int p0), .val (.int p1), .val (.long q2), .second, .val (.int p4), .val (.int p5), .val (.int p6), .val (.int ka200), .val (.int n8), .val (.int s36), .val (.int n10), .val (.int xl203), .val (.int s75), .val (.int ch205), .val (.int ch206), .val (.int ch205), .val (.int ch208), .unset, .unset, .unset, .unset, .unset] []))
          refine OEnd.of (fun t k => XS.iload X204.here hx rfl (hb hby at_131) rfl k) ?_
          show OEnd p e below _ (T204.setTop (mkF m 133 #[.val (.int p0), .val (.int p1), .val (.long q2), .second, .val (.int p4), .val (.int p5), .val (.int p6), .val (.int ka200), .val (.int n8), .val (.int s36), .val (.int n10), .val (.int xl203), .val (.int s75), .val (.int ch205), .val (.int ch206), .val (.int ch205), .val (.int ch208), .unset, .unset, .unset, .unset, .unset] [(.int ch206)]))
          refine OEnd.of (fun t k => XS.istore X204.here hx rfl (hb hby at_133) rfl (l' := #[.val (.int p0), .val (.int p1), .val (.long q2), .second, .val (.int p4), .val (.int p5), .val (.int p6), .val (.int ka200), .val (.int n8), .val (.int s36), .val (.int n10), .val (.int xl203), .val (.int s75), .val (.int ch205), .val (.int ch206), .val (.int ch205), .val (.int ch206), .unset, .unset, .unset, .unset, .unset]) rfl k) ?_
          show OEnd p e below _ (T204.setTop (mkF m 135 #[.val (.int p0), .val (.int p1), .val (.long q2), .second, .val (.int p4), .val (.int p5), .val (.int p6), .val (.int ka200), .val (.int n8), .val (.int s36), .val (.int n10), .val (.int xl203), .val (.int s75), .val (.int ch205), .val (.int ch206), .val (.int ch205), .val (.int ch206), .unset, .unset, .unset, .unset, .unset] []))
          exact J209 _ T204 _ ch205 ch206 X204 e204 N204 ⟨_, hS204, hk204⟩ hZ204 hown204 HR204 hch_ch205 hch_ch206
      by_cases hc315 : n10 = (0 : Int32)
      · refine OEnd.of (fun t k => XS.ifYes X202.here hx rfl (pc0 := 61) (pc' := 69) rfl (hb hby at_61) rfl ((if0 _ _).trans (teq hc315).1) (by decide) (by decide) k) ?_
        show OEnd p e below _ (T202.setTop (mkF m 69 #[.val (.int p0), .val (.int p1), .val (.long q2), .second, .val (.int p4), .val (.int p5), .val (.int p6), .val (.int ka200), .val (.int n8), .val (.int s36), .val (.int n10), .val (.int xl203), .unset, .unset, .unset, .unset, .unset, .unset, .unset, .unset, .unset, .unset] []))
        refine OEnd.of (fun t k => XS.iloadN X202.here hx rfl (hb hby at_69) rfl k) ?_
        show OEnd p e below _ (T202.setTop (mkF m 70 #[.val (.int p0), .val (.int p1), .val (.long q2), .second, .val (.int p4), .val (.int p5), .val (.int p6), .val (.int ka200), .val (.int n8), .val (.int s36), .val (.int n10), .val (.int xl203), .unset, .unset, .unset, .unset, .unset, .unset, .unset, .unset, .unset, .unset] [(.int p1)]))
        refine OEnd.of (fun t k => XS.bipush X202.here hx rfl (hb hby at_70) k) ?_
        show OEnd p e below _ (T202.setTop (mkF m 72 #[.val (.int p0), .val (.int p1), .val (.long q2), .second, .val (.int p4), .val (.int p5), .val (.int p6), .val (.int ka200), .val (.int n8), .val (.int s36), .val (.int n10), .val (.int xl203), .unset, .unset, .unset, .unset, .unset, .unset, .unset, .unset, .unset, .unset] [(.int (8 : Int32)), (.int p1)]))
        refine OEnd.of (fun t k => XS.iushr X202.here hx rfl (hb hby at_72) rfl k) ?_
        show OEnd p e below _ (T202.setTop (mkF m 73 #[.val (.int p0), .val (.int p1), .val (.long q2), .second, .val (.int p4), .val (.int p5), .val (.int p6), .val (.int ka200), .val (.int n8), .val (.int s36), .val (.int n10), .val (.int xl203), .unset, .unset, .unset, .unset, .unset, .unset, .unset, .unset, .unset, .unset] [(.int ((p1.toUInt32 >>> ((8 : Int32) &&& 31).toUInt32).toInt32))]))
        refine OEnd.of (fun t k => XS.iconst X202.here hx rfl (hb hby at_73) k) ?_
        show OEnd p e below _ (T202.setTop (mkF m 74 #[.val (.int p0), .val (.int p1), .val (.long q2), .second, .val (.int p4), .val (.int p5), .val (.int p6), .val (.int ka200), .val (.int n8), .val (.int s36), .val (.int n10), .val (.int xl203), .unset, .unset, .unset, .unset, .unset, .unset, .unset, .unset, .unset, .unset] [(.int (3 : Int32)), (.int ((p1.toUInt32 >>> ((8 : Int32) &&& 31).toUInt32).toInt32))]))
        refine OEnd.of (fun t k => iremM X202 hx rfl (hb hby at_74) rfl (by decide) k) ?_
        show OEnd p e below _ (T202.setTop (mkF m 75 #[.val (.int p0), .val (.int p1), .val (.long q2), .second, .val (.int p4), .val (.int p5), .val (.int p6), .val (.int ka200), .val (.int n8), .val (.int s36), .val (.int n10), .val (.int xl203), .unset, .unset, .unset, .unset, .unset, .unset, .unset, .unset, .unset, .unset] [(.int (((p1.toUInt32 >>> ((8 : Int32) &&& 31).toUInt32).toInt32) % (3 : Int32)))]))
        generalize q_xm316 : (((p1.toUInt32 >>> ((8 : Int32) &&& 31).toUInt32).toInt32) % (3 : Int32)) = xm316
        have hx12 := own_l3u q_xm316
        exact J204 _ T202 _ xm316 X202 e202 N202 ⟨_, hS202, hk202⟩ hZ202 hown202 HR202 hx12
      · refine OEnd.of (fun t k => XS.ifNo X202.here hx rfl (hb hby at_61) rfl ((if0 _ _).trans (feq hc315).1) k) ?_
        show OEnd p e below _ (T202.setTop (mkF m 64 #[.val (.int p0), .val (.int p1), .val (.long q2), .second, .val (.int p4), .val (.int p5), .val (.int p6), .val (.int ka200), .val (.int n8), .val (.int s36), .val (.int n10), .val (.int xl203), .unset, .unset, .unset, .unset, .unset, .unset, .unset, .unset, .unset, .unset] []))
        refine OEnd.of (fun t k => XS.iload X202.here hx rfl (hb hby at_64) rfl k) ?_
        show OEnd p e below _ (T202.setTop (mkF m 66 #[.val (.int p0), .val (.int p1), .val (.long q2), .second, .val (.int p4), .val (.int p5), .val (.int p6), .val (.int ka200), .val (.int n8), .val (.int s36), .val (.int n10), .val (.int xl203), .unset, .unset, .unset, .unset, .unset, .unset, .unset, .unset, .unset, .unset] [(.int xl203)]))
        refine OEnd.of (fun t k => XS.goto X202.here hx rfl (pc0 := 66) (pc' := 75) rfl (hb hby at_66) (by decide) (by decide) k) ?_
        show OEnd p e below _ (T202.setTop (mkF m 75 #[.val (.int p0), .val (.int p1), .val (.long q2), .second, .val (.int p4), .val (.int p5), .val (.int p6), .val (.int ka200), .val (.int n8), .val (.int s36), .val (.int n10), .val (.int xl203), .unset, .unset, .unset, .unset, .unset, .unset, .unset, .unset, .unset, .unset] [(.int xl203)]))
        exact J204 _ T202 _ xl203 X202 e202 N202 ⟨_, hS202, hk202⟩ hZ202 hown202 HR202 hx11
    by_cases hc317 : (p6 &&& (2 : Int32)) = (0 : Int32)
    · refine OEnd.of (fun t k => XS.ifYes X201.here hx rfl (pc0 := 42) (pc' := 49) rfl (hb hby at_42) rfl ((if0 _ _).trans (teq hc317).1) (by decide) (by decide) k) ?_
      show OEnd p e below _ (T201.setTop (mkF m 49 #[.val (.int p0), .val (.int p1), .val (.long q2), .second, .val (.int p4), .val (.int p5), .val (.int p6), .val (.int ka200), .val (.int n8), .val (.int s36), .unset, .unset, .unset, .unset, .unset, .unset, .unset, .unset, .unset, .unset, .unset, .unset] []))
      refine OEnd.of (fun t k => XS.iconst X201.here hx rfl (hb hby at_49) k) ?_
      show OEnd p e below _ (T201.setTop (mkF m 50 #[.val (.int p0), .val (.int p1), .val (.long q2), .second, .val (.int p4), .val (.int p5), .val (.int p6), .val (.int ka200), .val (.int n8), .val (.int s36), .unset, .unset, .unset, .unset, .unset, .unset, .unset, .unset, .unset, .unset, .unset, .unset] [(.int (0 : Int32))]))
      refine OEnd.of (fun t k => XS.istore X201.here hx rfl (hb hby at_50) rfl (l' := #[.val (.int p0), .val (.int p1), .val (.long q2), .second, .val (.int p4), .val (.int p5), .val (.int p6), .val (.int ka200), .val (.int n8), .val (.int s36), .val (.int (0 : Int32)), .unset, .unset, .unset, .unset, .unset, .unset, .unset, .unset, .unset, .unset, .unset]) rfl k) ?_
      show OEnd p e below _ (T201.setTop (mkF m 52 #[.val (.int p0), .val (.int p1), .val (.long q2), .second, .val (.int p4), .val (.int p5), .val (.int p6), .val (.int ka200), .val (.int n8), .val (.int s36), .val (.int (0 : Int32)), .unset, .unset, .unset, .unset, .unset, .unset, .unset, .unset, .unset, .unset, .unset] []))
      exact J202 _ T201 _ (0 : Int32) X201 e201 N201 ⟨_, hS201, hk201⟩ hZ201 hown201 HR201
    · refine OEnd.of (fun t k => XS.ifNo X201.here hx rfl (hb hby at_42) rfl ((if0 _ _).trans (feq hc317).1) k) ?_
      show OEnd p e below _ (T201.setTop (mkF m 45 #[.val (.int p0), .val (.int p1), .val (.long q2), .second, .val (.int p4), .val (.int p5), .val (.int p6), .val (.int ka200), .val (.int n8), .val (.int s36), .unset, .unset, .unset, .unset, .unset, .unset, .unset, .unset, .unset, .unset, .unset, .unset] []))
      refine OEnd.of (fun t k => XS.iconst X201.here hx rfl (hb hby at_45) k) ?_
      show OEnd p e below _ (T201.setTop (mkF m 46 #[.val (.int p0), .val (.int p1), .val (.long q2), .second, .val (.int p4), .val (.int p5), .val (.int p6), .val (.int ka200), .val (.int n8), .val (.int s36), .unset, .unset, .unset, .unset, .unset, .unset, .unset, .unset, .unset, .unset, .unset, .unset] [(.int (1 : Int32))]))
      refine OEnd.of (fun t k => XS.goto X201.here hx rfl (pc0 := 46) (pc' := 50) rfl (hb hby at_46) (by decide) (by decide) k) ?_
      show OEnd p e below _ (T201.setTop (mkF m 50 #[.val (.int p0), .val (.int p1), .val (.long q2), .second, .val (.int p4), .val (.int p5), .val (.int p6), .val (.int ka200), .val (.int n8), .val (.int s36), .unset, .unset, .unset, .unset, .unset, .unset, .unset, .unset, .unset, .unset, .unset, .unset] [(.int (1 : Int32))]))
      refine OEnd.of (fun t k => XS.istore X201.here hx rfl (hb hby at_50) rfl (l' := #[.val (.int p0), .val (.int p1), .val (.long q2), .second, .val (.int p4), .val (.int p5), .val (.int p6), .val (.int ka200), .val (.int n8), .val (.int s36), .val (.int (1 : Int32)), .unset, .unset, .unset, .unset, .unset, .unset, .unset, .unset, .unset, .unset, .unset]) rfl k) ?_
      show OEnd p e below _ (T201.setTop (mkF m 52 #[.val (.int p0), .val (.int p1), .val (.long q2), .second, .val (.int p4), .val (.int p5), .val (.int p6), .val (.int ka200), .val (.int n8), .val (.int s36), .val (.int (1 : Int32)), .unset, .unset, .unset, .unset, .unset, .unset, .unset, .unset, .unset, .unset, .unset] []))
      exact J202 _ T201 _ (1 : Int32) X201 e201 N201 ⟨_, hS201, hk201⟩ hZ201 hown201 HR201
  by_cases hc318 : (p6 &&& (1 : Int32)) = (0 : Int32)
  · refine OEnd.of (fun t k => XS.ifYes X0.here hx rfl (pc0 := 10) (pc' := 17) rfl (hb hby at_10) rfl ((if0 _ _).trans (teq hc318).1) (by decide) (by decide) k) ?_
    show OEnd p e below _ (s₁.setTop (mkF m 17 #[.val (.int p0), .val (.int p1), .val (.long q2), .second, .val (.int p4), .val (.int p5), .val (.int p6), .val (.int ka200), .unset, .unset, .unset, .unset, .unset, .unset, .unset, .unset, .unset, .unset, .unset, .unset, .unset, .unset] []))
    refine OEnd.of (fun t k => XS.iconst X0.here hx rfl (hb hby at_17) k) ?_
    show OEnd p e below _ (s₁.setTop (mkF m 18 #[.val (.int p0), .val (.int p1), .val (.long q2), .second, .val (.int p4), .val (.int p5), .val (.int p6), .val (.int ka200), .unset, .unset, .unset, .unset, .unset, .unset, .unset, .unset, .unset, .unset, .unset, .unset, .unset, .unset] [(.int (0 : Int32))]))
    refine OEnd.of (fun t k => XS.istore X0.here hx rfl (hb hby at_18) rfl (l' := #[.val (.int p0), .val (.int p1), .val (.long q2), .second, .val (.int p4), .val (.int p5), .val (.int p6), .val (.int ka200), .val (.int (0 : Int32)), .unset, .unset, .unset, .unset, .unset, .unset, .unset, .unset, .unset, .unset, .unset, .unset, .unset]) rfl k) ?_
    show OEnd p e below _ (s₁.setTop (mkF m 20 #[.val (.int p0), .val (.int p1), .val (.long q2), .second, .val (.int p4), .val (.int p5), .val (.int p6), .val (.int ka200), .val (.int (0 : Int32)), .unset, .unset, .unset, .unset, .unset, .unset, .unset, .unset, .unset, .unset, .unset, .unset, .unset] []))
    refine OEnd.of (fun t k => XS.iload X0.here hx rfl (hb hby at_20) rfl k) ?_
    show OEnd p e below _ (s₁.setTop (mkF m 22 #[.val (.int p0), .val (.int p1), .val (.long q2), .second, .val (.int p4), .val (.int p5), .val (.int p6), .val (.int ka200), .val (.int (0 : Int32)), .unset, .unset, .unset, .unset, .unset, .unset, .unset, .unset, .unset, .unset, .unset, .unset, .unset] [(.int (0 : Int32))]))
    refine OEnd.of (fun t k => XS.ifYes X0.here hx rfl (pc0 := 22) (pc' := 30) rfl (hb hby at_22) rfl ((if0 _ _).trans (teq (by decide : ((0 : Int32) = (0 : Int32)))).1) (by decide) (by decide) k) ?_
    show OEnd p e below _ (s₁.setTop (mkF m 30 #[.val (.int p0), .val (.int p1), .val (.long q2), .second, .val (.int p4), .val (.int p5), .val (.int p6), .val (.int ka200), .val (.int (0 : Int32)), .unset, .unset, .unset, .unset, .unset, .unset, .unset, .unset, .unset, .unset, .unset, .unset, .unset] []))
    refine OEnd.of (fun t k => XS.iloadN X0.here hx rfl (hb hby at_30) rfl k) ?_
    show OEnd p e below _ (s₁.setTop (mkF m 31 #[.val (.int p0), .val (.int p1), .val (.long q2), .second, .val (.int p4), .val (.int p5), .val (.int p6), .val (.int ka200), .val (.int (0 : Int32)), .unset, .unset, .unset, .unset, .unset, .unset, .unset, .unset, .unset, .unset, .unset, .unset, .unset] [(.int p0)]))
    refine OEnd.of (fun t k => XS.iconst X0.here hx rfl (hb hby at_31) k) ?_
    show OEnd p e below _ (s₁.setTop (mkF m 32 #[.val (.int p0), .val (.int p1), .val (.long q2), .second, .val (.int p4), .val (.int p5), .val (.int p6), .val (.int ka200), .val (.int (0 : Int32)), .unset, .unset, .unset, .unset, .unset, .unset, .unset, .unset, .unset, .unset, .unset, .unset, .unset] [(.int (3 : Int32)), (.int p0)]))
    refine OEnd.of (fun t k => XS.iushr X0.here hx rfl (hb hby at_32) rfl k) ?_
    show OEnd p e below _ (s₁.setTop (mkF m 33 #[.val (.int p0), .val (.int p1), .val (.long q2), .second, .val (.int p4), .val (.int p5), .val (.int p6), .val (.int ka200), .val (.int (0 : Int32)), .unset, .unset, .unset, .unset, .unset, .unset, .unset, .unset, .unset, .unset, .unset, .unset, .unset] [(.int ((p0.toUInt32 >>> ((3 : Int32) &&& 31).toUInt32).toInt32))]))
    refine OEnd.of (fun t k => XS.bipush X0.here hx rfl (hb hby at_33) k) ?_
    show OEnd p e below _ (s₁.setTop (mkF m 35 #[.val (.int p0), .val (.int p1), .val (.long q2), .second, .val (.int p4), .val (.int p5), .val (.int p6), .val (.int ka200), .val (.int (0 : Int32)), .unset, .unset, .unset, .unset, .unset, .unset, .unset, .unset, .unset, .unset, .unset, .unset, .unset] [(.int (7 : Int32)), (.int ((p0.toUInt32 >>> ((3 : Int32) &&& 31).toUInt32).toInt32))]))
    refine OEnd.of (fun t k => XS.iand X0.here hx rfl (hb hby at_35) rfl k) ?_
    show OEnd p e below _ (s₁.setTop (mkF m 36 #[.val (.int p0), .val (.int p1), .val (.long q2), .second, .val (.int p4), .val (.int p5), .val (.int p6), .val (.int ka200), .val (.int (0 : Int32)), .unset, .unset, .unset, .unset, .unset, .unset, .unset, .unset, .unset, .unset, .unset, .unset, .unset] [(.int (((p0.toUInt32 >>> ((3 : Int32) &&& 31).toUInt32).toInt32) &&& (7 : Int32)))]))
    generalize q_xk319 : (((p0.toUInt32 >>> ((3 : Int32) &&& 31).toUInt32).toInt32) &&& (7 : Int32)) = xk319
    exact J201 _ s₁ _ (0 : Int32) xk319 X0 e0 N0 ⟨_, hS0, hk0⟩ hZ hown HR0 (own_r8 q_xk319)
  · refine OEnd.of (fun t k => XS.ifNo X0.here hx rfl (hb hby at_10) rfl ((if0 _ _).trans (feq hc318).1) k) ?_
    show OEnd p e below _ (s₁.setTop (mkF m 13 #[.val (.int p0), .val (.int p1), .val (.long q2), .second, .val (.int p4), .val (.int p5), .val (.int p6), .val (.int ka200), .unset, .unset, .unset, .unset, .unset, .unset, .unset, .unset, .unset, .unset, .unset, .unset, .unset, .unset] []))
    refine OEnd.of (fun t k => XS.iconst X0.here hx rfl (hb hby at_13) k) ?_
    show OEnd p e below _ (s₁.setTop (mkF m 14 #[.val (.int p0), .val (.int p1), .val (.long q2), .second, .val (.int p4), .val (.int p5), .val (.int p6), .val (.int ka200), .unset, .unset, .unset, .unset, .unset, .unset, .unset, .unset, .unset, .unset, .unset, .unset, .unset, .unset] [(.int (1 : Int32))]))
    refine OEnd.of (fun t k => XS.goto X0.here hx rfl (pc0 := 14) (pc' := 18) rfl (hb hby at_14) (by decide) (by decide) k) ?_
    show OEnd p e below _ (s₁.setTop (mkF m 18 #[.val (.int p0), .val (.int p1), .val (.long q2), .second, .val (.int p4), .val (.int p5), .val (.int p6), .val (.int ka200), .unset, .unset, .unset, .unset, .unset, .unset, .unset, .unset, .unset, .unset, .unset, .unset, .unset, .unset] [(.int (1 : Int32))]))
    refine OEnd.of (fun t k => XS.istore X0.here hx rfl (hb hby at_18) rfl (l' := #[.val (.int p0), .val (.int p1), .val (.long q2), .second, .val (.int p4), .val (.int p5), .val (.int p6), .val (.int ka200), .val (.int (1 : Int32)), .unset, .unset, .unset, .unset, .unset, .unset, .unset, .unset, .unset, .unset, .unset, .unset, .unset]) rfl k) ?_
    show OEnd p e below _ (s₁.setTop (mkF m 20 #[.val (.int p0), .val (.int p1), .val (.long q2), .second, .val (.int p4), .val (.int p5), .val (.int p6), .val (.int ka200), .val (.int (1 : Int32)), .unset, .unset, .unset, .unset, .unset, .unset, .unset, .unset, .unset, .unset, .unset, .unset, .unset] []))
    refine OEnd.of (fun t k => XS.iload X0.here hx rfl (hb hby at_20) rfl k) ?_
    show OEnd p e below _ (s₁.setTop (mkF m 22 #[.val (.int p0), .val (.int p1), .val (.long q2), .second, .val (.int p4), .val (.int p5), .val (.int p6), .val (.int ka200), .val (.int (1 : Int32)), .unset, .unset, .unset, .unset, .unset, .unset, .unset, .unset, .unset, .unset, .unset, .unset, .unset] [(.int (1 : Int32))]))
    refine OEnd.of (fun t k => XS.ifNo X0.here hx rfl (hb hby at_22) rfl ((if0 _ _).trans (feq (by decide : ¬ ((1 : Int32) = (0 : Int32)))).1) k) ?_
    show OEnd p e below _ (s₁.setTop (mkF m 25 #[.val (.int p0), .val (.int p1), .val (.long q2), .second, .val (.int p4), .val (.int p5), .val (.int p6), .val (.int ka200), .val (.int (1 : Int32)), .unset, .unset, .unset, .unset, .unset, .unset, .unset, .unset, .unset, .unset, .unset, .unset, .unset] []))
    refine OEnd.of (fun t k => XS.iload X0.here hx rfl (hb hby at_25) rfl k) ?_
    show OEnd p e below _ (s₁.setTop (mkF m 27 #[.val (.int p0), .val (.int p1), .val (.long q2), .second, .val (.int p4), .val (.int p5), .val (.int p6), .val (.int ka200), .val (.int (1 : Int32)), .unset, .unset, .unset, .unset, .unset, .unset, .unset, .unset, .unset, .unset, .unset, .unset, .unset] [(.int ka200)]))
    refine OEnd.of (fun t k => XS.goto X0.here hx rfl (pc0 := 27) (pc' := 36) rfl (hb hby at_27) (by decide) (by decide) k) ?_
    show OEnd p e below _ (s₁.setTop (mkF m 36 #[.val (.int p0), .val (.int p1), .val (.long q2), .second, .val (.int p4), .val (.int p5), .val (.int p6), .val (.int ka200), .val (.int (1 : Int32)), .unset, .unset, .unset, .unset, .unset, .unset, .unset, .unset, .unset, .unset, .unset, .unset, .unset] [(.int ka200)]))
    exact J201 _ s₁ _ (1 : Int32) ka200 X0 e0 N0 ⟨_, hS0, hk0⟩ hZ hown HR0 hka
set_option maxRecDepth 65536 in
set_option maxHeartbeats 40000000 in
theorem comes_1 {Post : Tables → Env → Array Value → State → Outcome → State → Prop} (hpost : ∀ tb e args s v u, (limb_1_1.after args s (.returned v) u = true ∧ limb_1_2.after args s (.returned v) u = true ∧ True) → ReturnedEndW s (.returned v) u (Jvm.fieldLocs frame_1_writes args s ++ Jvm.arrayLocs frame_1_arrays args s ++ Jvm.staticLocs frame_1_statics s) 32 3200 → Post tb e args s (.returned v) u) :
    ArmFor flags0 classFile x code maxLocals ret World_1 tables_1 room_1 Calls_1 rest_1 Pre_1 Post := by
  intro l hfl _ _ p e ha hc hk s m args below hf hA hF happ hP
  obtain ⟨hcalls, hrest, hpre⟩ := hP
  obtain ⟨-, -, -, hnamed, -, -, -, hat⟩ := (Spec.applies_iff hf).mp happ
  obtain ⟨hg, hn⟩ := and_e (Cond.before_iff.mp (show (Jvm.Cond.and given_1 narrow_1).before args s = true from hpre))
  obtain ⟨hcnt, hg0⟩ := and_e hg
  obtain ⟨ga0, hg1⟩ := and_e hg0
  obtain ⟨ga1, hg2⟩ := and_e hg1
  obtain ⟨ga2, hg3⟩ := and_e hg2
  obtain ⟨ga3, hg4⟩ := and_e hg3
  obtain ⟨ga4, hg5⟩ := and_e hg4
  have ga5 := hg5
  obtain ⟨w0, w1, w2, w3, w4, w5, rfl⟩ : ∃ w0 w1 w2 w3 w4 w5 : Value, args = #[w0, w1, w2, w3, w4, w5] := by
    have hs : args.size = 6 := by simpa [Cond.value, given_1] using hcnt
    obtain ⟨L⟩ := args
    match L, hs with
    | [w0, w1, w2, w3, w4, w5], _ => exact ⟨w0, w1, w2, w3, w4, w5, rfl⟩
  have hw := fun d (hd : d ∈ tables_1) => atoms_spec (ws := Jvm.Cond.code x code maxLocals ret :: tables_1) hat d (List.mem_cons_of_mem _ hd)
  have hfit : Fit s := fun {y c} hc i hi => by
    obtain ⟨ha, rfl⟩ := Array.getElem?_eq_some_iff.mp hc
    have q := List.all_eq_true.mp ((Array.all_eq_true_iff_forall_mem.mp hF) _ (Array.getElem_mem ha)) i (List.mem_range.mpr hi)
    simpa [Array.getElem?_eq_getElem hi] using q
  obtain ⟨hsets, hown0⟩ := atoms_of _ (rest_1_c_eq ▸ (show rest_1_c.before _ s = true from hrest))
  obtain ⟨i0, ei0⟩ := is_v ga0
  obtain rfl : w0 = (.int i0) := Option.some.inj ei0
  obtain ⟨i1, ei1⟩ := is_v ga1
  obtain rfl : w1 = (.int i1) := Option.some.inj ei1
  obtain ⟨i2, ei2⟩ := isL_v ga2
  obtain rfl : w2 = (.long i2) := Option.some.inj ei2
  obtain ⟨i3, ei3⟩ := is_v ga3
  obtain rfl : w3 = (.int i3) := Option.some.inj ei3
  obtain ⟨i4, ei4⟩ := is_v ga4
  obtain rfl : w4 = (.int i4) := Option.some.inj ei4
  obtain ⟨i5, ei5⟩ := is_v ga5
  obtain rfl : w5 = (.int i5) := Option.some.inj ei5
  have n3 := not_v (Cond.before_iff.mp (hsets _ (List.mem_of_getElem? (i := 2) rfl)))
  obtain ⟨zc, ezc⟩ := is_v (Cond.before_iff.mp (hsets _ (List.mem_of_getElem? (i := 1) rfl)))
  have S_CS : Sta s s.heap "java/lang/String" "COMPACT_STRINGS" "Z" (.int zc) := Sta.start ezc (Or.inl (hsets _ (List.mem_of_getElem? (i := 0) rfl)))
  have hzc : ¬ zc = (0 : Int32) := gotF (Cond.eq_ints ezc (Term.int_eval (0))) n3
  obtain ⟨na0, nb0⟩ := and_e hn
  obtain ⟨na1, nb1⟩ := and_e nb0
  obtain ⟨na2, nb2⟩ := and_e nb1
  obtain ⟨na3, nb3⟩ := and_e nb2
  obtain ⟨na4, nb4⟩ := and_e nb3
  obtain ⟨na5, nb5⟩ := and_e nb4
  obtain ⟨na6, nb6⟩ := and_e nb5
  obtain ⟨na7, nb7⟩ := and_e nb6
  obtain ⟨na8, nb8⟩ := and_e nb7
  obtain ⟨na9, nb9⟩ := and_e nb8
  obtain ⟨na10, nb10⟩ := and_e nb9
  obtain ⟨na11, nb11⟩ := and_e nb10
  obtain ⟨na12, nb12⟩ := and_e nb11
  obtain ⟨na13, nb13⟩ := and_e nb12
  obtain ⟨na14, nb14⟩ := and_e nb13
  obtain ⟨k_IDENTIFIER, e_k_IDENTIFIER⟩ := exa_v na0
  have S_IDENTIFIER : Sta s s.heap "com/example/thorough_topology/thoroughtopology/language/TokenKind" "IDENTIFIER" "Lcom/example/thorough_topology/thoroughtopology/language/TokenKind;" (.ref k_IDENTIFIER) := Sta.start e_k_IDENTIFIER (Or.inr ⟨(hw _ (List.mem_of_getElem? (i := 9) rfl)), (hw _ (List.mem_of_getElem? (i := 10) rfl))⟩)
  obtain ⟨k_INTEGER, e_k_INTEGER⟩ := exa_v na2
  have S_INTEGER : Sta s s.heap "com/example/thorough_topology/thoroughtopology/language/TokenKind" "INTEGER" "Lcom/example/thorough_topology/thoroughtopology/language/TokenKind;" (.ref k_INTEGER) := Sta.start e_k_INTEGER (Or.inr ⟨(hw _ (List.mem_of_getElem? (i := 9) rfl)), (hw _ (List.mem_of_getElem? (i := 86) rfl))⟩)
  obtain ⟨k_END, e_k_END⟩ := exa_v na1
  have S_END : Sta s s.heap "com/example/thorough_topology/thoroughtopology/language/TokenKind" "END" "Lcom/example/thorough_topology/thoroughtopology/language/TokenKind;" (.ref k_END) := Sta.start e_k_END (Or.inr ⟨(hw _ (List.mem_of_getElem? (i := 9) rfl)), (hw _ (List.mem_of_getElem? (i := 84) rfl))⟩)
  obtain ⟨k_ARCHITECTURE, e_k_ARCHITECTURE⟩ := exa_v na3
  have S_ARCHITECTURE : Sta s s.heap "com/example/thorough_topology/thoroughtopology/language/TokenKind" "ARCHITECTURE" "Lcom/example/thorough_topology/thoroughtopology/language/TokenKind;" (.ref k_ARCHITECTURE) := Sta.start e_k_ARCHITECTURE (Or.inr ⟨(hw _ (List.mem_of_getElem? (i := 9) rfl)), (hw _ (List.mem_of_getElem? (i := 88) rfl))⟩)
  obtain ⟨k_COLON, e_k_COLON⟩ := exa_v na10
  have S_COLON : Sta s s.heap "com/example/thorough_topology/thoroughtopology/language/TokenKind" "COLON" "Lcom/example/thorough_topology/thoroughtopology/language/TokenKind;" (.ref k_COLON) := Sta.start e_k_COLON (Or.inr ⟨(hw _ (List.mem_of_getElem? (i := 9) rfl)), (hw _ (List.mem_of_getElem? (i := 94) rfl))⟩)
  obtain ⟨k_MINUS_SIGN, e_k_MINUS_SIGN⟩ := exa_v na6
  have S_MINUS_SIGN : Sta s s.heap "com/example/thorough_topology/thoroughtopology/language/TokenKind" "MINUS_SIGN" "Lcom/example/thorough_topology/thoroughtopology/language/TokenKind;" (.ref k_MINUS_SIGN) := Sta.start e_k_MINUS_SIGN (Or.inr ⟨(hw _ (List.mem_of_getElem? (i := 9) rfl)), (hw _ (List.mem_of_getElem? (i := 90) rfl))⟩)
  obtain ⟨k_NOT, e_k_NOT⟩ := exa_v na14
  have S_NOT : Sta s s.heap "com/example/thorough_topology/thoroughtopology/language/TokenKind" "NOT" "Lcom/example/thorough_topology/thoroughtopology/language/TokenKind;" (.ref k_NOT) := Sta.start e_k_NOT (Or.inr ⟨(hw _ (List.mem_of_getElem? (i := 9) rfl)), (hw _ (List.mem_of_getElem? (i := 98) rfl))⟩)
  obtain ⟨k_SUBSET, e_k_SUBSET⟩ := exa_v na7
  have S_SUBSET : Sta s s.heap "com/example/thorough_topology/thoroughtopology/language/TokenKind" "SUBSET" "Lcom/example/thorough_topology/thoroughtopology/language/TokenKind;" (.ref k_SUBSET) := Sta.start e_k_SUBSET (Or.inr ⟨(hw _ (List.mem_of_getElem? (i := 9) rfl)), (hw _ (List.mem_of_getElem? (i := 92) rfl))⟩)
  let of : Addr → Int32 := fun k => match s.fieldOf? k "java/lang/Enum" "ordinal" "I" with | some (.int z) => z | _ => 0
  have E_IDENTIFIER := Exa.start e_k_IDENTIFIER na0
  have od_IDENTIFIER : of k_IDENTIFIER = 0 := by show (match s.fieldOf? k_IDENTIFIER _ _ _ with | some (.int z) => z | _ => 0) = _; rw [own_ordOf e_k_IDENTIFIER na5]
  have E_INTEGER := Exa.start e_k_INTEGER na2
  have od_INTEGER : of k_INTEGER = 1 := by show (match s.fieldOf? k_INTEGER _ _ _ with | some (.int z) => z | _ => 0) = _; rw [own_ordOf e_k_INTEGER na4]
  have E_END := Exa.start e_k_END na1
  have od_END : of k_END = 2 := by show (match s.fieldOf? k_END _ _ _ with | some (.int z) => z | _ => 0) = _; rw [own_ordOf e_k_END na13]
  have E_ARCHITECTURE := Exa.start e_k_ARCHITECTURE na3
  have od_ARCHITECTURE : of k_ARCHITECTURE = 3 := by show (match s.fieldOf? k_ARCHITECTURE _ _ _ with | some (.int z) => z | _ => 0) = _; rw [own_ordOf e_k_ARCHITECTURE na8]
  have E_COLON := Exa.start e_k_COLON na10
  have od_COLON : of k_COLON = 37 := by show (match s.fieldOf? k_COLON _ _ _ with | some (.int z) => z | _ => 0) = _; rw [own_ordOf e_k_COLON na11]
  have E_MINUS_SIGN := Exa.start e_k_MINUS_SIGN na6
  have od_MINUS_SIGN : of k_MINUS_SIGN = 55 := by show (match s.fieldOf? k_MINUS_SIGN _ _ _ with | some (.int z) => z | _ => 0) = _; rw [own_ordOf e_k_MINUS_SIGN na12]
  have E_NOT := Exa.start e_k_NOT na14
  have od_NOT : of k_NOT = 25 := by show (match s.fieldOf? k_NOT _ _ _ with | some (.int z) => z | _ => 0) = _; rw [own_ordOf e_k_NOT nb14]
  have E_SUBSET := Exa.start e_k_SUBSET na7
  have od_SUBSET : of k_SUBSET = 36 := by show (match s.fieldOf? k_SUBSET _ _ _ with | some (.int z) => z | _ => 0) = _; rw [own_ordOf e_k_SUBSET na9]
  have hEL : EW s #[(.int i0), (.int i1), (.long i2), (.int i3), (.int i4), (.int i5)] EL := (EW.cons (hw _ (List.mem_of_getElem? (i := 65) rfl)) (by decide) EW.nil)
  have hCH : CHv s EL s.vm s.heap := CHv.start hEL (fun p hp => hcalls.1 p (own_elIn p hp)) (hsets _ (List.mem_of_getElem? (i := 2) rfl)) (hw _ (List.mem_of_getElem? (i := 33) rfl)) (hw _ (List.mem_of_getElem? (i := 15) rfl))
  obtain ⟨n, o, h1, h2, h3, _, L, rfl, ⟨rfl, N, -⟩, -, hq⟩ := rm0 l s _ hw zc k_IDENTIFIER k_INTEGER k_END k_ARCHITECTURE k_COLON k_MINUS_SIGN k_NOT k_SUBSET of S_CS hzc S_IDENTIFIER S_INTEGER S_END S_ARCHITECTURE S_COLON S_MINUS_SIGN S_NOT S_SUBSET E_IDENTIFIER od_IDENTIFIER E_INTEGER od_INTEGER E_END od_END E_ARCHITECTURE od_ARCHITECTURE E_COLON od_COLON E_MINUS_SIGN od_MINUS_SIGN E_NOT od_NOT E_SUBSET od_SUBSET hEL tables_1 i0 i1 i2 i3 i4 i5  s.heap ⟨Nat.le_refl _, fun _ _ q => q⟩  p e ha hc hk s m _ below hf ((Spec.applies_iff_loose hf).mp happ).1 ⟨rfl, State.Warmed39.refl s, rfl, hCH⟩ trivial
  refine ⟨n, _, h1, h2, h3, hpost _ _ _ _ _ _ ⟨Cond.after_iff.mpr rfl, Cond.after_iff.mpr (eq_i res_at (Term.int_eval (1)) rfl), trivial⟩ ⟨hq.1, hq.2.1, hq.2.2.1, (hq.2.2.2.sift fun y hy => Or.inr (N y hy)).mono (by decide) (by decide)⟩⟩
theorem main_1_1 : Claimed_1_1 := comes_1 fun _ _ _ _ _ _ h hF => ⟨h.1, hF⟩
theorem main_1_2 : Claimed_1_2 := comes_1 fun _ _ _ _ _ _ h hF => ⟨h.2.1, hF⟩
end Jvm.Pilot.@@N@@
namespace Jvm.Pilot.@@N@@
open Jvm Jvm.ClassFile Sem Op Lib Jvm.Free Jvm.Stand Jvm.Pilot.@@N@@.Jvm.D
/-! MADE BY PROGRAM (witnessworld.py) out of the Statement's table words and the real class files: 23 classes; the members and pool entries that the words name. The judged class is class 1, her method 3. -/
namespace start1
open Jvm.ClassFile
def u (s : String) : CpInfo := .utf8 (stringToUtf16 s)
/-- a pool by its gaps: so many unusable entries, then the entry; so many at the end -/
def gap : Nat → List CpInfo → List CpInfo
  | 0, r => r
  | n + 1, r => .unusable :: gap n r
def poolList (es : List (Nat × CpInfo)) (last : Nat) : List CpInfo := es.foldr (fun e r => gap e.1 (e.2 :: r)) (gap last [])
def pool (es : List (Nat × CpInfo)) (last : Nat) : Array CpInfo := ⟨poolList es last⟩
def fileOf (pool : Array CpInfo) (this : Nat) (attrs : Array Attribute := #[]) (ms : Array MethodInfo := #[]) (fl : Nat := 33) (sup : Nat := 0) (ifs : Array Nat := #[]) (fds : Array FieldInfo := #[]) : ClassFile where
  minorVersion := 0
  majorVersion := 65
  constantPool := pool
  accessFlags := fl
  thisClass := this
  superClass := sup
  interfaces := ifs
  fields := fds
  methods := ms
  attributes := attrs
def plain (name : String) (sup : Option ClassId) : Class where
  name := name
  kind := .ordinary
  loader := none
  accessFlags := 33
  super := sup
  interfaces := #[]
  cf := none
  fields := #[]
  methods := #[]
  instanceTypes := #[]
  staticTypes := #[]
  resolved := #[]
  callSites := []
  init := .initialized
  statics := none
  mirror := none

def pool0 : Array CpInfo := pool [(5, u "<init>"), (0, u "()V"), (1, .class_ 10), (1, u "java/lang/Object")] 113

def k0c0 : Code := { maxStack := 0, maxLocals := 1, code := object_method_1_code, exceptionTable := #[], attributes := #[] }
def k0m0 : Method := { name := "<init>", desc := "()V", sig := { parameters := [], returnType := none }, accessFlags := 1, code := some k0c0 }
/-- java/lang/Object -/
def k0 : Class := { plain "java/lang/Object" none with
  accessFlags := 33
  interfaces := #[]
  cf := some (fileOf pool0 8 #[] #[{ accessFlags := 1, nameIndex := 5, descriptorIndex := 6, attributes := #[] }] 33 0 #[] #[])
  fields := #[]
  methods := #[k0m0]
  instanceTypes := #[]
  staticTypes := #[]
  resolved := Array.replicate 124 none
  statics := none }

def pool1 : Array CpInfo := pool [(2, .class_ 4), (1, u "java/lang/Object"), (0, u "<init>"), (0, u "()V"), (0, .fieldref 8 9), (0, .class_ 10), (0, .nameAndType 11 12), (0, u "com/example/thorough_topology/thoroughtopology/language/TokenKind"), (0, u "IDENTIFIER"), (0, u "Lcom/example/thorough_topology/thoroughtopology/language/TokenKind;"), (0, .fieldref 8 14), (0, .nameAndType 15 12), (0, u "INTEGER"), (0, .fieldref 8 17), (0, .nameAndType 18 12), (0, u "END"), (0, .fieldref 8 20), (0, .nameAndType 21 12), (0, u "ARCHITECTURE"), (0, .fieldref 8 23), (0, .nameAndType 24 12), (0, u "COLON"), (0, .fieldref 8 26), (0, .nameAndType 27 12), (0, u "MINUS_SIGN"), (0, .fieldref 8 29), (0, .nameAndType 30 12), (0, u "NOT"), (0, .fieldref 8 32), (0, .nameAndType 33 12), (0, u "SUBSET"), (0, .class_ 35), (0, u "java/lang/String"), (0, .methodref 34 37), (0, .nameAndType 5 38), (0, u "([C)V"), (0, .long 255), (1, .class_ 42), (0, u "com/example/thorough_topology/thoroughtopology/language/Token"), (0, .methodref 44 45), (0, .class_ 46), (0, .nameAndType 47 48), (0, u "com/example/thorough_topology/thoroughtopology/language/TokenEqualsPinLaw"), (0, u "kindOf"), (0, u "(I)Lcom/example/thorough_topology/thoroughtopology/language/TokenKind;"), (0, .methodref 44 50), (0, .nameAndType 51 52), (0, u "text"), (0, u "(ICC)Ljava/lang/String;"), (0, .methodref 41 54), (0, .nameAndType 5 55), (0, u "(Lcom/example/thorough_topology/thoroughtopology/language/TokenKind;Ljava/lang/String;I)V"), (0, .methodref 41 57), (0, .nameAndType 58 59), (0, u "equals"), (0, u "(Ljava/lang/Object;)Z"), (3, u "law"), (0, u "(IIJIII)Z")] 2

def k1m0 : Method := { name := "<init>", desc := "()V", sig := { parameters := [], returnType := none }, accessFlags := 1, code := none }
def k1c1 : Code := { maxStack := 2, maxLocals := 1, code := method_2_code, exceptionTable := #[], attributes := #[] }
def k1m1 : Method := { name := "kindOf", desc := "(I)Lcom/example/thorough_topology/thoroughtopology/language/TokenKind;", sig := { parameters := [.int], returnType := some (.object "com/example/thorough_topology/thoroughtopology/language/TokenKind") }, accessFlags := 10, code := some k1c1 }
def k1c2 : Code := { maxStack := 6, maxLocals := 3, code := method_3_code, exceptionTable := #[], attributes := #[] }
def k1m2 : Method := { name := "text", desc := "(ICC)Ljava/lang/String;", sig := { parameters := [.int, .char, .char], returnType := some (.object "java/lang/String") }, accessFlags := 10, code := some k1c2 }
def k1c3 : Code := { maxStack := 6, maxLocals := 22, code := code, exceptionTable := #[], attributes := #[] }
def k1m3 : Method := { name := "law", desc := "(IIJIII)Z", sig := { parameters := [.int, .int, .long, .int, .int, .int], returnType := some .boolean }, accessFlags := 9, code := some k1c3 }
/-- com/example/thorough_topology/thoroughtopology/language/TokenEqualsPinLaw -/
def k1 : Class := { plain "com/example/thorough_topology/thoroughtopology/language/TokenEqualsPinLaw" (some 0) with
  accessFlags := 49
  interfaces := #[]
  cf := some (fileOf pool1 44 #[] #[{ accessFlags := 1, nameIndex := 5, descriptorIndex := 6, attributes := #[] }, { accessFlags := 10, nameIndex := 47, descriptorIndex := 48, attributes := #[] }, { accessFlags := 10, nameIndex := 51, descriptorIndex := 52, attributes := #[] }, { accessFlags := 9, nameIndex := 63, descriptorIndex := 64, attributes := #[] }] 49 2 #[] #[])
  fields := #[]
  methods := #[k1m0, k1m1, k1m2, k1m3]
  instanceTypes := #[]
  staticTypes := #[]
  resolved := Array.replicate 67 none
  statics := none }

def pool2 : Array CpInfo := pool [(1, .methodref 2 3), (0, .class_ 4), (0, .nameAndType 5 6), (0, u "java/lang/Object"), (0, u "<init>"), (0, u "()V"), (0, .string 8), (0, u "kind"), (0, .methodref 10 11), (0, .class_ 12), (0, .nameAndType 13 14), (0, u "java/util/Objects"), (0, u "requireNonNull"), (0, u "(Ljava/lang/Object;Ljava/lang/String;)Ljava/lang/Object;"), (0, .class_ 16), (0, u "com/example/thorough_topology/thoroughtopology/language/TokenKind"), (0, .fieldref 18 19), (0, .class_ 20), (0, .nameAndType 8 21), (0, u "com/example/thorough_topology/thoroughtopology/language/Token"), (0, u "Lcom/example/thorough_topology/thoroughtopology/language/TokenKind;"), (0, .string 23), (0, u "text"), (0, .class_ 25), (0, u "java/lang/String"), (0, .fieldref 18 27), (0, .nameAndType 23 28), (0, u "Ljava/lang/String;"), (0, .fieldref 18 30), (0, .nameAndType 31 32), (0, u "line"), (0, u "I"), (0, .methodref 24 34), (0, .nameAndType 35 36), (0, u "equals"), (0, u "(Ljava/lang/Object;)Z"), (17, u "(Lcom/example/thorough_topology/thoroughtopology/language/TokenKind;Ljava/lang/String;I)V")] 25

def k2c0 : Code := { maxStack := 3, maxLocals := 4, code := prog_69_method_1_code, exceptionTable := #[], attributes := #[] }
def k2m0 : Method := { name := "<init>", desc := "(Lcom/example/thorough_topology/thoroughtopology/language/TokenKind;Ljava/lang/String;I)V", sig := { parameters := [(.object "com/example/thorough_topology/thoroughtopology/language/TokenKind"), (.object "java/lang/String"), .int], returnType := none }, accessFlags := 1, code := some k2c0 }
def k2c1 : Code := { maxStack := 2, maxLocals := 3, code := prog_69_method_5_code, exceptionTable := #[], attributes := #[] }
def k2m1 : Method := { name := "equals", desc := "(Ljava/lang/Object;)Z", sig := { parameters := [(.object "java/lang/Object")], returnType := some .boolean }, accessFlags := 1, code := some k2c1 }
/-- com/example/thorough_topology/thoroughtopology/language/Token -/
def k2 : Class := { plain "com/example/thorough_topology/thoroughtopology/language/Token" (some 0) with
  accessFlags := 33
  interfaces := #[]
  cf := some (fileOf pool2 18 #[] #[{ accessFlags := 1, nameIndex := 5, descriptorIndex := 54, attributes := #[] }, { accessFlags := 1, nameIndex := 35, descriptorIndex := 36, attributes := #[] }] 33 2 #[] #[{ accessFlags := 18, nameIndex := 8, descriptorIndex := 21, attributes := #[] }, { accessFlags := 18, nameIndex := 23, descriptorIndex := 28, attributes := #[] }, { accessFlags := 18, nameIndex := 31, descriptorIndex := 32, attributes := #[] }])
  fields := #[{ name := "kind", type := (.object "com/example/thorough_topology/thoroughtopology/language/TokenKind"), accessFlags := 18, slot := 0, constantValue := 0 }, { name := "text", type := (.object "java/lang/String"), accessFlags := 18, slot := 1, constantValue := 0 }, { name := "line", type := .int, accessFlags := 18, slot := 2, constantValue := 0 }]
  methods := #[k2m0, k2m1]
  instanceTypes := #[(.object "com/example/thorough_topology/thoroughtopology/language/TokenKind"), (.object "java/lang/String"), .int]
  staticTypes := #[]
  resolved := Array.replicate 80 none
  statics := none }

def pool3 : Array CpInfo := pool [(1, .class_ 2), (0, u "java/lang/constant/Constable"), (0, .class_ 4), (0, u "java/lang/Object")] 6

/-- java/lang/constant/Constable -/
def k3 : Class := { plain "java/lang/constant/Constable" (some 0) with
  accessFlags := 1537
  interfaces := #[]
  cf := some (fileOf pool3 1 #[] #[] 1537 3 #[] #[])
  fields := #[]
  methods := #[]
  instanceTypes := #[]
  staticTypes := #[]
  resolved := Array.replicate 11 none
  statics := none }

def pool4 : Array CpInfo := pool [(1, .class_ 2), (0, u "java/lang/Comparable"), (0, .class_ 4), (0, u "java/lang/Object")] 7

/-- java/lang/Comparable -/
def k4 : Class := { plain "java/lang/Comparable" (some 0) with
  accessFlags := 1537
  interfaces := #[]
  cf := some (fileOf pool4 1 #[] #[] 1537 3 #[] #[])
  fields := #[]
  methods := #[]
  instanceTypes := #[]
  staticTypes := #[]
  resolved := Array.replicate 12 none
  statics := none }

def pool5 : Array CpInfo := pool [(1, .class_ 2), (0, u "java/io/Serializable"), (0, .class_ 4), (0, u "java/lang/Object")] 2

/-- java/io/Serializable -/
def k5 : Class := { plain "java/io/Serializable" (some 0) with
  accessFlags := 1537
  interfaces := #[]
  cf := some (fileOf pool5 1 #[] #[] 1537 3 #[] #[])
  fields := #[]
  methods := #[]
  instanceTypes := #[]
  staticTypes := #[]
  resolved := Array.replicate 7 none
  statics := none }

def pool6 : Array CpInfo := pool [(2, .class_ 4), (1, u "java/lang/Enum"), (0, u "name"), (0, u "Ljava/lang/String;"), (2, u "ordinal"), (0, u "I"), (1, .class_ 14), (1, u "java/lang/Object"), (4, u "hash"), (86, .class_ 108), (1, u "java/lang/Enum$EnumDesc"), (2, .class_ 112), (0, u "java/lang/constant/Constable"), (0, .class_ 114), (0, u "java/lang/Comparable"), (0, .class_ 116), (0, u "java/io/Serializable")] 87

/-- java/lang/Enum -/
def k6 : Class := { plain "java/lang/Enum" (some 0) with
  accessFlags := 1057
  interfaces := #[3, 4, 5]
  cf := some (fileOf pool6 2 #[.nestMembers #[106]] #[] 1057 12 #[111, 113, 115] #[{ accessFlags := 18, nameIndex := 5, descriptorIndex := 6, attributes := #[] }, { accessFlags := 18, nameIndex := 9, descriptorIndex := 10, attributes := #[] }, { accessFlags := 2, nameIndex := 19, descriptorIndex := 10, attributes := #[] }])
  fields := #[{ name := "name", type := (.object "java/lang/String"), accessFlags := 18, slot := 0, constantValue := 0 }, { name := "ordinal", type := .int, accessFlags := 18, slot := 1, constantValue := 0 }, { name := "hash", type := .int, accessFlags := 2, slot := 2, constantValue := 0 }]
  methods := #[]
  instanceTypes := #[(.object "java/lang/String"), .int, .int]
  staticTypes := #[]
  resolved := Array.replicate 204 none
  statics := none }

def pool7 : Array CpInfo := pool [(1, .class_ 2), (0, u "com/example/thorough_topology/thoroughtopology/language/TokenKind"), (2, u "IDENTIFIER"), (0, u "Lcom/example/thorough_topology/thoroughtopology/language/TokenKind;"), (2, u "INTEGER"), (2, u "END"), (2, u "ARCHITECTURE"), (2, u "PARAMETERS"), (2, u "COMPONENTS"), (2, u "CONNECTIONS"), (2, u "INITIAL"), (2, u "INVARIANT"), (2, u "RECONFIGURATIONS"), (2, u "CONFIGURATION"), (2, u "PROPERTY"), (2, u "NO"), (2, u "FLOW"), (2, u "FROM"), (2, u "TO"), (2, u "WHEN"), (2, u "SET"), (2, u "OF"), (2, u "INDICES"), (2, u "BOOL"), (2, u "INT"), (2, u "INDEXED"), (2, u "BY"), (2, u "IN"), (2, u "NOT"), (2, u "AND"), (2, u "OR"), (2, u "TRUE"), (2, u "FALSE"), (2, u "FORALL"), (2, u "EXISTS"), (2, u "NEXT"), (2, u "UNION"), (2, u "INTER"), (2, u "MINUS"), (2, u "SUBSET"), (2, u "COLON"), (2, u "SEMICOLON"), (2, u "COMMA"), (2, u "LEFT_BRACKET"), (2, u "RIGHT_BRACKET"), (2, u "LEFT_PAREN"), (2, u "RIGHT_PAREN"), (2, u "LEFT_BRACE"), (2, u "RIGHT_BRACE"), (2, u "ARROW"), (2, u "DOUBLE_ARROW"), (2, u "EQUAL"), (2, u "NOT_EQUAL"), (2, u "LESS"), (2, u "LESS_EQUAL"), (2, u "GREATER"), (2, u "GREATER_EQUAL"), (2, u "PLUS_SIGN"), (2, u "MINUS_SIGN"), (2, u "$VALUES"), (0, u "[Lcom/example/thorough_topology/thoroughtopology/language/TokenKind;"), (6, .class_ 184), (1, u "java/lang/Enum"), (8, u "spelling"), (0, u "Ljava/lang/String;")] 197

/-- com/example/thorough_topology/thoroughtopology/language/TokenKind -/
def k7 : Class := { plain "com/example/thorough_topology/thoroughtopology/language/TokenKind" (some 6) with
  accessFlags := 16433
  interfaces := #[]
  cf := some (fileOf pool7 1 #[] #[] 16433 182 #[] #[{ accessFlags := 16409, nameIndex := 5, descriptorIndex := 6, attributes := #[] }, { accessFlags := 16409, nameIndex := 9, descriptorIndex := 6, attributes := #[] }, { accessFlags := 16409, nameIndex := 12, descriptorIndex := 6, attributes := #[] }, { accessFlags := 16409, nameIndex := 15, descriptorIndex := 6, attributes := #[] }, { accessFlags := 16409, nameIndex := 18, descriptorIndex := 6, attributes := #[] }, { accessFlags := 16409, nameIndex := 21, descriptorIndex := 6, attributes := #[] }, { accessFlags := 16409, nameIndex := 24, descriptorIndex := 6, attributes := #[] }, { accessFlags := 16409, nameIndex := 27, descriptorIndex := 6, attributes := #[] }, { accessFlags := 16409, nameIndex := 30, descriptorIndex := 6, attributes := #[] }, { accessFlags := 16409, nameIndex := 33, descriptorIndex := 6, attributes := #[] }, { accessFlags := 16409, nameIndex := 36, descriptorIndex := 6, attributes := #[] }, { accessFlags := 16409, nameIndex := 39, descriptorIndex := 6, attributes := #[] }, { accessFlags := 16409, nameIndex := 42, descriptorIndex := 6, attributes := #[] }, { accessFlags := 16409, nameIndex := 45, descriptorIndex := 6, attributes := #[] }, { accessFlags := 16409, nameIndex := 48, descriptorIndex := 6, attributes := #[] }, { accessFlags := 16409, nameIndex := 51, descriptorIndex := 6, attributes := #[] }, { accessFlags := 16409, nameIndex := 54, descriptorIndex := 6, attributes := #[] }, { accessFlags := 16409, nameIndex := 57, descriptorIndex := 6, attributes := #[] }, { accessFlags := 16409, nameIndex := 60, descriptorIndex := 6, attributes := #[] }, { accessFlags := 16409, nameIndex := 63, descriptorIndex := 6, attributes := #[] }, { accessFlags := 16409, nameIndex := 66, descriptorIndex := 6, attributes := #[] }, { accessFlags := 16409, nameIndex := 69, descriptorIndex := 6, attributes := #[] }, { accessFlags := 16409, nameIndex := 72, descriptorIndex := 6, attributes := #[] }, { accessFlags := 16409, nameIndex := 75, descriptorIndex := 6, attributes := #[] }, { accessFlags := 16409, nameIndex := 78, descriptorIndex := 6, attributes := #[] }, { accessFlags := 16409, nameIndex := 81, descriptorIndex := 6, attributes := #[] }, { accessFlags := 16409, nameIndex := 84, descriptorIndex := 6, attributes := #[] }, { accessFlags := 16409, nameIndex := 87, descriptorIndex := 6, attributes := #[] }, { accessFlags := 16409, nameIndex := 90, descriptorIndex := 6, attributes := #[] }, { accessFlags := 16409, nameIndex := 93, descriptorIndex := 6, attributes := #[] }, { accessFlags := 16409, nameIndex := 96, descriptorIndex := 6, attributes := #[] }, { accessFlags := 16409, nameIndex := 99, descriptorIndex := 6, attributes := #[] }, { accessFlags := 16409, nameIndex := 102, descriptorIndex := 6, attributes := #[] }, { accessFlags := 16409, nameIndex := 105, descriptorIndex := 6, attributes := #[] }, { accessFlags := 16409, nameIndex := 108, descriptorIndex := 6, attributes := #[] }, { accessFlags := 16409, nameIndex := 111, descriptorIndex := 6, attributes := #[] }, { accessFlags := 16409, nameIndex := 114, descriptorIndex := 6, attributes := #[] }, { accessFlags := 16409, nameIndex := 117, descriptorIndex := 6, attributes := #[] }, { accessFlags := 16409, nameIndex := 120, descriptorIndex := 6, attributes := #[] }, { accessFlags := 16409, nameIndex := 123, descriptorIndex := 6, attributes := #[] }, { accessFlags := 16409, nameIndex := 126, descriptorIndex := 6, attributes := #[] }, { accessFlags := 16409, nameIndex := 129, descriptorIndex := 6, attributes := #[] }, { accessFlags := 16409, nameIndex := 132, descriptorIndex := 6, attributes := #[] }, { accessFlags := 16409, nameIndex := 135, descriptorIndex := 6, attributes := #[] }, { accessFlags := 16409, nameIndex := 138, descriptorIndex := 6, attributes := #[] }, { accessFlags := 16409, nameIndex := 141, descriptorIndex := 6, attributes := #[] }, { accessFlags := 16409, nameIndex := 144, descriptorIndex := 6, attributes := #[] }, { accessFlags := 16409, nameIndex := 147, descriptorIndex := 6, attributes := #[] }, { accessFlags := 16409, nameIndex := 150, descriptorIndex := 6, attributes := #[] }, { accessFlags := 16409, nameIndex := 153, descriptorIndex := 6, attributes := #[] }, { accessFlags := 16409, nameIndex := 156, descriptorIndex := 6, attributes := #[] }, { accessFlags := 16409, nameIndex := 159, descriptorIndex := 6, attributes := #[] }, { accessFlags := 16409, nameIndex := 162, descriptorIndex := 6, attributes := #[] }, { accessFlags := 16409, nameIndex := 165, descriptorIndex := 6, attributes := #[] }, { accessFlags := 16409, nameIndex := 168, descriptorIndex := 6, attributes := #[] }, { accessFlags := 16409, nameIndex := 171, descriptorIndex := 6, attributes := #[] }, { accessFlags := 18, nameIndex := 193, descriptorIndex := 194, attributes := #[] }, { accessFlags := 4122, nameIndex := 174, descriptorIndex := 175, attributes := #[] }])
  fields := #[{ name := "IDENTIFIER", type := (.object "com/example/thorough_topology/thoroughtopology/language/TokenKind"), accessFlags := 16409, slot := 0, constantValue := 0 }, { name := "INTEGER", type := (.object "com/example/thorough_topology/thoroughtopology/language/TokenKind"), accessFlags := 16409, slot := 1, constantValue := 0 }, { name := "END", type := (.object "com/example/thorough_topology/thoroughtopology/language/TokenKind"), accessFlags := 16409, slot := 2, constantValue := 0 }, { name := "ARCHITECTURE", type := (.object "com/example/thorough_topology/thoroughtopology/language/TokenKind"), accessFlags := 16409, slot := 3, constantValue := 0 }, { name := "PARAMETERS", type := (.object "com/example/thorough_topology/thoroughtopology/language/TokenKind"), accessFlags := 16409, slot := 4, constantValue := 0 }, { name := "COMPONENTS", type := (.object "com/example/thorough_topology/thoroughtopology/language/TokenKind"), accessFlags := 16409, slot := 5, constantValue := 0 }, { name := "CONNECTIONS", type := (.object "com/example/thorough_topology/thoroughtopology/language/TokenKind"), accessFlags := 16409, slot := 6, constantValue := 0 }, { name := "INITIAL", type := (.object "com/example/thorough_topology/thoroughtopology/language/TokenKind"), accessFlags := 16409, slot := 7, constantValue := 0 }, { name := "INVARIANT", type := (.object "com/example/thorough_topology/thoroughtopology/language/TokenKind"), accessFlags := 16409, slot := 8, constantValue := 0 }, { name := "RECONFIGURATIONS", type := (.object "com/example/thorough_topology/thoroughtopology/language/TokenKind"), accessFlags := 16409, slot := 9, constantValue := 0 }, { name := "CONFIGURATION", type := (.object "com/example/thorough_topology/thoroughtopology/language/TokenKind"), accessFlags := 16409, slot := 10, constantValue := 0 }, { name := "PROPERTY", type := (.object "com/example/thorough_topology/thoroughtopology/language/TokenKind"), accessFlags := 16409, slot := 11, constantValue := 0 }, { name := "NO", type := (.object "com/example/thorough_topology/thoroughtopology/language/TokenKind"), accessFlags := 16409, slot := 12, constantValue := 0 }, { name := "FLOW", type := (.object "com/example/thorough_topology/thoroughtopology/language/TokenKind"), accessFlags := 16409, slot := 13, constantValue := 0 }, { name := "FROM", type := (.object "com/example/thorough_topology/thoroughtopology/language/TokenKind"), accessFlags := 16409, slot := 14, constantValue := 0 }, { name := "TO", type := (.object "com/example/thorough_topology/thoroughtopology/language/TokenKind"), accessFlags := 16409, slot := 15, constantValue := 0 }, { name := "WHEN", type := (.object "com/example/thorough_topology/thoroughtopology/language/TokenKind"), accessFlags := 16409, slot := 16, constantValue := 0 }, { name := "SET", type := (.object "com/example/thorough_topology/thoroughtopology/language/TokenKind"), accessFlags := 16409, slot := 17, constantValue := 0 }, { name := "OF", type := (.object "com/example/thorough_topology/thoroughtopology/language/TokenKind"), accessFlags := 16409, slot := 18, constantValue := 0 }, { name := "INDICES", type := (.object "com/example/thorough_topology/thoroughtopology/language/TokenKind"), accessFlags := 16409, slot := 19, constantValue := 0 }, { name := "BOOL", type := (.object "com/example/thorough_topology/thoroughtopology/language/TokenKind"), accessFlags := 16409, slot := 20, constantValue := 0 }, { name := "INT", type := (.object "com/example/thorough_topology/thoroughtopology/language/TokenKind"), accessFlags := 16409, slot := 21, constantValue := 0 }, { name := "INDEXED", type := (.object "com/example/thorough_topology/thoroughtopology/language/TokenKind"), accessFlags := 16409, slot := 22, constantValue := 0 }, { name := "BY", type := (.object "com/example/thorough_topology/thoroughtopology/language/TokenKind"), accessFlags := 16409, slot := 23, constantValue := 0 }, { name := "IN", type := (.object "com/example/thorough_topology/thoroughtopology/language/TokenKind"), accessFlags := 16409, slot := 24, constantValue := 0 }, { name := "NOT", type := (.object "com/example/thorough_topology/thoroughtopology/language/TokenKind"), accessFlags := 16409, slot := 25, constantValue := 0 }, { name := "AND", type := (.object "com/example/thorough_topology/thoroughtopology/language/TokenKind"), accessFlags := 16409, slot := 26, constantValue := 0 }, { name := "OR", type := (.object "com/example/thorough_topology/thoroughtopology/language/TokenKind"), accessFlags := 16409, slot := 27, constantValue := 0 }, { name := "TRUE", type := (.object "com/example/thorough_topology/thoroughtopology/language/TokenKind"), accessFlags := 16409, slot := 28, constantValue := 0 }, { name := "FALSE", type := (.object "com/example/thorough_topology/thoroughtopology/language/TokenKind"), accessFlags := 16409, slot := 29, constantValue := 0 }, { name := "FORALL", type := (.object "com/example/thorough_topology/thoroughtopology/language/TokenKind"), accessFlags := 16409, slot := 30, constantValue := 0 }, { name := "EXISTS", type := (.object "com/example/thorough_topology/thoroughtopology/language/TokenKind"), accessFlags := 16409, slot := 31, constantValue := 0 }, { name := "NEXT", type := (.object "com/example/thorough_topology/thoroughtopology/language/TokenKind"), accessFlags := 16409, slot := 32, constantValue := 0 }, { name := "UNION", type := (.object "com/example/thorough_topology/thoroughtopology/language/TokenKind"), accessFlags := 16409, slot := 33, constantValue := 0 }, { name := "INTER", type := (.object "com/example/thorough_topology/thoroughtopology/language/TokenKind"), accessFlags := 16409, slot := 34, constantValue := 0 }, { name := "MINUS", type := (.object "com/example/thorough_topology/thoroughtopology/language/TokenKind"), accessFlags := 16409, slot := 35, constantValue := 0 }, { name := "SUBSET", type := (.object "com/example/thorough_topology/thoroughtopology/language/TokenKind"), accessFlags := 16409, slot := 36, constantValue := 0 }, { name := "COLON", type := (.object "com/example/thorough_topology/thoroughtopology/language/TokenKind"), accessFlags := 16409, slot := 37, constantValue := 0 }, { name := "SEMICOLON", type := (.object "com/example/thorough_topology/thoroughtopology/language/TokenKind"), accessFlags := 16409, slot := 38, constantValue := 0 }, { name := "COMMA", type := (.object "com/example/thorough_topology/thoroughtopology/language/TokenKind"), accessFlags := 16409, slot := 39, constantValue := 0 }, { name := "LEFT_BRACKET", type := (.object "com/example/thorough_topology/thoroughtopology/language/TokenKind"), accessFlags := 16409, slot := 40, constantValue := 0 }, { name := "RIGHT_BRACKET", type := (.object "com/example/thorough_topology/thoroughtopology/language/TokenKind"), accessFlags := 16409, slot := 41, constantValue := 0 }, { name := "LEFT_PAREN", type := (.object "com/example/thorough_topology/thoroughtopology/language/TokenKind"), accessFlags := 16409, slot := 42, constantValue := 0 }, { name := "RIGHT_PAREN", type := (.object "com/example/thorough_topology/thoroughtopology/language/TokenKind"), accessFlags := 16409, slot := 43, constantValue := 0 }, { name := "LEFT_BRACE", type := (.object "com/example/thorough_topology/thoroughtopology/language/TokenKind"), accessFlags := 16409, slot := 44, constantValue := 0 }, { name := "RIGHT_BRACE", type := (.object "com/example/thorough_topology/thoroughtopology/language/TokenKind"), accessFlags := 16409, slot := 45, constantValue := 0 }, { name := "ARROW", type := (.object "com/example/thorough_topology/thoroughtopology/language/TokenKind"), accessFlags := 16409, slot := 46, constantValue := 0 }, { name := "DOUBLE_ARROW", type := (.object "com/example/thorough_topology/thoroughtopology/language/TokenKind"), accessFlags := 16409, slot := 47, constantValue := 0 }, { name := "EQUAL", type := (.object "com/example/thorough_topology/thoroughtopology/language/TokenKind"), accessFlags := 16409, slot := 48, constantValue := 0 }, { name := "NOT_EQUAL", type := (.object "com/example/thorough_topology/thoroughtopology/language/TokenKind"), accessFlags := 16409, slot := 49, constantValue := 0 }, { name := "LESS", type := (.object "com/example/thorough_topology/thoroughtopology/language/TokenKind"), accessFlags := 16409, slot := 50, constantValue := 0 }, { name := "LESS_EQUAL", type := (.object "com/example/thorough_topology/thoroughtopology/language/TokenKind"), accessFlags := 16409, slot := 51, constantValue := 0 }, { name := "GREATER", type := (.object "com/example/thorough_topology/thoroughtopology/language/TokenKind"), accessFlags := 16409, slot := 52, constantValue := 0 }, { name := "GREATER_EQUAL", type := (.object "com/example/thorough_topology/thoroughtopology/language/TokenKind"), accessFlags := 16409, slot := 53, constantValue := 0 }, { name := "PLUS_SIGN", type := (.object "com/example/thorough_topology/thoroughtopology/language/TokenKind"), accessFlags := 16409, slot := 54, constantValue := 0 }, { name := "MINUS_SIGN", type := (.object "com/example/thorough_topology/thoroughtopology/language/TokenKind"), accessFlags := 16409, slot := 55, constantValue := 0 }, { name := "spelling", type := (.object "java/lang/String"), accessFlags := 18, slot := 3, constantValue := 0 }, { name := "$VALUES", type := (.array (.object "com/example/thorough_topology/thoroughtopology/language/TokenKind")), accessFlags := 4122, slot := 56, constantValue := 0 }]
  methods := #[]
  instanceTypes := #[(.object "java/lang/String"), .int, .int, (.object "java/lang/String")]
  staticTypes := #[(.object "com/example/thorough_topology/thoroughtopology/language/TokenKind"), (.object "com/example/thorough_topology/thoroughtopology/language/TokenKind"), (.object "com/example/thorough_topology/thoroughtopology/language/TokenKind"), (.object "com/example/thorough_topology/thoroughtopology/language/TokenKind"), (.object "com/example/thorough_topology/thoroughtopology/language/TokenKind"), (.object "com/example/thorough_topology/thoroughtopology/language/TokenKind"), (.object "com/example/thorough_topology/thoroughtopology/language/TokenKind"), (.object "com/example/thorough_topology/thoroughtopology/language/TokenKind"), (.object "com/example/thorough_topology/thoroughtopology/language/TokenKind"), (.object "com/example/thorough_topology/thoroughtopology/language/TokenKind"), (.object "com/example/thorough_topology/thoroughtopology/language/TokenKind"), (.object "com/example/thorough_topology/thoroughtopology/language/TokenKind"), (.object "com/example/thorough_topology/thoroughtopology/language/TokenKind"), (.object "com/example/thorough_topology/thoroughtopology/language/TokenKind"), (.object "com/example/thorough_topology/thoroughtopology/language/TokenKind"), (.object "com/example/thorough_topology/thoroughtopology/language/TokenKind"), (.object "com/example/thorough_topology/thoroughtopology/language/TokenKind"), (.object "com/example/thorough_topology/thoroughtopology/language/TokenKind"), (.object "com/example/thorough_topology/thoroughtopology/language/TokenKind"), (.object "com/example/thorough_topology/thoroughtopology/language/TokenKind"), (.object "com/example/thorough_topology/thoroughtopology/language/TokenKind"), (.object "com/example/thorough_topology/thoroughtopology/language/TokenKind"), (.object "com/example/thorough_topology/thoroughtopology/language/TokenKind"), (.object "com/example/thorough_topology/thoroughtopology/language/TokenKind"), (.object "com/example/thorough_topology/thoroughtopology/language/TokenKind"), (.object "com/example/thorough_topology/thoroughtopology/language/TokenKind"), (.object "com/example/thorough_topology/thoroughtopology/language/TokenKind"), (.object "com/example/thorough_topology/thoroughtopology/language/TokenKind"), (.object "com/example/thorough_topology/thoroughtopology/language/TokenKind"), (.object "com/example/thorough_topology/thoroughtopology/language/TokenKind"), (.object "com/example/thorough_topology/thoroughtopology/language/TokenKind"), (.object "com/example/thorough_topology/thoroughtopology/language/TokenKind"), (.object "com/example/thorough_topology/thoroughtopology/language/TokenKind"), (.object "com/example/thorough_topology/thoroughtopology/language/TokenKind"), (.object "com/example/thorough_topology/thoroughtopology/language/TokenKind"), (.object "com/example/thorough_topology/thoroughtopology/language/TokenKind"), (.object "com/example/thorough_topology/thoroughtopology/language/TokenKind"), (.object "com/example/thorough_topology/thoroughtopology/language/TokenKind"), (.object "com/example/thorough_topology/thoroughtopology/language/TokenKind"), (.object "com/example/thorough_topology/thoroughtopology/language/TokenKind"), (.object "com/example/thorough_topology/thoroughtopology/language/TokenKind"), (.object "com/example/thorough_topology/thoroughtopology/language/TokenKind"), (.object "com/example/thorough_topology/thoroughtopology/language/TokenKind"), (.object "com/example/thorough_topology/thoroughtopology/language/TokenKind"), (.object "com/example/thorough_topology/thoroughtopology/language/TokenKind"), (.object "com/example/thorough_topology/thoroughtopology/language/TokenKind"), (.object "com/example/thorough_topology/thoroughtopology/language/TokenKind"), (.object "com/example/thorough_topology/thoroughtopology/language/TokenKind"), (.object "com/example/thorough_topology/thoroughtopology/language/TokenKind"), (.object "com/example/thorough_topology/thoroughtopology/language/TokenKind"), (.object "com/example/thorough_topology/thoroughtopology/language/TokenKind"), (.object "com/example/thorough_topology/thoroughtopology/language/TokenKind"), (.object "com/example/thorough_topology/thoroughtopology/language/TokenKind"), (.object "com/example/thorough_topology/thoroughtopology/language/TokenKind"), (.object "com/example/thorough_topology/thoroughtopology/language/TokenKind"), (.object "com/example/thorough_topology/thoroughtopology/language/TokenKind"), (.array (.object "com/example/thorough_topology/thoroughtopology/language/TokenKind"))]
  resolved := Array.replicate 392 none
  statics := some 0 }

def pool8 : Array CpInfo := pool [(2, .class_ 4), (1, u "java/lang/CharSequence"), (42, .class_ 48), (0, u "java/lang/CharSequence$1CodePointIterator"), (10, .class_ 60), (0, u "java/lang/CharSequence$1CharIterator"), (5, .class_ 67), (0, u "java/lang/Object")] 63

/-- java/lang/CharSequence -/
def k8 : Class := { plain "java/lang/CharSequence" (some 0) with
  accessFlags := 1537
  interfaces := #[]
  cf := some (fileOf pool8 2 #[.nestMembers #[47, 59]] #[] 1537 66 #[] #[])
  fields := #[]
  methods := #[]
  instanceTypes := #[]
  staticTypes := #[]
  resolved := Array.replicate 131 none
  statics := none }

def pool9 : Array CpInfo := pool [(1, .class_ 2), (0, u "java/lang/constant/ConstantDesc"), (0, .class_ 4), (0, u "java/lang/Object")] 32

/-- java/lang/constant/ConstantDesc -/
def k9 : Class := { plain "java/lang/constant/ConstantDesc" (some 0) with
  accessFlags := 1537
  interfaces := #[]
  cf := some (fileOf pool9 1 #[] #[] 1537 3 #[] #[])
  fields := #[]
  methods := #[]
  instanceTypes := #[]
  staticTypes := #[]
  resolved := Array.replicate 37 none
  statics := none }

def pool10 : Array CpInfo := pool [(1, .methodref 2 3), (0, .class_ 4), (0, .nameAndType 5 6), (0, u "java/lang/Object"), (0, u "<init>"), (0, u "()V"), (0, .string 8), (0, u ""), (0, .fieldref 10 11), (0, .class_ 12), (0, .nameAndType 13 14), (0, u "java/lang/String"), (0, u "value"), (0, u "[B"), (0, .fieldref 10 16), (0, .nameAndType 17 18), (0, u "coder"), (0, u "B"), (2, u "hash"), (0, u "I"), (2, u "hashIsZero"), (0, u "Z"), (0, .methodref 10 28), (0, .nameAndType 5 29), (0, u "([CIILjava/lang/Void;)V"), (8, .fieldref 10 39), (0, .nameAndType 40 26), (0, u "COMPACT_STRINGS"), (1, .class_ 44), (1, u "java/lang/StringUTF16"), (0, u "compress"), (1, .methodref 42 48), (0, .nameAndType 49 50), (0, u "coderFromArrayLen"), (0, u "([BI)B"), (56, .class_ 109), (1, u "java/lang/StringLatin1"), (67, .methodref 42 178), (0, .nameAndType 45 179), (0, u "([CII)[B"), (361, .methodref 107 542), (0, .nameAndType 543 544), (0, u "equals"), (0, u "([B[B)Z"), (28, u "(Ljava/lang/Object;)Z"), (1, .class_ 576), (0, u "java/lang/CharSequence"), (22, u "CASE_INSENSITIVE_ORDER"), (0, u "Ljava/util/Comparator;"), (409, u "([C)V"), (90, u "serialPersistentFields"), (0, u "[Ljava/io/ObjectStreamField;"), (0, .class_ 1104), (0, u "java/lang/String$CaseInsensitiveComparator"), (1, .class_ 1107), (0, u "java/io/Serializable"), (0, .class_ 1109), (0, u "java/lang/Comparable"), (0, .class_ 1111), (0, u "java/lang/constant/Constable"), (0, .class_ 1113), (0, u "java/lang/constant/ConstantDesc"), (2, u "serialVersionUID"), (0, u "J"), (3, u "REPL"), (0, u "C"), (2, u "LATIN1"), (1, u "UTF16")] 323

def k10m0 : Method := { name := "<init>", desc := "()V", sig := { parameters := [], returnType := none }, accessFlags := 1, code := none }
def k10c1 : Code := { maxStack := 5, maxLocals := 2, code := jdk_42_method_3_code, exceptionTable := #[], attributes := #[] }
def k10m1 : Method := { name := "<init>", desc := "([C)V", sig := { parameters := [(.array .char)], returnType := none }, accessFlags := 1, code := some k10c1 }
def k10c2 : Code := { maxStack := 2, maxLocals := 3, code := jdk_42_method_66_code, exceptionTable := #[], attributes := #[] }
def k10m2 : Method := { name := "equals", desc := "(Ljava/lang/Object;)Z", sig := { parameters := [(.object "java/lang/Object")], returnType := some .boolean }, accessFlags := 1, code := some k10c2 }
def k10c3 : Code := { maxStack := 4, maxLocals := 6, code := jdk_42_method_149_code, exceptionTable := #[], attributes := #[] }
def k10m3 : Method := { name := "<init>", desc := "([CIILjava/lang/Void;)V", sig := { parameters := [(.array .char), .int, .int, (.object "java/lang/Void")], returnType := none }, accessFlags := 2, code := some k10c3 }
/-- java/lang/String -/
def k10 : Class := { plain "java/lang/String" (some 0) with
  accessFlags := 49
  interfaces := #[5, 4, 8, 3, 9]
  cf := some (fileOf pool10 10 #[.nestMembers #[1103]] #[{ accessFlags := 1, nameIndex := 5, descriptorIndex := 6, attributes := #[] }, { accessFlags := 1, nameIndex := 5, descriptorIndex := 1010, attributes := #[] }, { accessFlags := 1, nameIndex := 543, descriptorIndex := 573, attributes := #[] }, { accessFlags := 2, nameIndex := 5, descriptorIndex := 29, attributes := #[] }] 49 2 #[1106, 1108, 575, 1110, 1112] #[{ accessFlags := 18, nameIndex := 13, descriptorIndex := 14, attributes := #[] }, { accessFlags := 18, nameIndex := 17, descriptorIndex := 18, attributes := #[] }, { accessFlags := 2, nameIndex := 21, descriptorIndex := 22, attributes := #[] }, { accessFlags := 2, nameIndex := 25, descriptorIndex := 26, attributes := #[] }, { accessFlags := 26, nameIndex := 1116, descriptorIndex := 1117, attributes := #[] }, { accessFlags := 24, nameIndex := 40, descriptorIndex := 26, attributes := #[] }, { accessFlags := 26, nameIndex := 1101, descriptorIndex := 1102, attributes := #[] }, { accessFlags := 26, nameIndex := 1121, descriptorIndex := 1122, attributes := #[] }, { accessFlags := 25, nameIndex := 599, descriptorIndex := 600, attributes := #[] }, { accessFlags := 24, nameIndex := 1125, descriptorIndex := 18, attributes := #[] }, { accessFlags := 24, nameIndex := 1127, descriptorIndex := 18, attributes := #[] }])
  fields := #[{ name := "value", type := (.array .byte), accessFlags := 18, slot := 0, constantValue := 0 }, { name := "coder", type := .byte, accessFlags := 18, slot := 1, constantValue := 0 }, { name := "hash", type := .int, accessFlags := 2, slot := 2, constantValue := 0 }, { name := "hashIsZero", type := .boolean, accessFlags := 2, slot := 3, constantValue := 0 }, { name := "serialVersionUID", type := .long, accessFlags := 26, slot := 0, constantValue := 0 }, { name := "COMPACT_STRINGS", type := .boolean, accessFlags := 24, slot := 1, constantValue := 0 }, { name := "serialPersistentFields", type := (.array (.object "java/io/ObjectStreamField")), accessFlags := 26, slot := 2, constantValue := 0 }, { name := "REPL", type := .char, accessFlags := 26, slot := 3, constantValue := 0 }, { name := "CASE_INSENSITIVE_ORDER", type := (.object "java/util/Comparator"), accessFlags := 25, slot := 4, constantValue := 0 }, { name := "LATIN1", type := .byte, accessFlags := 24, slot := 5, constantValue := 0 }, { name := "UTF16", type := .byte, accessFlags := 24, slot := 6, constantValue := 0 }]
  methods := #[k10m0, k10m1, k10m2, k10m3]
  instanceTypes := #[(.array .byte), .byte, .int, .boolean]
  staticTypes := #[.long, .boolean, (.array (.object "java/io/ObjectStreamField")), .char, (.object "java/util/Comparator"), .byte, .byte]
  resolved := Array.replicate 1451 none
  statics := some 1 }

def pool11 : Array CpInfo := pool [(6, .class_ 8), (1, u "java/lang/Object"), (0, u "<init>"), (0, u "()V"), (1, .class_ 14), (1, u "java/lang/StringUTF16"), (31, u "$assertionsDisabled"), (0, u "Z"), (13, u "HI_BYTE_SHIFT"), (0, u "I"), (2, u "LO_BYTE_SHIFT"), (49, .methodref 12 116), (0, .nameAndType 117 118), (0, u "compress"), (0, u "([CI[BII)I"), (3, u "([CII)[B"), (138, u "coderFromArrayLen"), (0, u "([BI)B"), (106, .class_ 371), (1, u "java/lang/StringUTF16$LinesSpliterator"), (58, u "MAX_LENGTH"), (196, .class_ 628), (0, u "java/lang/StringUTF16$CodePointsSpliterator"), (0, .class_ 630), (0, u "java/lang/StringUTF16$CharsSpliterator")] 4

def k11m0 : Method := { name := "<init>", desc := "()V", sig := { parameters := [], returnType := none }, accessFlags := 0, code := none }
def k11c1 : Code := { maxStack := 2, maxLocals := 2, code := jdk_52_method_15_code, exceptionTable := #[], attributes := #[] }
def k11m1 : Method := { name := "coderFromArrayLen", desc := "([BI)B", sig := { parameters := [(.array .byte), .int], returnType := some .byte }, accessFlags := 8, code := some k11c1 }
def k11c2 : Code := { maxStack := 5, maxLocals := 6, code := jdk_52_method_16_code, exceptionTable := #[], attributes := #[] }
def k11m2 : Method := { name := "compress", desc := "([CII)[B", sig := { parameters := [(.array .char), .int, .int], returnType := some (.array .byte) }, accessFlags := 9, code := some k11c2 }
def k11c3 : Code := { maxStack := 3, maxLocals := 7, code := jdk_52_method_21_code, exceptionTable := #[], attributes := #[] }
def k11m3 : Method := { name := "compress", desc := "([CI[BII)I", sig := { parameters := [(.array .char), .int, (.array .byte), .int, .int], returnType := some .int }, accessFlags := 9, code := some k11c3 }
/-- java/lang/StringUTF16 -/
def k11 : Class := { plain "java/lang/StringUTF16" (some 0) with
  accessFlags := 48
  interfaces := #[]
  cf := some (fileOf pool11 12 #[.nestMembers #[627, 629, 369]] #[{ accessFlags := 0, nameIndex := 9, descriptorIndex := 10, attributes := #[] }, { accessFlags := 8, nameIndex := 261, descriptorIndex := 262, attributes := #[] }, { accessFlags := 9, nameIndex := 117, descriptorIndex := 122, attributes := #[] }, { accessFlags := 9, nameIndex := 117, descriptorIndex := 118, attributes := #[] }] 48 6 #[] #[{ accessFlags := 26, nameIndex := 61, descriptorIndex := 62, attributes := #[] }, { accessFlags := 26, nameIndex := 65, descriptorIndex := 62, attributes := #[] }, { accessFlags := 24, nameIndex := 430, descriptorIndex := 62, attributes := #[] }, { accessFlags := 4120, nameIndex := 46, descriptorIndex := 47, attributes := #[] }])
  fields := #[{ name := "HI_BYTE_SHIFT", type := .int, accessFlags := 26, slot := 0, constantValue := 0 }, { name := "LO_BYTE_SHIFT", type := .int, accessFlags := 26, slot := 1, constantValue := 0 }, { name := "MAX_LENGTH", type := .int, accessFlags := 24, slot := 2, constantValue := 0 }, { name := "$assertionsDisabled", type := .boolean, accessFlags := 4120, slot := 3, constantValue := 0 }]
  methods := #[k11m0, k11m1, k11m2, k11m3]
  instanceTypes := #[]
  staticTypes := #[.int, .int, .int, .boolean]
  resolved := Array.replicate 635 none
  statics := none }

def pool12 : Array CpInfo := pool [(2, .class_ 4), (1, u "java/lang/Object"), (0, u "<init>"), (0, u "()V"), (35, .class_ 44), (1, u "java/util/Objects"), (0, u "requireNonNull"), (48, u "(Ljava/lang/Object;Ljava/lang/String;)Ljava/lang/Object;")] 89

def k12m0 : Method := { name := "<init>", desc := "()V", sig := { parameters := [], returnType := none }, accessFlags := 2, code := none }
def k12c1 : Code := { maxStack := 3, maxLocals := 2, code := jdk_31_method_11_code, exceptionTable := #[], attributes := #[] }
def k12m1 : Method := { name := "requireNonNull", desc := "(Ljava/lang/Object;Ljava/lang/String;)Ljava/lang/Object;", sig := { parameters := [(.object "java/lang/Object"), (.object "java/lang/String")], returnType := some (.object "java/lang/Object") }, accessFlags := 9, code := some k12c1 }
/-- java/util/Objects -/
def k12 : Class := { plain "java/util/Objects" (some 0) with
  accessFlags := 49
  interfaces := #[]
  cf := some (fileOf pool12 42 #[] #[{ accessFlags := 2, nameIndex := 5, descriptorIndex := 6, attributes := #[] }, { accessFlags := 9, nameIndex := 45, descriptorIndex := 94, attributes := #[] }] 49 2 #[] #[])
  fields := #[]
  methods := #[k12m0, k12m1]
  instanceTypes := #[]
  staticTypes := #[]
  resolved := Array.replicate 184 none
  statics := none }

def pool13 : Array CpInfo := pool [(4, .class_ 6), (1, u "java/lang/Object"), (0, u "<init>"), (0, u "()V"), (5, .class_ 16), (1, u "java/lang/StringLatin1"), (104, u "$assertionsDisabled"), (0, u "Z"), (98, .class_ 223), (1, u "java/lang/StringLatin1$LinesSpliterator"), (57, u "equals"), (0, u "([B[B)Z"), (107, .class_ 391), (0, u "java/lang/StringLatin1$CharsSpliterator")] 3

def k13m0 : Method := { name := "<init>", desc := "()V", sig := { parameters := [], returnType := none }, accessFlags := 0, code := none }
def k13c1 : Code := { maxStack := 3, maxLocals := 3, code := jdk_43_method_13_code, exceptionTable := #[], attributes := #[] }
def k13m1 : Method := { name := "equals", desc := "([B[B)Z", sig := { parameters := [(.array .byte), (.array .byte)], returnType := some .boolean }, accessFlags := 9, code := some k13c1 }
/-- java/lang/StringLatin1 -/
def k13 : Class := { plain "java/lang/StringLatin1" (some 0) with
  accessFlags := 48
  interfaces := #[]
  cf := some (fileOf pool13 14 #[.nestMembers #[390, 221]] #[{ accessFlags := 0, nameIndex := 7, descriptorIndex := 8, attributes := #[] }, { accessFlags := 9, nameIndex := 281, descriptorIndex := 282, attributes := #[] }] 48 4 #[] #[{ accessFlags := 4120, nameIndex := 121, descriptorIndex := 122, attributes := #[] }])
  fields := #[{ name := "$assertionsDisabled", type := .boolean, accessFlags := 4120, slot := 0, constantValue := 0 }]
  methods := #[k13m0, k13m1]
  instanceTypes := #[]
  staticTypes := #[.boolean]
  resolved := Array.replicate 395 none
  statics := none }

def pool14 : Array CpInfo := pool [(2, .class_ 4), (1, u "java/lang/Object"), (0, u "<init>"), (0, u "()V"), (17, .class_ 26), (1, u "jdk/internal/util/Preconditions"), (28, .class_ 56), (0, u "jdk/internal/util/Preconditions$4"), (57, .class_ 115), (0, u "jdk/internal/util/Preconditions$1"), (7, u "SIOOBE_FORMATTER"), (0, u "Ljava/util/function/BiFunction;"), (0, .class_ 126), (0, u "jdk/internal/util/Preconditions$2"), (3, u "AIOOBE_FORMATTER"), (0, .class_ 132), (0, u "jdk/internal/util/Preconditions$3"), (3, u "IOOBE_FORMATTER")] 57

def k14m0 : Method := { name := "<init>", desc := "()V", sig := { parameters := [], returnType := none }, accessFlags := 1, code := none }
/-- jdk/internal/util/Preconditions -/
def k14 : Class := { plain "jdk/internal/util/Preconditions" (some 0) with
  accessFlags := 33
  interfaces := #[]
  cf := some (fileOf pool14 24 #[.nestMembers #[55, 131, 125, 114]] #[{ accessFlags := 1, nameIndex := 5, descriptorIndex := 6, attributes := #[] }] 33 2 #[] #[{ accessFlags := 25, nameIndex := 123, descriptorIndex := 124, attributes := #[] }, { accessFlags := 25, nameIndex := 130, descriptorIndex := 124, attributes := #[] }, { accessFlags := 25, nameIndex := 136, descriptorIndex := 124, attributes := #[] }])
  fields := #[{ name := "SIOOBE_FORMATTER", type := (.object "java/util/function/BiFunction"), accessFlags := 25, slot := 0, constantValue := 0 }, { name := "AIOOBE_FORMATTER", type := (.object "java/util/function/BiFunction"), accessFlags := 25, slot := 1, constantValue := 0 }, { name := "IOOBE_FORMATTER", type := (.object "java/util/function/BiFunction"), accessFlags := 25, slot := 2, constantValue := 0 }]
  methods := #[k14m0]
  instanceTypes := #[]
  staticTypes := #[(.object "java/util/function/BiFunction"), (.object "java/util/function/BiFunction"), (.object "java/util/function/BiFunction")]
  resolved := Array.replicate 194 none
  statics := some 2 }

def pool15 : Array CpInfo := pool [(9, u "<init>"), (6, .class_ 18), (1, u "java/lang/Object"), (0, u "()V"), (1, .class_ 23), (1, u "jdk/internal/util/ArraysSupport"), (0, u "LOG2_ARRAY_LONG_INDEX_SCALE"), (0, u "I"), (2, u "U"), (0, u "Ljdk/internal/misc/Unsafe;"), (8, u "BIG_ENDIAN"), (0, u "Z"), (8, u "LOG2_BYTE_BIT_SIZE"), (4, u "LOG2_ARRAY_INT_INDEX_SCALE"), (54, u "JLA"), (0, u "Ljdk/internal/access/JavaLangAccess;"), (11, u "LOG2_ARRAY_BOOLEAN_INDEX_SCALE"), (9, u "LOG2_ARRAY_BYTE_INDEX_SCALE"), (5, u "LOG2_ARRAY_CHAR_INDEX_SCALE"), (5, u "LOG2_ARRAY_SHORT_INDEX_SCALE"), (18, u "LOG2_ARRAY_FLOAT_INDEX_SCALE"), (24, u "LOG2_ARRAY_DOUBLE_INDEX_SCALE"), (89, u "T_BOOLEAN"), (2, u "T_CHAR"), (1, u "T_FLOAT"), (1, u "T_DOUBLE"), (1, u "T_BYTE"), (1, u "T_SHORT"), (1, u "T_INT"), (1, u "T_LONG"), (1, u "SOFT_MAX_ARRAY_LENGTH")] 83

def k15m0 : Method := { name := "<init>", desc := "()V", sig := { parameters := [], returnType := none }, accessFlags := 2, code := none }
/-- jdk/internal/util/ArraysSupport -/
def k15 : Class := { plain "jdk/internal/util/ArraysSupport" (some 0) with
  accessFlags := 33
  interfaces := #[]
  cf := some (fileOf pool15 21 #[] #[{ accessFlags := 2, nameIndex := 9, descriptorIndex := 19, attributes := #[] }] 33 16 #[] #[{ accessFlags := 24, nameIndex := 28, descriptorIndex := 29, attributes := #[] }, { accessFlags := 26, nameIndex := 38, descriptorIndex := 39, attributes := #[] }, { accessFlags := 25, nameIndex := 121, descriptorIndex := 25, attributes := #[] }, { accessFlags := 25, nameIndex := 131, descriptorIndex := 25, attributes := #[] }, { accessFlags := 25, nameIndex := 137, descriptorIndex := 25, attributes := #[] }, { accessFlags := 25, nameIndex := 143, descriptorIndex := 25, attributes := #[] }, { accessFlags := 25, nameIndex := 53, descriptorIndex := 25, attributes := #[] }, { accessFlags := 25, nameIndex := 24, descriptorIndex := 25, attributes := #[] }, { accessFlags := 25, nameIndex := 162, descriptorIndex := 25, attributes := #[] }, { accessFlags := 25, nameIndex := 187, descriptorIndex := 25, attributes := #[] }, { accessFlags := 26, nameIndex := 48, descriptorIndex := 25, attributes := #[] }, { accessFlags := 25, nameIndex := 277, descriptorIndex := 25, attributes := #[] }, { accessFlags := 25, nameIndex := 280, descriptorIndex := 25, attributes := #[] }, { accessFlags := 25, nameIndex := 282, descriptorIndex := 25, attributes := #[] }, { accessFlags := 25, nameIndex := 284, descriptorIndex := 25, attributes := #[] }, { accessFlags := 25, nameIndex := 286, descriptorIndex := 25, attributes := #[] }, { accessFlags := 25, nameIndex := 288, descriptorIndex := 25, attributes := #[] }, { accessFlags := 25, nameIndex := 290, descriptorIndex := 25, attributes := #[] }, { accessFlags := 25, nameIndex := 292, descriptorIndex := 25, attributes := #[] }, { accessFlags := 26, nameIndex := 108, descriptorIndex := 109, attributes := #[] }, { accessFlags := 25, nameIndex := 294, descriptorIndex := 25, attributes := #[] }])
  fields := #[{ name := "U", type := (.object "jdk/internal/misc/Unsafe"), accessFlags := 24, slot := 0, constantValue := 0 }, { name := "BIG_ENDIAN", type := .boolean, accessFlags := 26, slot := 1, constantValue := 0 }, { name := "LOG2_ARRAY_BOOLEAN_INDEX_SCALE", type := .int, accessFlags := 25, slot := 2, constantValue := 0 }, { name := "LOG2_ARRAY_BYTE_INDEX_SCALE", type := .int, accessFlags := 25, slot := 3, constantValue := 0 }, { name := "LOG2_ARRAY_CHAR_INDEX_SCALE", type := .int, accessFlags := 25, slot := 4, constantValue := 0 }, { name := "LOG2_ARRAY_SHORT_INDEX_SCALE", type := .int, accessFlags := 25, slot := 5, constantValue := 0 }, { name := "LOG2_ARRAY_INT_INDEX_SCALE", type := .int, accessFlags := 25, slot := 6, constantValue := 0 }, { name := "LOG2_ARRAY_LONG_INDEX_SCALE", type := .int, accessFlags := 25, slot := 7, constantValue := 0 }, { name := "LOG2_ARRAY_FLOAT_INDEX_SCALE", type := .int, accessFlags := 25, slot := 8, constantValue := 0 }, { name := "LOG2_ARRAY_DOUBLE_INDEX_SCALE", type := .int, accessFlags := 25, slot := 9, constantValue := 0 }, { name := "LOG2_BYTE_BIT_SIZE", type := .int, accessFlags := 26, slot := 10, constantValue := 0 }, { name := "T_BOOLEAN", type := .int, accessFlags := 25, slot := 11, constantValue := 0 }, { name := "T_CHAR", type := .int, accessFlags := 25, slot := 12, constantValue := 0 }, { name := "T_FLOAT", type := .int, accessFlags := 25, slot := 13, constantValue := 0 }, { name := "T_DOUBLE", type := .int, accessFlags := 25, slot := 14, constantValue := 0 }, { name := "T_BYTE", type := .int, accessFlags := 25, slot := 15, constantValue := 0 }, { name := "T_SHORT", type := .int, accessFlags := 25, slot := 16, constantValue := 0 }, { name := "T_INT", type := .int, accessFlags := 25, slot := 17, constantValue := 0 }, { name := "T_LONG", type := .int, accessFlags := 25, slot := 18, constantValue := 0 }, { name := "JLA", type := (.object "jdk/internal/access/JavaLangAccess"), accessFlags := 26, slot := 19, constantValue := 0 }, { name := "SOFT_MAX_ARRAY_LENGTH", type := .int, accessFlags := 25, slot := 20, constantValue := 0 }]
  methods := #[k15m0]
  instanceTypes := #[]
  staticTypes := #[(.object "jdk/internal/misc/Unsafe"), .boolean, .int, .int, .int, .int, .int, .int, .int, .int, .int, .int, .int, .int, .int, .int, .int, .int, .int, (.object "jdk/internal/access/JavaLangAccess"), .int]
  resolved := Array.replicate 378 none
  statics := none }

def pool16 : Array CpInfo := pool [(1, u "java/lang/Cloneable"), (0, .class_ 1), (0, u "java/lang/Object"), (0, .class_ 3)] 3

/-- java/lang/Cloneable -/
def k16 : Class := { plain "java/lang/Cloneable" (some 0) with
  accessFlags := 1537
  interfaces := #[]
  cf := some (fileOf pool16 2 #[] #[] 1537 4 #[] #[])
  fields := #[]
  methods := #[]
  instanceTypes := #[]
  staticTypes := #[]
  resolved := Array.replicate 8 none
  statics := none }

/-- the primitive byte -/
def k17 : Class := { plain "byte" none with kind := .primitive 'B', accessFlags := 0x411 }
/-- [B -/
def k18 : Class := { plain "[B" (some 0) with kind := .array 17 .byte, interfaces := #[16, 5], accessFlags := 1041 }

/-- the primitive char -/
def k19 : Class := { plain "char" none with kind := .primitive 'C', accessFlags := 0x411 }
/-- [C -/
def k20 : Class := { plain "[C" (some 0) with kind := .array 19 .char, interfaces := #[16, 5], accessFlags := 1041 }

/-- the primitive int -/
def k21 : Class := { plain "int" none with kind := .primitive 'I', accessFlags := 0x411 }
/-- [I -/
def k22 : Class := { plain "[I" (some 0) with kind := .array 21 .int, interfaces := #[16, 5], accessFlags := 1041 }

def heap : Heap := #[{ cls := 7, slots := #[.ref 3, .ref 4, .ref 5, .ref 6, .null, .null, .null, .null, .null, .null, .null, .null, .null, .null, .null, .null, .null, .null, .null, .null, .null, .null, .null, .null, .null, .ref 9, .null, .null, .null, .null, .null, .null, .null, .null, .null, .null, .ref 10, .ref 7, .null, .null, .null, .null, .null, .null, .null, .null, .null, .null, .null, .null, .null, .null, .null, .null, .null, .ref 8, .null], vm := .statics 7 },
  { cls := 10, slots := #[.long 0, .int 1, .null, .int 0, .null, .int 0, .int 0], vm := .statics 10 },
  { cls := 14, slots := #[.null, .null, .null], vm := .statics 14 },
  { cls := 7, slots := #[.null, .int 0, .int 0, .null], vm := .none },
  { cls := 7, slots := #[.null, .int 1, .int 0, .null], vm := .none },
  { cls := 7, slots := #[.null, .int 2, .int 0, .null], vm := .none },
  { cls := 7, slots := #[.null, .int 3, .int 0, .null], vm := .none },
  { cls := 7, slots := #[.null, .int 37, .int 0, .null], vm := .none },
  { cls := 7, slots := #[.null, .int 55, .int 0, .null], vm := .none },
  { cls := 7, slots := #[.null, .int 25, .int 0, .null], vm := .none },
  { cls := 7, slots := #[.null, .int 36, .int 0, .null], vm := .none }]
def classes : Array Class := #[k0, k1, k2, k3, k4, k5, k6, k7, k8, k9, k10, k11, k12, k13, k14, k15, k16, k17, k18, k19, k20, k21, k22]
def interned : List (Array UInt16 × Addr) := []
def slotsUsed : Nat := 99
def theMethod : MethodId := ⟨1, 3⟩
def args0 : Array Value := #[.int 5, .int 97, .long 98, .int 99, .int 3, .int 3]
def aboutOver (below : List Frame) : State where
  vm := { classes := classes, interned := interned.toArray }
  heap := heap
  slotsUsed := slotsUsed
  threads := #[{ frames := .invoking theMethod args0 :: below }]
def below0 : List Frame := [.native { method := ⟨0, 0⟩, args := #[] }]
def about1 : State := aboutOver below0
def p0 : Program := .bare "" "" ""
def e0 : Env := launch0.env 0 0 0
theorem w_frames : about1.frames = Frame.invoking theMethod args0 :: below0 := rfl
set_option maxRecDepth 65536 in
theorem w_args : argsFit about1.vm theMethod args0 = true := by decide +kernel
theorem heapFits_list (s : State) : heapFits s = s.heap.toList.all (cellFits s) := by simp [heapFits, Array.all_toList]
set_option maxRecDepth 65536 in
theorem w_heap : heapFits about1 = true := by
  rw [heapFits_list]
  decide +kernel
set_option maxRecDepth 65536 in
theorem w_runnable : about1.curStatus? = some .runnable := by decide +kernel
set_option maxRecDepth 65536 in
theorem w_alone : about1.alone = true := by decide +kernel
set_option maxRecDepth 65536 in
theorem w_named : about1.methodNamed? x = some theMethod := by decide +kernel
set_option maxRecDepth 65536 in
theorem w_hears : about1.hears theMethod below0 = true := by decide +kernel
set_option maxRecDepth 65536 in
theorem w_ripe : about1.ripe theMethod args0 below0 = true := by decide +kernel
theorem w_running : about1.status = .running := rfl
set_option maxRecDepth 65536 in
theorem w_room : about1.hasRoom e0.platform room_1 = true :=
  launch0.hasRoom_least _ room_1 (by decide +kernel) (by decide +kernel) (by decide +kernel) (by decide +kernel) (by decide +kernel) (by decide +kernel)
theorem allAtoms_all (ts : List Jvm.Cond) (a : Array Jvm.Value) (st : Jvm.State) : (allAtoms ts).before a st = ts.all (fun c => c.before a st) := by
  induction ts with
  | nil => rfl
  | cons c t ih =>
    show (Jvm.Cond.and c (allAtoms t)).before a st = _
    rw [Jvm.Cond.before_and, ih, List.all_cons]
def words1 : List Jvm.Cond := Jvm.Cond.code x code maxLocals ret :: tables_1
/-- a 'code' word, met by the world's own term for the bytes: nothing is compared byte by byte -/
theorem code_word {y : MethodName} {bytes : ByteArray} {mx : Nat} {rt : Option FieldType} {a : Array Value} {s : State} {m : MethodId} {meth : Method} {c : Code} (h1 : s.methodNamed? y = some m) (h2 : s.vm.method? m = some meth) (h3 : meth.code = some c) (h4 : c.code = bytes)
    (h5 : (c.maxLocals == mx && c.exceptionTable.isEmpty && decide (c.maxStack ≤ mostOperands) && decide (meth.sig.returnType = rt) && !meth.locks && decide (parseMethodDescriptor y.desc = some meth.sig)) = true) : (Jvm.Cond.code y bytes mx rt).before a s = true := by
  simp only [Bool.and_eq_true, beq_iff_eq, Bool.not_eq_true', decide_eq_true_eq] at h5
  obtain ⟨⟨⟨⟨⟨g1, g2⟩, g3⟩, g4⟩, g5⟩, g6⟩ := h5
  simp [Cond.before, Cond.holds, Cond.value, h1, h2, h3, h4, g1, g2, g3, g4, g5, g6]
def isCode : Jvm.Cond → Bool
  | .code _ _ _ _ => true
  | _ => false
theorem all_split {L : List Jvm.Cond} {P : Jvm.Cond → Bool} (h1 : L.all (fun c => isCode c || P c) = true) (h2 : ∀ c ∈ L.filter isCode, P c = true) : L.all P = true := by
  refine List.all_eq_true.mpr fun c hc => ?_
  have h := List.all_eq_true.mp h1 c hc
  rcases Bool.eq_false_or_eq_true (isCode c) with hi | hi
  · exact h2 c (List.mem_filter.mpr ⟨hc, hi⟩)
  · simpa [hi] using h
set_option maxRecDepth 65536 in
theorem w_c0 : (Jvm.Cond.code x code maxLocals ret).before args0 about1 = true := code_word (m := ⟨1, 3⟩) (meth := k1m3) (c := k1c3) (by decide +kernel) rfl rfl rfl (by decide +kernel)
set_option maxRecDepth 65536 in
theorem w_c1 : (Jvm.Cond.code ({ cls := "com/example/thorough_topology/thoroughtopology/language/TokenEqualsPinLaw", name := "kindOf", desc := "(I)Lcom/example/thorough_topology/thoroughtopology/language/TokenKind;" } : Jvm.MethodName) method_2_code (1 : Nat) (Option.some (Jvm.ClassFile.FieldType.object "com/example/thorough_topology/thoroughtopology/language/TokenKind"))).before args0 about1 = true := code_word (m := ⟨1, 1⟩) (meth := k1m1) (c := k1c1) (by decide +kernel) rfl rfl rfl (by decide +kernel)
set_option maxRecDepth 65536 in
theorem w_c2 : (Jvm.Cond.code ({ cls := "com/example/thorough_topology/thoroughtopology/language/TokenEqualsPinLaw", name := "text", desc := "(ICC)Ljava/lang/String;" } : Jvm.MethodName) method_3_code (3 : Nat) (Option.some (Jvm.ClassFile.FieldType.object "java/lang/String"))).before args0 about1 = true := code_word (m := ⟨1, 2⟩) (meth := k1m2) (c := k1c2) (by decide +kernel) rfl rfl rfl (by decide +kernel)
set_option maxRecDepth 65536 in
theorem w_c3 : (Jvm.Cond.code ({ cls := "java/lang/String", name := "<init>", desc := "([C)V" } : Jvm.MethodName) jdk_42_method_3_code (2 : Nat) (Option.none : Option Jvm.ClassFile.FieldType)).before args0 about1 = true := code_word (m := ⟨10, 1⟩) (meth := k10m1) (c := k10c1) (by decide +kernel) rfl rfl rfl (by decide +kernel)
set_option maxRecDepth 65536 in
theorem w_c4 : (Jvm.Cond.code ({ cls := "java/lang/String", name := "<init>", desc := "([CIILjava/lang/Void;)V" } : Jvm.MethodName) jdk_42_method_149_code (6 : Nat) (Option.none : Option Jvm.ClassFile.FieldType)).before args0 about1 = true := code_word (m := ⟨10, 3⟩) (meth := k10m3) (c := k10c3) (by decide +kernel) rfl rfl rfl (by decide +kernel)
set_option maxRecDepth 65536 in
theorem w_c5 : (Jvm.Cond.code ({ cls := "java/lang/Object", name := "<init>", desc := "()V" } : Jvm.MethodName) object_method_1_code (1 : Nat) (Option.none : Option Jvm.ClassFile.FieldType)).before args0 about1 = true := code_word (m := ⟨0, 0⟩) (meth := k0m0) (c := k0c0) (by decide +kernel) rfl rfl rfl (by decide +kernel)
set_option maxRecDepth 65536 in
theorem w_c6 : (Jvm.Cond.code ({ cls := "java/lang/StringUTF16", name := "compress", desc := "([CII)[B" } : Jvm.MethodName) jdk_52_method_16_code (6 : Nat) (Option.some (Jvm.ClassFile.FieldType.array Jvm.ClassFile.FieldType.byte))).before args0 about1 = true := code_word (m := ⟨11, 2⟩) (meth := k11m2) (c := k11c2) (by decide +kernel) rfl rfl rfl (by decide +kernel)
set_option maxRecDepth 65536 in
theorem w_c7 : (Jvm.Cond.code ({ cls := "java/lang/StringUTF16", name := "compress", desc := "([CI[BII)I" } : Jvm.MethodName) jdk_52_method_21_code (7 : Nat) (Option.some Jvm.ClassFile.FieldType.int)).before args0 about1 = true := code_word (m := ⟨11, 3⟩) (meth := k11m3) (c := k11c3) (by decide +kernel) rfl rfl rfl (by decide +kernel)
set_option maxRecDepth 65536 in
theorem w_c8 : (Jvm.Cond.code ({ cls := "java/lang/StringUTF16", name := "coderFromArrayLen", desc := "([BI)B" } : Jvm.MethodName) jdk_52_method_15_code (2 : Nat) (Option.some Jvm.ClassFile.FieldType.byte)).before args0 about1 = true := code_word (m := ⟨11, 1⟩) (meth := k11m1) (c := k11c1) (by decide +kernel) rfl rfl rfl (by decide +kernel)
set_option maxRecDepth 65536 in
theorem w_c9 : (Jvm.Cond.code ({ cls := "com/example/thorough_topology/thoroughtopology/language/Token", name := "<init>", desc := "(Lcom/example/thorough_topology/thoroughtopology/language/TokenKind;Ljava/lang/String;I)V" } : Jvm.MethodName) prog_69_method_1_code (4 : Nat) (Option.none : Option Jvm.ClassFile.FieldType)).before args0 about1 = true := code_word (m := ⟨2, 0⟩) (meth := k2m0) (c := k2c0) (by decide +kernel) rfl rfl rfl (by decide +kernel)
set_option maxRecDepth 65536 in
theorem w_c10 : (Jvm.Cond.code ({ cls := "java/util/Objects", name := "requireNonNull", desc := "(Ljava/lang/Object;Ljava/lang/String;)Ljava/lang/Object;" } : Jvm.MethodName) jdk_31_method_11_code (2 : Nat) (Option.some (Jvm.ClassFile.FieldType.object "java/lang/Object"))).before args0 about1 = true := code_word (m := ⟨12, 1⟩) (meth := k12m1) (c := k12c1) (by decide +kernel) rfl rfl rfl (by decide +kernel)
set_option maxRecDepth 65536 in
theorem w_c11 : (Jvm.Cond.code ({ cls := "com/example/thorough_topology/thoroughtopology/language/Token", name := "equals", desc := "(Ljava/lang/Object;)Z" } : Jvm.MethodName) prog_69_method_5_code (3 : Nat) (Option.some Jvm.ClassFile.FieldType.boolean)).before args0 about1 = true := code_word (m := ⟨2, 1⟩) (meth := k2m1) (c := k2c1) (by decide +kernel) rfl rfl rfl (by decide +kernel)
set_option maxRecDepth 65536 in
theorem w_c12 : (Jvm.Cond.code ({ cls := "java/lang/String", name := "equals", desc := "(Ljava/lang/Object;)Z" } : Jvm.MethodName) jdk_42_method_66_code (3 : Nat) (Option.some Jvm.ClassFile.FieldType.boolean)).before args0 about1 = true := code_word (m := ⟨10, 2⟩) (meth := k10m2) (c := k10c2) (by decide +kernel) rfl rfl rfl (by decide +kernel)
set_option maxRecDepth 65536 in
theorem w_c13 : (Jvm.Cond.code ({ cls := "java/lang/StringLatin1", name := "equals", desc := "([B[B)Z" } : Jvm.MethodName) jdk_43_method_13_code (3 : Nat) (Option.some Jvm.ClassFile.FieldType.boolean)).before args0 about1 = true := code_word (m := ⟨13, 1⟩) (meth := k13m1) (c := k13c1) (by decide +kernel) rfl rfl rfl (by decide +kernel)
def codes1 : List Jvm.Cond := [Jvm.Cond.code x code maxLocals ret, Jvm.Cond.code ({ cls := "com/example/thorough_topology/thoroughtopology/language/TokenEqualsPinLaw", name := "kindOf", desc := "(I)Lcom/example/thorough_topology/thoroughtopology/language/TokenKind;" } : Jvm.MethodName) method_2_code (1 : Nat) (Option.some (Jvm.ClassFile.FieldType.object "com/example/thorough_topology/thoroughtopology/language/TokenKind")), Jvm.Cond.code ({ cls := "com/example/thorough_topology/thoroughtopology/language/TokenEqualsPinLaw", name := "text", desc := "(ICC)Ljava/lang/String;" } : Jvm.MethodName) method_3_code (3 : Nat) (Option.some (Jvm.ClassFile.FieldType.object "java/lang/String")), Jvm.Cond.code ({ cls := "java/lang/String", name := "<init>", desc := "([C)V" } : Jvm.MethodName) jdk_42_method_3_code (2 : Nat) (Option.none : Option Jvm.ClassFile.FieldType), Jvm.Cond.code ({ cls := "java/lang/String", name := "<init>", desc := "([CIILjava/lang/Void;)V" } : Jvm.MethodName) jdk_42_method_149_code (6 : Nat) (Option.none : Option Jvm.ClassFile.FieldType), Jvm.Cond.code ({ cls := "java/lang/Object", name := "<init>", desc := "()V" } : Jvm.MethodName) object_method_1_code (1 : Nat) (Option.none : Option Jvm.ClassFile.FieldType), Jvm.Cond.code ({ cls := "java/lang/StringUTF16", name := "compress", desc := "([CII)[B" } : Jvm.MethodName) jdk_52_method_16_code (6 : Nat) (Option.some (Jvm.ClassFile.FieldType.array Jvm.ClassFile.FieldType.byte)), Jvm.Cond.code ({ cls := "java/lang/StringUTF16", name := "compress", desc := "([CI[BII)I" } : Jvm.MethodName) jdk_52_method_21_code (7 : Nat) (Option.some Jvm.ClassFile.FieldType.int), Jvm.Cond.code ({ cls := "java/lang/StringUTF16", name := "coderFromArrayLen", desc := "([BI)B" } : Jvm.MethodName) jdk_52_method_15_code (2 : Nat) (Option.some Jvm.ClassFile.FieldType.byte), Jvm.Cond.code ({ cls := "com/example/thorough_topology/thoroughtopology/language/Token", name := "<init>", desc := "(Lcom/example/thorough_topology/thoroughtopology/language/TokenKind;Ljava/lang/String;I)V" } : Jvm.MethodName) prog_69_method_1_code (4 : Nat) (Option.none : Option Jvm.ClassFile.FieldType), Jvm.Cond.code ({ cls := "java/util/Objects", name := "requireNonNull", desc := "(Ljava/lang/Object;Ljava/lang/String;)Ljava/lang/Object;" } : Jvm.MethodName) jdk_31_method_11_code (2 : Nat) (Option.some (Jvm.ClassFile.FieldType.object "java/lang/Object")), Jvm.Cond.code ({ cls := "com/example/thorough_topology/thoroughtopology/language/Token", name := "equals", desc := "(Ljava/lang/Object;)Z" } : Jvm.MethodName) prog_69_method_5_code (3 : Nat) (Option.some Jvm.ClassFile.FieldType.boolean), Jvm.Cond.code ({ cls := "java/lang/String", name := "equals", desc := "(Ljava/lang/Object;)Z" } : Jvm.MethodName) jdk_42_method_66_code (3 : Nat) (Option.some Jvm.ClassFile.FieldType.boolean), Jvm.Cond.code ({ cls := "java/lang/StringLatin1", name := "equals", desc := "([B[B)Z" } : Jvm.MethodName) jdk_43_method_13_code (3 : Nat) (Option.some Jvm.ClassFile.FieldType.boolean)]
set_option maxRecDepth 65536 in
theorem codes_eq : words1.filter isCode = codes1 := rfl
theorem w_codes : ∀ c ∈ words1.filter isCode, c.before args0 about1 = true := by
  rw [codes_eq]
  intro c hc
  simp only [codes1, List.mem_cons, List.not_mem_nil, or_false] at hc
  rcases hc with rfl | rfl | rfl | rfl | rfl | rfl | rfl | rfl | rfl | rfl | rfl | rfl | rfl | rfl
  · exact w_c0
  · exact w_c1
  · exact w_c2
  · exact w_c3
  · exact w_c4
  · exact w_c5
  · exact w_c6
  · exact w_c7
  · exact w_c8
  · exact w_c9
  · exact w_c10
  · exact w_c11
  · exact w_c12
  · exact w_c13
set_option maxRecDepth 65536 in
theorem w_t1 : (words1.take 24).all (fun c => isCode c || c.before args0 about1) = true := by decide +kernel
set_option maxRecDepth 65536 in
theorem w_t2 : ((words1.drop 24).take 24).all (fun c => isCode c || c.before args0 about1) = true := by decide +kernel
set_option maxRecDepth 65536 in
theorem w_t3 : (((words1.drop 24).drop 24).take 24).all (fun c => isCode c || c.before args0 about1) = true := by decide +kernel
set_option maxRecDepth 65536 in
theorem w_t4 : ((((words1.drop 24).drop 24).drop 24).take 24).all (fun c => isCode c || c.before args0 about1) = true := by decide +kernel
set_option maxRecDepth 65536 in
theorem w_t5 : ((((words1.drop 24).drop 24).drop 24).drop 24).all (fun c => isCode c || c.before args0 about1) = true := by decide +kernel
theorem w_tables : (allAtoms (Jvm.Cond.code x code maxLocals ret :: tables_1)).before args0 about1 = true := by
  rw [allAtoms_all]
  show words1.all (fun c => c.before args0 about1) = true
  refine all_split ?_ w_codes
  rw [← List.take_append_drop 24 words1, List.all_append, w_t1, ← List.take_append_drop 24 (words1.drop 24), List.all_append, w_t2, ← List.take_append_drop 24 ((words1.drop 24).drop 24), List.all_append, w_t3, ← List.take_append_drop 24 (((words1.drop 24).drop 24).drop 24), List.all_append, w_t4, w_t5]
  rfl
set_option maxRecDepth 65536 in
theorem w_rest : rest_1_c.before args0 about1 = true := by decide +kernel
set_option maxRecDepth 65536 in
theorem w_case : (Jvm.Cond.and given_1 narrow_1).before args0 about1 = true := by decide +kernel
set_option maxRecDepth 65536 in
theorem w_consts : constsHeld consts_1 about1 := Jvm.Lit.constsHeldB_iff.mp (by decide +kernel)
theorem w_applies : (headSpec (Jvm.Cond.code x code maxLocals ret :: tables_1) room_1).applies x e0.platform about1 = true :=
  (Spec.applies_iff w_frames).mpr ⟨w_running, w_runnable, w_alone, w_named, w_hears, w_ripe, w_room, w_tables⟩
theorem atStart : AtStart classFile x code maxLocals ret World_1 tables_1 room_1 Calls_1 rest_1 Pre_1 launch0 p0 e0 about1 theMethod args0 below0 :=
  ⟨lists_1, trivial, launch0.admits_env _ _ _, launch0.least_env, fairChoices_fair.cas, fairChoices_fair.clock, w_frames, w_args, w_heap, w_applies, ⟨w_consts, trivial⟩, w_rest, w_case⟩
end start1
theorem witness_1 : WitnessClaimed_1 := ⟨start1.p0, start1.e0, start1.about1, start1.theMethod, start1.args0, start1.below0, start1.atStart⟩
end Jvm.Pilot.@@N@@
