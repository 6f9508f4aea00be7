import JvmDerived
import JvmDerived.Pilot.@@N@@Statement
import JvmDerived.Pilot.@@N@@Code
set_option linter.unusedVariables false
set_option linter.unusedSimpArgs false
@@BLOCK:NumsL.lean.txt@@
namespace Jvm.RoadKit
open Sem ClassFile Op Lib Jvm.Stand Jvm.Free Jvm.LawKit
section Own
variable {p : Program} {l : Launch} {e : Env} {R : Room} {s : State} {m : MethodId} {args : Array Value} {below : List Frame} {meth : Method} {c : Code} {T : State} {locs : List Loc} {cells slots : Nat} {Z : State} {a0 : Array Value} {h h' h0 : Heap} {ws ws' : List Addr} {Q : Option Value → Heap → List Loc → Prop} {k n : Nat}
/-- the run from U comes to an end of which G speaks -/
def OEnd (p : Program) (e : Env) (below : List Frame) (G : Outcome → State → Prop) (U : State) : Prop := ∃ t o, Steps p.tables e below U t ∧ t.status = .running ∧ Ended t below o ∧ G o t
theorem OEnd.of {G : Outcome → State → Prop} {U U' : State} (q : ∀ t, Steps p.tables e below U' t → Steps p.tables e below U t) (k : OEnd p e below G U') : OEnd p e below G U := by
  obtain ⟨t, o, h1, h2⟩ := k
  exact ⟨t, o, q t h1, h2⟩
/-- a contract's end, nothing interned -/
def GN (s : State) (Q : Option Value → Heap → List Loc → Prop) (k n : Nat) (o : Outcome) (t : State) : Prop := ∃ v L, o = .returned v ∧ Q v t.heap L ∧ FrameEnd s o t L k n
theorem OEnd.out {v : Option Value} {g : JFrame} (X : Stand p l e R s m args below meth c T locs cells slots) (hlk : meth.locks = false) (eT : T.heap = h) (hv : meth.sig.returnType = none → v = none)
    (hs : ∀ fs, (∀ (f : JFrame) (acts : List Action), f.method = m → f.locked = none → f.entered = [] → (doReturn e (T.setTop f) acts v).1 = T.setFrames fs) → Steps p.tables e below (T.setTop g) (T.setFrames fs))
    (hQ : Q v h locs) (hk : cells ≤ k) (hn : slots ≤ n) : OEnd p e below (GN s Q k n) (T.setTop g) := by
  obtain ⟨fs, hr, hrun, hended, hW, hsame⟩ := X.leave (v := v) hv hlk
  exact ⟨_, _, hs fs hr, hrun, hended, v, locs, rfl, (by show Q v T.heap locs; rw [eT]; exact hQ), ⟨v, rfl⟩, hW, hsame.mono hk hn⟩
theorem OEnd.retV {pc : Nat} {Ls : Array Slot} (X : Stand p l e R s m args below meth c T locs cells slots) (hx : p.tables.exec = Jvm.exec) (hlk : meth.locks = false) (eT : T.heap = h) (hret : meth.sig.returnType = none) (hd : decode c.code pc = .ok (.return_, 1))
    (hQ : Q none h locs) (hk : cells ≤ k) (hn : slots ≤ n) : OEnd p e below (GN s Q k n) (T.setTop (mkF m pc Ls [])) :=
  OEnd.out X hlk eT (fun _ => rfl) (fun fs hr => X.returnOut hx hret hd hr) hQ hk hn
theorem OEnd.retN {pc : Nat} {Ls : Array Slot} {z : Int32} {t : FieldType} {rest : List Value} (X : Stand p l e R s m args below meth c T locs cells slots) (hx : p.tables.exec = Jvm.exec) (hlk : meth.locks = false) (eT : T.heap = h) (hret : meth.sig.returnType = some t) (ht : t = .boolean ∨ t = .byte ∨ t = .char ∨ t = .short)
    (hd : decode c.code pc = .ok (.ireturn, 1)) (hQ : Q (some (.int (nar t z))) h locs) (hk : cells ≤ k) (hn : slots ≤ n) : OEnd p e below (GN s Q k n) (T.setTop (mkF m pc Ls (.int z :: rest))) :=
  OEnd.out X hlk eT (fun q => by rw [hret] at q; cases q) (fun fs hr => Jvm.RoadKit.retN X hx hret ht hd hr) hQ hk hn
theorem OEnd.retI {pc : Nat} {Ls : Array Slot} {z : Int32} {rest : List Value} (X : Stand p l e R s m args below meth c T locs cells slots) (hx : p.tables.exec = Jvm.exec) (hlk : meth.locks = false) (eT : T.heap = h) (hret : meth.sig.returnType = some .int)
    (hd : decode c.code pc = .ok (.ireturn, 1)) (hQ : Q (some (.int z)) h locs) (hk : cells ≤ k) (hn : slots ≤ n) : OEnd p e below (GN s Q k n) (T.setTop (mkF m pc Ls (.int z :: rest))) :=
  OEnd.out X hlk eT (fun q => by rw [hret] at q; cases q) (fun fs hr => retOut X hx hret rfl (Or.inl ⟨rfl, Or.inl rfl, z, rfl⟩) hd hr) hQ hk hn
theorem OEnd.retJ {pc : Nat} {Ls : Array Slot} {z : Int64} {rest : List Value} (X : Stand p l e R s m args below meth c T locs cells slots) (hx : p.tables.exec = Jvm.exec) (hlk : meth.locks = false) (eT : T.heap = h) (hret : meth.sig.returnType = some .long)
    (hd : decode c.code pc = .ok (.lreturn, 1)) (hQ : Q (some (.long z)) h locs) (hk : cells ≤ k) (hn : slots ≤ n) : OEnd p e below (GN s Q k n) (T.setTop (mkF m pc Ls (.long z :: rest))) :=
  OEnd.out X hlk eT (fun q => by rw [hret] at q; cases q) (fun fs hr => retOut X hx hret rfl (Or.inr (Or.inl ⟨rfl, rfl, z, rfl⟩)) hd hr) hQ hk hn
theorem own_narRef {t : FieldType} {w : Value} (hw : w.isRef = true) : narrow t w = w := by cases w <;> first | (cases hw; done) | (cases t <;> rfl)
theorem OEnd.retA {pc : Nat} {Ls : Array Slot} {w : Value} {t : FieldType} {rest : List Value} (X : Stand p l e R s m args below meth c T locs cells slots) (hx : p.tables.exec = Jvm.exec) (hlk : meth.locks = false) (eT : T.heap = h) (hret : meth.sig.returnType = some t) (ht : t.isReference = true) (hw : w.isRef = true)
    (hd : decode c.code pc = .ok (.areturn, 1)) (hQ : Q (some w) h locs) (hk : cells ≤ k) (hn : slots ≤ n) : OEnd p e below (GN s Q k n) (T.setTop (mkF m pc Ls (w :: rest))) :=
  OEnd.out X hlk eT (fun q => by rw [hret] at q; cases q) (fun fs hr => retOut X hx hret (own_narRef hw) (Or.inr (Or.inr (Or.inr (Or.inr ⟨rfl, ht, hw⟩)))) hd hr) hQ hk hn
theorem own_extKeep (O : Ext h0 h) (K : Keep h h' ws) (q : ∀ x ∈ ws, h0.size ≤ x) : Ext h0 h' := ⟨Nat.le_trans O.1 K.1, fun x c r => K.2.1 x c (O.2 x c r) fun z => absurd (Array.getElem?_eq_some_iff.mp r).1 (Nat.not_lt.mpr (q x z))⟩
theorem own_keepMono (K : Keep h h' ws) (q : ∀ x ∈ ws, x ∈ ws') : Keep h h' ws' := ⟨K.1, fun x c r n => K.2.1 x c r (fun z => n (q x z)), K.2.2⟩
theorem own_fitsRef {ty : FieldType} {v : Value} (hv : v.isRef = true) (ht : ty.isReference = true) : fits ty v = true := by cases v <;> first | (cases hv; done) | (cases ty <;> first | (cases ht; done) | rfl)
/-- a private method selects itself (its class can be made, so it is no interface) -/
theorem own_selPriv {y : MethodName} {nn : Nat} (hZ : Z.Warmed39 s.vm) (wi : (Cond.instantiable y.cls nn).before a0 Z = true) (wp : (Cond.privateMethod y).before a0 Z = true) (wm : (Cond.instanceMethod y).before a0 Z = true) (hy : y.cls ≠ "java/lang/invoke/MethodHandle" ∧ y.cls ≠ "java/lang/invoke/VarHandle") : (Cond.selects y.cls y y).before args s = true := by
  have wi' : (Cond.instantiable y.cls nn).before #[] s = true := mv hZ wi
  obtain ⟨cc, kk, h1, h2, -, h3, -⟩ := Cond.instantiable_spec wi'
  exact selects_self_of_private h1 h2 (by simpa using (Bool.or_eq_false_iff.mp h3).1) (Cond.privateMethod_at (mvP hZ wp (args := #[]))) (mvT hZ wm) hy
/-- an object of a class right beneath the root is none of a class K that can be made -/
theorem own_notAssign {C O K : String} {nn : Nat} (w : (Cond.superclass C O).before a0 Z = true) (wo : (Cond.noSuperclass O).before a0 Z = true) (wi : (Cond.instantiable K nn).before a0 Z = true) (h1 : C ≠ K) (h2 : O ≠ K) : ∃ c t, Z.vm.findClass C = some c ∧ Z.vm.findClass K = some t ∧ Z.vm.assignable c t = false := by
  obtain ⟨cc, hc⟩ := found_sup w
  obtain ⟨pp, kk, kp, hp, hk, hkp, hsup, hkind, -, -⟩ := Cond.superclass_spec hc w
  obtain ⟨oo, ko, ho, hko, hnone, -, -⟩ := Cond.noSuperclass_spec wo
  obtain ⟨tt, kt, ht, hkt, hkindt, hif, -⟩ := Cond.instantiable_spec wi
  cases ho.symm.trans hp
  have ne1 := ids_ne hc ht h1
  have ne2 := ids_ne ho ht h2
  have hi : kt.isInterface = false := (Bool.or_eq_false_iff.mp hif).1
  have sb : ∀ f, Z.vm.isSubclassAux f cc tt = false := fun f => by
    match f with
    | 0 => rfl
    | 1 => simp [Vm.isSubclassAux, ne1, hk, hsup]
    | f + 2 => simp [Vm.isSubclassAux, ne1, ne2, hk, hsup, hko, hnone]
  refine ⟨cc, tt, hc, ht, ?_⟩
  show Z.vm.assignableAux (255 + 1) cc tt = false
  simp [Vm.assignableAux, ne1, hk, hkt, hkind, hkindt, hi, Vm.isSubclass, sb]
end Own
end Jvm.RoadKit
namespace Jvm.Pilot.@@N@@
open Jvm Jvm.ClassFile Sem Op Lib Jvm.Free Jvm.Stand Jvm.LawKit Jvm.RoadKit Bundle Jvm.Pilot.@@N@@.Jvm.D
theorem d4_0 : decode jdk_29_method_45_code 0 = .ok (.lload_n 0, 1) := by decide +kernel
theorem d4_1 : decode jdk_29_method_45_code 1 = .ok (.bipush 32, 2) := by decide +kernel
theorem d4_3 : decode jdk_29_method_45_code 3 = .ok (.lshr, 1) := by decide +kernel
theorem d4_4 : decode jdk_29_method_45_code 4 = .ok (.lstore 4, 2) := by decide +kernel
theorem d4_6 : decode jdk_29_method_45_code 6 = .ok (.lload_n 0, 1) := by decide +kernel
theorem d4_7 : decode jdk_29_method_45_code 7 = .ok (.ldc2_w 138, 3) := by decide +kernel
theorem d4_10 : decode jdk_29_method_45_code 10 = .ok (.land, 1) := by decide +kernel
theorem d4_11 : decode jdk_29_method_45_code 11 = .ok (.lstore 6, 2) := by decide +kernel
theorem d4_13 : decode jdk_29_method_45_code 13 = .ok (.lload_n 2, 1) := by decide +kernel
theorem d4_14 : decode jdk_29_method_45_code 14 = .ok (.bipush 32, 2) := by decide +kernel
theorem d4_16 : decode jdk_29_method_45_code 16 = .ok (.lshr, 1) := by decide +kernel
theorem d4_17 : decode jdk_29_method_45_code 17 = .ok (.lstore 8, 2) := by decide +kernel
theorem d4_19 : decode jdk_29_method_45_code 19 = .ok (.lload_n 2, 1) := by decide +kernel
theorem d4_20 : decode jdk_29_method_45_code 20 = .ok (.ldc2_w 138, 3) := by decide +kernel
theorem d4_23 : decode jdk_29_method_45_code 23 = .ok (.land, 1) := by decide +kernel
theorem d4_24 : decode jdk_29_method_45_code 24 = .ok (.lstore 10, 2) := by decide +kernel
theorem d4_26 : decode jdk_29_method_45_code 26 = .ok (.lload 6, 2) := by decide +kernel
theorem d4_28 : decode jdk_29_method_45_code 28 = .ok (.lload 10, 2) := by decide +kernel
theorem d4_30 : decode jdk_29_method_45_code 30 = .ok (.lmul, 1) := by decide +kernel
theorem d4_31 : decode jdk_29_method_45_code 31 = .ok (.lstore 12, 2) := by decide +kernel
theorem d4_33 : decode jdk_29_method_45_code 33 = .ok (.lload 4, 2) := by decide +kernel
theorem d4_35 : decode jdk_29_method_45_code 35 = .ok (.lload 10, 2) := by decide +kernel
theorem d4_37 : decode jdk_29_method_45_code 37 = .ok (.lmul, 1) := by decide +kernel
theorem d4_38 : decode jdk_29_method_45_code 38 = .ok (.lload 12, 2) := by decide +kernel
theorem d4_40 : decode jdk_29_method_45_code 40 = .ok (.bipush 32, 2) := by decide +kernel
theorem d4_42 : decode jdk_29_method_45_code 42 = .ok (.lushr, 1) := by decide +kernel
theorem d4_43 : decode jdk_29_method_45_code 43 = .ok (.ladd, 1) := by decide +kernel
theorem d4_44 : decode jdk_29_method_45_code 44 = .ok (.lstore 14, 2) := by decide +kernel
theorem d4_46 : decode jdk_29_method_45_code 46 = .ok (.lload 14, 2) := by decide +kernel
theorem d4_48 : decode jdk_29_method_45_code 48 = .ok (.ldc2_w 138, 3) := by decide +kernel
theorem d4_51 : decode jdk_29_method_45_code 51 = .ok (.land, 1) := by decide +kernel
theorem d4_52 : decode jdk_29_method_45_code 52 = .ok (.lstore 16, 2) := by decide +kernel
theorem d4_54 : decode jdk_29_method_45_code 54 = .ok (.lload 14, 2) := by decide +kernel
theorem d4_56 : decode jdk_29_method_45_code 56 = .ok (.bipush 32, 2) := by decide +kernel
theorem d4_58 : decode jdk_29_method_45_code 58 = .ok (.lshr, 1) := by decide +kernel
theorem d4_59 : decode jdk_29_method_45_code 59 = .ok (.lstore 18, 2) := by decide +kernel
theorem d4_61 : decode jdk_29_method_45_code 61 = .ok (.lload 16, 2) := by decide +kernel
theorem d4_63 : decode jdk_29_method_45_code 63 = .ok (.lload 6, 2) := by decide +kernel
theorem d4_65 : decode jdk_29_method_45_code 65 = .ok (.lload 8, 2) := by decide +kernel
theorem d4_67 : decode jdk_29_method_45_code 67 = .ok (.lmul, 1) := by decide +kernel
theorem d4_68 : decode jdk_29_method_45_code 68 = .ok (.ladd, 1) := by decide +kernel
theorem d4_69 : decode jdk_29_method_45_code 69 = .ok (.lstore 16, 2) := by decide +kernel
theorem d4_71 : decode jdk_29_method_45_code 71 = .ok (.lload 4, 2) := by decide +kernel
theorem d4_73 : decode jdk_29_method_45_code 73 = .ok (.lload 8, 2) := by decide +kernel
theorem d4_75 : decode jdk_29_method_45_code 75 = .ok (.lmul, 1) := by decide +kernel
theorem d4_76 : decode jdk_29_method_45_code 76 = .ok (.lload 18, 2) := by decide +kernel
theorem d4_78 : decode jdk_29_method_45_code 78 = .ok (.ladd, 1) := by decide +kernel
theorem d4_79 : decode jdk_29_method_45_code 79 = .ok (.lload 16, 2) := by decide +kernel
theorem d4_81 : decode jdk_29_method_45_code 81 = .ok (.bipush 32, 2) := by decide +kernel
theorem d4_83 : decode jdk_29_method_45_code 83 = .ok (.lshr, 1) := by decide +kernel
theorem d4_84 : decode jdk_29_method_45_code 84 = .ok (.ladd, 1) := by decide +kernel
theorem d4_85 : decode jdk_29_method_45_code 85 = .ok (.lreturn, 1) := by decide +kernel
abbrev RMrm4 : Room := { frames := 0, cells := 0, slots := 0, locals := 0 }
theorem ef_rm4 (m : MethodId) (q1 : Int64) (q2 : Int64) : entryFrame m #[(.long q1), (.long q2)] 20 = mkF m 0 #[.val (.long q1), .second, .val (.long q2), .second, .unset, .unset, .unset, .unset, .unset, .unset, .unset, .unset, .unset, .unset, .unset, .unset, .unset, .unset, .unset, .unset] [] := by first | (simp [entryFrame, mkF, argsToLocals, Value.category]; done) | rfl
def Qrm4 (Z : State)  (q1 : Int64) (q2 : Int64) (h0 : Heap) (v : Option Value) (h : Heap) (L : List Loc) : Prop := ∃ (r : Int64), v = some (.long r) ∧ Fr Z.heap.size L ∧ h = h0
set_option maxRecDepth 65536 in
set_option maxHeartbeats 40000000 in
theorem rm4 (l : Launch) (Z : State) (a0 : Array Value) (hw : ∀ d ∈ tables_1, d.before a0 Z = true)   (ws : List Jvm.Cond) (q1 : Int64) (q2 : Int64) (h0 : Heap) (O0 : Ext Z.heap h0) :
    MetFree l (⟨"java/lang/Math", "multiplyHigh", "(JJ)J"⟩ : MethodName) (head1 (Jvm.Cond.code (⟨"java/lang/Math", "multiplyHigh", "(JJ)J"⟩ : MethodName) jdk_29_method_45_code 20 (some .long) :: ws) RMrm4) (fun a U => a = #[(.long q1), (.long q2)] ∧ Z.Warmed39 U.vm ∧ U.heap = h0) (fun _ _ _ _ _ => True) (fun _ U o U' => ∃ v L, o = .returned v ∧ Qrm4 Z q1 q2 h0 v U'.heap L ∧ FrameEnd U o U' L RMrm4.cells RMrm4.slots) := by
  refine MetFree.of_bodySF (Jvm.Free.JP.mathPlain rfl (by decide +kernel)) hisR ?_
  intro p e s m args below meth c s₁ Bd hml0 hP hK
  obtain ⟨rfl, hZ, hh⟩ := hP
  have hx := Bd.exec
  have hby := Bd.bytes
  have hlk : meth.locks = false := BodyLoose.notSynchronized Bd
  have hret := Bd.returns
  have hml : c.maxLocals = 20 := hml0
  have hown : s.vm.findClass "java/lang/Math" = some m.cls := findClass_of_methodNamed Bd.named
  have hnm := (name_of_methodNamed Bd.named Bd.method).1
  have X0 : Stand p l e RMrm4 s m #[(.long q1), (.long q2)] below meth c s₁ [] 0 0 := Stand.of_body Bd
  have e0 : s₁.heap = h0 := by rw [← hh, Bd.state]; rfl
  have N0 := Fr.nil Z.heap.size
  show OEnd p e below (GN s (Qrm4 Z q1 q2 h0) RMrm4.cells RMrm4.slots) _
  refine OEnd.of (fun t k => castTop (ef_rm4 m q1 q2) k) ?_
  refine OEnd.of (fun t k => XS.lloadN X0.here hx rfl (hb hby d4_0) rfl k) ?_
  show OEnd p e below _ (s₁.setTop (mkF m 1 #[.val (.long q1), .second, .val (.long q2), .second, .unset, .unset, .unset, .unset, .unset, .unset, .unset, .unset, .unset, .unset, .unset, .unset, .unset, .unset, .unset, .unset] [(.long q1)]))
  refine OEnd.of (fun t k => XS.bipush X0.here hx rfl (hb hby d4_1) k) ?_
  show OEnd p e below _ (s₁.setTop (mkF m 3 #[.val (.long q1), .second, .val (.long q2), .second, .unset, .unset, .unset, .unset, .unset, .unset, .unset, .unset, .unset, .unset, .unset, .unset, .unset, .unset, .unset, .unset] [(.int (32 : Int32)), (.long q1)]))
  refine OEnd.of (fun t k => XS.lshr X0.here hx rfl (hb hby d4_3) rfl k) ?_
  show OEnd p e below _ (s₁.setTop (mkF m 4 #[.val (.long q1), .second, .val (.long q2), .second, .unset, .unset, .unset, .unset, .unset, .unset, .unset, .unset, .unset, .unset, .unset, .unset, .unset, .unset, .unset, .unset] [(.long (q1 >>> ((32 : Int32) &&& 0x3f).toInt64))]))
  generalize q_y1 : (q1 >>> ((32 : Int32) &&& 0x3f).toInt64) = y1
  refine OEnd.of (fun t k => XS.lstore X0.here hx rfl (hb hby d4_4) rfl (l' := #[.val (.long q1), .second, .val (.long q2), .second, .val (.long y1), .second, .unset, .unset, .unset, .unset, .unset, .unset, .unset, .unset, .unset, .unset, .unset, .unset, .unset, .unset]) rfl k) ?_
  show OEnd p e below _ (s₁.setTop (mkF m 6 #[.val (.long q1), .second, .val (.long q2), .second, .val (.long y1), .second, .unset, .unset, .unset, .unset, .unset, .unset, .unset, .unset, .unset, .unset, .unset, .unset, .unset, .unset] []))
  refine OEnd.of (fun t k => XS.lloadN X0.here hx rfl (hb hby d4_6) rfl k) ?_
  show OEnd p e below _ (s₁.setTop (mkF m 7 #[.val (.long q1), .second, .val (.long q2), .second, .val (.long y1), .second, .unset, .unset, .unset, .unset, .unset, .unset, .unset, .unset, .unset, .unset, .unset, .unset, .unset, .unset] [(.long q1)]))
  refine OEnd.of (X0.ldc2Long hx hown (mvT hZ (hw _ (List.mem_of_getElem? (i := 25) rfl))) (g := (mkF m 7 #[.val (.long q1), .second, .val (.long q2), .second, .val (.long y1), .second, .unset, .unset, .unset, .unset, .unset, .unset, .unset, .unset, .unset, .unset, .unset, .unset, .unset, .unset] [(.long q1)])) rfl (hb hby d4_7)) ?_
  show OEnd p e below _ (s₁.setTop (mkF m 10 #[.val (.long q1), .second, .val (.long q2), .second, .val (.long y1), .second, .unset, .unset, .unset, .unset, .unset, .unset, .unset, .unset, .unset, .unset, .unset, .unset, .unset, .unset] [(.long (4294967295 : Int64)), (.long q1)]))
  refine OEnd.of (fun t k => XS.land X0.here hx rfl (hb hby d4_10) rfl k) ?_
  show OEnd p e below _ (s₁.setTop (mkF m 11 #[.val (.long q1), .second, .val (.long q2), .second, .val (.long y1), .second, .unset, .unset, .unset, .unset, .unset, .unset, .unset, .unset, .unset, .unset, .unset, .unset, .unset, .unset] [(.long (q1 &&& (4294967295 : Int64)))]))
  generalize q_y2 : (q1 &&& (4294967295 : Int64)) = y2
  refine OEnd.of (fun t k => XS.lstore X0.here hx rfl (hb hby d4_11) rfl (l' := #[.val (.long q1), .second, .val (.long q2), .second, .val (.long y1), .second, .val (.long y2), .second, .unset, .unset, .unset, .unset, .unset, .unset, .unset, .unset, .unset, .unset, .unset, .unset]) rfl k) ?_
  show OEnd p e below _ (s₁.setTop (mkF m 13 #[.val (.long q1), .second, .val (.long q2), .second, .val (.long y1), .second, .val (.long y2), .second, .unset, .unset, .unset, .unset, .unset, .unset, .unset, .unset, .unset, .unset, .unset, .unset] []))
  refine OEnd.of (fun t k => XS.lloadN X0.here hx rfl (hb hby d4_13) rfl k) ?_
  show OEnd p e below _ (s₁.setTop (mkF m 14 #[.val (.long q1), .second, .val (.long q2), .second, .val (.long y1), .second, .val (.long y2), .second, .unset, .unset, .unset, .unset, .unset, .unset, .unset, .unset, .unset, .unset, .unset, .unset] [(.long q2)]))
  refine OEnd.of (fun t k => XS.bipush X0.here hx rfl (hb hby d4_14) k) ?_
  show OEnd p e below _ (s₁.setTop (mkF m 16 #[.val (.long q1), .second, .val (.long q2), .second, .val (.long y1), .second, .val (.long y2), .second, .unset, .unset, .unset, .unset, .unset, .unset, .unset, .unset, .unset, .unset, .unset, .unset] [(.int (32 : Int32)), (.long q2)]))
  refine OEnd.of (fun t k => XS.lshr X0.here hx rfl (hb hby d4_16) rfl k) ?_
  show OEnd p e below _ (s₁.setTop (mkF m 17 #[.val (.long q1), .second, .val (.long q2), .second, .val (.long y1), .second, .val (.long y2), .second, .unset, .unset, .unset, .unset, .unset, .unset, .unset, .unset, .unset, .unset, .unset, .unset] [(.long (q2 >>> ((32 : Int32) &&& 0x3f).toInt64))]))
  generalize q_y3 : (q2 >>> ((32 : Int32) &&& 0x3f).toInt64) = y3
  refine OEnd.of (fun t k => XS.lstore X0.here hx rfl (hb hby d4_17) rfl (l' := #[.val (.long q1), .second, .val (.long q2), .second, .val (.long y1), .second, .val (.long y2), .second, .val (.long y3), .second, .unset, .unset, .unset, .unset, .unset, .unset, .unset, .unset, .unset, .unset]) rfl k) ?_
  show OEnd p e below _ (s₁.setTop (mkF m 19 #[.val (.long q1), .second, .val (.long q2), .second, .val (.long y1), .second, .val (.long y2), .second, .val (.long y3), .second, .unset, .unset, .unset, .unset, .unset, .unset, .unset, .unset, .unset, .unset] []))
  refine OEnd.of (fun t k => XS.lloadN X0.here hx rfl (hb hby d4_19) rfl k) ?_
  show OEnd p e below _ (s₁.setTop (mkF m 20 #[.val (.long q1), .second, .val (.long q2), .second, .val (.long y1), .second, .val (.long y2), .second, .val (.long y3), .second, .unset, .unset, .unset, .unset, .unset, .unset, .unset, .unset, .unset, .unset] [(.long q2)]))
  refine OEnd.of (X0.ldc2Long hx hown (mvT hZ (hw _ (List.mem_of_getElem? (i := 25) rfl))) (g := (mkF m 20 #[.val (.long q1), .second, .val (.long q2), .second, .val (.long y1), .second, .val (.long y2), .second, .val (.long y3), .second, .unset, .unset, .unset, .unset, .unset, .unset, .unset, .unset, .unset, .unset] [(.long q2)])) rfl (hb hby d4_20)) ?_
  show OEnd p e below _ (s₁.setTop (mkF m 23 #[.val (.long q1), .second, .val (.long q2), .second, .val (.long y1), .second, .val (.long y2), .second, .val (.long y3), .second, .unset, .unset, .unset, .unset, .unset, .unset, .unset, .unset, .unset, .unset] [(.long (4294967295 : Int64)), (.long q2)]))
  refine OEnd.of (fun t k => XS.land X0.here hx rfl (hb hby d4_23) rfl k) ?_
  show OEnd p e below _ (s₁.setTop (mkF m 24 #[.val (.long q1), .second, .val (.long q2), .second, .val (.long y1), .second, .val (.long y2), .second, .val (.long y3), .second, .unset, .unset, .unset, .unset, .unset, .unset, .unset, .unset, .unset, .unset] [(.long (q2 &&& (4294967295 : Int64)))]))
  generalize q_y4 : (q2 &&& (4294967295 : Int64)) = y4
  refine OEnd.of (fun t k => XS.lstore X0.here hx rfl (hb hby d4_24) rfl (l' := #[.val (.long q1), .second, .val (.long q2), .second, .val (.long y1), .second, .val (.long y2), .second, .val (.long y3), .second, .val (.long y4), .second, .unset, .unset, .unset, .unset, .unset, .unset, .unset, .unset]) rfl k) ?_
  show OEnd p e below _ (s₁.setTop (mkF m 26 #[.val (.long q1), .second, .val (.long q2), .second, .val (.long y1), .second, .val (.long y2), .second, .val (.long y3), .second, .val (.long y4), .second, .unset, .unset, .unset, .unset, .unset, .unset, .unset, .unset] []))
  refine OEnd.of (fun t k => XS.lload X0.here hx rfl (hb hby d4_26) rfl k) ?_
  show OEnd p e below _ (s₁.setTop (mkF m 28 #[.val (.long q1), .second, .val (.long q2), .second, .val (.long y1), .second, .val (.long y2), .second, .val (.long y3), .second, .val (.long y4), .second, .unset, .unset, .unset, .unset, .unset, .unset, .unset, .unset] [(.long y2)]))
  refine OEnd.of (fun t k => XS.lload X0.here hx rfl (hb hby d4_28) rfl k) ?_
  show OEnd p e below _ (s₁.setTop (mkF m 30 #[.val (.long q1), .second, .val (.long q2), .second, .val (.long y1), .second, .val (.long y2), .second, .val (.long y3), .second, .val (.long y4), .second, .unset, .unset, .unset, .unset, .unset, .unset, .unset, .unset] [(.long y4), (.long y2)]))
  refine OEnd.of (fun t k => XS.lmul X0.here hx rfl (hb hby d4_30) rfl k) ?_
  show OEnd p e below _ (s₁.setTop (mkF m 31 #[.val (.long q1), .second, .val (.long q2), .second, .val (.long y1), .second, .val (.long y2), .second, .val (.long y3), .second, .val (.long y4), .second, .unset, .unset, .unset, .unset, .unset, .unset, .unset, .unset] [(.long (y2 * y4))]))
  generalize q_y5 : (y2 * y4) = y5
  refine OEnd.of (fun t k => XS.lstore X0.here hx rfl (hb hby d4_31) rfl (l' := #[.val (.long q1), .second, .val (.long q2), .second, .val (.long y1), .second, .val (.long y2), .second, .val (.long y3), .second, .val (.long y4), .second, .val (.long y5), .second, .unset, .unset, .unset, .unset, .unset, .unset]) rfl k) ?_
  show OEnd p e below _ (s₁.setTop (mkF m 33 #[.val (.long q1), .second, .val (.long q2), .second, .val (.long y1), .second, .val (.long y2), .second, .val (.long y3), .second, .val (.long y4), .second, .val (.long y5), .second, .unset, .unset, .unset, .unset, .unset, .unset] []))
  refine OEnd.of (fun t k => XS.lload X0.here hx rfl (hb hby d4_33) rfl k) ?_
  show OEnd p e below _ (s₁.setTop (mkF m 35 #[.val (.long q1), .second, .val (.long q2), .second, .val (.long y1), .second, .val (.long y2), .second, .val (.long y3), .second, .val (.long y4), .second, .val (.long y5), .second, .unset, .unset, .unset, .unset, .unset, .unset] [(.long y1)]))
  refine OEnd.of (fun t k => XS.lload X0.here hx rfl (hb hby d4_35) rfl k) ?_
  show OEnd p e below _ (s₁.setTop (mkF m 37 #[.val (.long q1), .second, .val (.long q2), .second, .val (.long y1), .second, .val (.long y2), .second, .val (.long y3), .second, .val (.long y4), .second, .val (.long y5), .second, .unset, .unset, .unset, .unset, .unset, .unset] [(.long y4), (.long y1)]))
  refine OEnd.of (fun t k => XS.lmul X0.here hx rfl (hb hby d4_37) rfl k) ?_
  show OEnd p e below _ (s₁.setTop (mkF m 38 #[.val (.long q1), .second, .val (.long q2), .second, .val (.long y1), .second, .val (.long y2), .second, .val (.long y3), .second, .val (.long y4), .second, .val (.long y5), .second, .unset, .unset, .unset, .unset, .unset, .unset] [(.long (y1 * y4))]))
  refine OEnd.of (fun t k => XS.lload X0.here hx rfl (hb hby d4_38) rfl k) ?_
  show OEnd p e below _ (s₁.setTop (mkF m 40 #[.val (.long q1), .second, .val (.long q2), .second, .val (.long y1), .second, .val (.long y2), .second, .val (.long y3), .second, .val (.long y4), .second, .val (.long y5), .second, .unset, .unset, .unset, .unset, .unset, .unset] [(.long y5), (.long (y1 * y4))]))
  refine OEnd.of (fun t k => XS.bipush X0.here hx rfl (hb hby d4_40) k) ?_
  show OEnd p e below _ (s₁.setTop (mkF m 42 #[.val (.long q1), .second, .val (.long q2), .second, .val (.long y1), .second, .val (.long y2), .second, .val (.long y3), .second, .val (.long y4), .second, .val (.long y5), .second, .unset, .unset, .unset, .unset, .unset, .unset] [(.int (32 : Int32)), (.long y5), (.long (y1 * y4))]))
  refine OEnd.of (fun t k => XS.lushr X0.here hx rfl (hb hby d4_42) rfl k) ?_
  show OEnd p e below _ (s₁.setTop (mkF m 43 #[.val (.long q1), .second, .val (.long q2), .second, .val (.long y1), .second, .val (.long y2), .second, .val (.long y3), .second, .val (.long y4), .second, .val (.long y5), .second, .unset, .unset, .unset, .unset, .unset, .unset] [(.long ((y5.toUInt64 >>> ((32 : Int32) &&& 0x3f).toInt64.toUInt64).toInt64)), (.long (y1 * y4))]))
  refine OEnd.of (fun t k => XS.ladd X0.here hx rfl (hb hby d4_43) rfl k) ?_
  show OEnd p e below _ (s₁.setTop (mkF m 44 #[.val (.long q1), .second, .val (.long q2), .second, .val (.long y1), .second, .val (.long y2), .second, .val (.long y3), .second, .val (.long y4), .second, .val (.long y5), .second, .unset, .unset, .unset, .unset, .unset, .unset] [(.long ((y1 * y4) + ((y5.toUInt64 >>> ((32 : Int32) &&& 0x3f).toInt64.toUInt64).toInt64)))]))
  generalize q_y6 : ((y1 * y4) + ((y5.toUInt64 >>> ((32 : Int32) &&& 0x3f).toInt64.toUInt64).toInt64)) = y6
  refine OEnd.of (fun t k => XS.lstore X0.here hx rfl (hb hby d4_44) rfl (l' := #[.val (.long q1), .second, .val (.long q2), .second, .val (.long y1), .second, .val (.long y2), .second, .val (.long y3), .second, .val (.long y4), .second, .val (.long y5), .second, .val (.long y6), .second, .unset, .unset, .unset, .unset]) rfl k) ?_
  show OEnd p e below _ (s₁.setTop (mkF m 46 #[.val (.long q1), .second, .val (.long q2), .second, .val (.long y1), .second, .val (.long y2), .second, .val (.long y3), .second, .val (.long y4), .second, .val (.long y5), .second, .val (.long y6), .second, .unset, .unset, .unset, .unset] []))
  refine OEnd.of (fun t k => XS.lload X0.here hx rfl (hb hby d4_46) rfl k) ?_
  show OEnd p e below _ (s₁.setTop (mkF m 48 #[.val (.long q1), .second, .val (.long q2), .second, .val (.long y1), .second, .val (.long y2), .second, .val (.long y3), .second, .val (.long y4), .second, .val (.long y5), .second, .val (.long y6), .second, .unset, .unset, .unset, .unset] [(.long y6)]))
  refine OEnd.of (X0.ldc2Long hx hown (mvT hZ (hw _ (List.mem_of_getElem? (i := 25) rfl))) (g := (mkF m 48 #[.val (.long q1), .second, .val (.long q2), .second, .val (.long y1), .second, .val (.long y2), .second, .val (.long y3), .second, .val (.long y4), .second, .val (.long y5), .second, .val (.long y6), .second, .unset, .unset, .unset, .unset] [(.long y6)])) rfl (hb hby d4_48)) ?_
  show OEnd p e below _ (s₁.setTop (mkF m 51 #[.val (.long q1), .second, .val (.long q2), .second, .val (.long y1), .second, .val (.long y2), .second, .val (.long y3), .second, .val (.long y4), .second, .val (.long y5), .second, .val (.long y6), .second, .unset, .unset, .unset, .unset] [(.long (4294967295 : Int64)), (.long y6)]))
  refine OEnd.of (fun t k => XS.land X0.here hx rfl (hb hby d4_51) rfl k) ?_
  show OEnd p e below _ (s₁.setTop (mkF m 52 #[.val (.long q1), .second, .val (.long q2), .second, .val (.long y1), .second, .val (.long y2), .second, .val (.long y3), .second, .val (.long y4), .second, .val (.long y5), .second, .val (.long y6), .second, .unset, .unset, .unset, .unset] [(.long (y6 &&& (4294967295 : Int64)))]))
  generalize q_y7 : (y6 &&& (4294967295 : Int64)) = y7
  refine OEnd.of (fun t k => XS.lstore X0.here hx rfl (hb hby d4_52) rfl (l' := #[.val (.long q1), .second, .val (.long q2), .second, .val (.long y1), .second, .val (.long y2), .second, .val (.long y3), .second, .val (.long y4), .second, .val (.long y5), .second, .val (.long y6), .second, .val (.long y7), .second, .unset, .unset]) rfl k) ?_
  show OEnd p e below _ (s₁.setTop (mkF m 54 #[.val (.long q1), .second, .val (.long q2), .second, .val (.long y1), .second, .val (.long y2), .second, .val (.long y3), .second, .val (.long y4), .second, .val (.long y5), .second, .val (.long y6), .second, .val (.long y7), .second, .unset, .unset] []))
  refine OEnd.of (fun t k => XS.lload X0.here hx rfl (hb hby d4_54) rfl k) ?_
  show OEnd p e below _ (s₁.setTop (mkF m 56 #[.val (.long q1), .second, .val (.long q2), .second, .val (.long y1), .second, .val (.long y2), .second, .val (.long y3), .second, .val (.long y4), .second, .val (.long y5), .second, .val (.long y6), .second, .val (.long y7), .second, .unset, .unset] [(.long y6)]))
  refine OEnd.of (fun t k => XS.bipush X0.here hx rfl (hb hby d4_56) k) ?_
  show OEnd p e below _ (s₁.setTop (mkF m 58 #[.val (.long q1), .second, .val (.long q2), .second, .val (.long y1), .second, .val (.long y2), .second, .val (.long y3), .second, .val (.long y4), .second, .val (.long y5), .second, .val (.long y6), .second, .val (.long y7), .second, .unset, .unset] [(.int (32 : Int32)), (.long y6)]))
  refine OEnd.of (fun t k => XS.lshr X0.here hx rfl (hb hby d4_58) rfl k) ?_
  show OEnd p e below _ (s₁.setTop (mkF m 59 #[.val (.long q1), .second, .val (.long q2), .second, .val (.long y1), .second, .val (.long y2), .second, .val (.long y3), .second, .val (.long y4), .second, .val (.long y5), .second, .val (.long y6), .second, .val (.long y7), .second, .unset, .unset] [(.long (y6 >>> ((32 : Int32) &&& 0x3f).toInt64))]))
  generalize q_y8 : (y6 >>> ((32 : Int32) &&& 0x3f).toInt64) = y8
  refine OEnd.of (fun t k => XS.lstore X0.here hx rfl (hb hby d4_59) rfl (l' := #[.val (.long q1), .second, .val (.long q2), .second, .val (.long y1), .second, .val (.long y2), .second, .val (.long y3), .second, .val (.long y4), .second, .val (.long y5), .second, .val (.long y6), .second, .val (.long y7), .second, .val (.long y8), .second]) rfl k) ?_
  show OEnd p e below _ (s₁.setTop (mkF m 61 #[.val (.long q1), .second, .val (.long q2), .second, .val (.long y1), .second, .val (.long y2), .second, .val (.long y3), .second, .val (.long y4), .second, .val (.long y5), .second, .val (.long y6), .second, .val (.long y7), .second, .val (.long y8), .second] []))
  refine OEnd.of (fun t k => XS.lload X0.here hx rfl (hb hby d4_61) rfl k) ?_
  show OEnd p e below _ (s₁.setTop (mkF m 63 #[.val (.long q1), .second, .val (.long q2), .second, .val (.long y1), .second, .val (.long y2), .second, .val (.long y3), .second, .val (.long y4), .second, .val (.long y5), .second, .val (.long y6), .second, .val (.long y7), .second, .val (.long y8), .second] [(.long y7)]))
  refine OEnd.of (fun t k => XS.lload X0.here hx rfl (hb hby d4_63) rfl k) ?_
  show OEnd p e below _ (s₁.setTop (mkF m 65 #[.val (.long q1), .second, .val (.long q2), .second, .val (.long y1), .second, .val (.long y2), .second, .val (.long y3), .second, .val (.long y4), .second, .val (.long y5), .second, .val (.long y6), .second, .val (.long y7), .second, .val (.long y8), .second] [(.long y2), (.long y7)]))
  refine OEnd.of (fun t k => XS.lload X0.here hx rfl (hb hby d4_65) rfl k) ?_
  show OEnd p e below _ (s₁.setTop (mkF m 67 #[.val (.long q1), .second, .val (.long q2), .second, .val (.long y1), .second, .val (.long y2), .second, .val (.long y3), .second, .val (.long y4), .second, .val (.long y5), .second, .val (.long y6), .second, .val (.long y7), .second, .val (.long y8), .second] [(.long y3), (.long y2), (.long y7)]))
  refine OEnd.of (fun t k => XS.lmul X0.here hx rfl (hb hby d4_67) rfl k) ?_
  show OEnd p e below _ (s₁.setTop (mkF m 68 #[.val (.long q1), .second, .val (.long q2), .second, .val (.long y1), .second, .val (.long y2), .second, .val (.long y3), .second, .val (.long y4), .second, .val (.long y5), .second, .val (.long y6), .second, .val (.long y7), .second, .val (.long y8), .second] [(.long (y2 * y3)), (.long y7)]))
  refine OEnd.of (fun t k => XS.ladd X0.here hx rfl (hb hby d4_68) rfl k) ?_
  show OEnd p e below _ (s₁.setTop (mkF m 69 #[.val (.long q1), .second, .val (.long q2), .second, .val (.long y1), .second, .val (.long y2), .second, .val (.long y3), .second, .val (.long y4), .second, .val (.long y5), .second, .val (.long y6), .second, .val (.long y7), .second, .val (.long y8), .second] [(.long (y7 + (y2 * y3)))]))
  generalize q_y9 : (y7 + (y2 * y3)) = y9
  refine OEnd.of (fun t k => XS.lstore X0.here hx rfl (hb hby d4_69) rfl (l' := #[.val (.long q1), .second, .val (.long q2), .second, .val (.long y1), .second, .val (.long y2), .second, .val (.long y3), .second, .val (.long y4), .second, .val (.long y5), .second, .val (.long y6), .second, .val (.long y9), .second, .val (.long y8), .second]) rfl k) ?_
  show OEnd p e below _ (s₁.setTop (mkF m 71 #[.val (.long q1), .second, .val (.long q2), .second, .val (.long y1), .second, .val (.long y2), .second, .val (.long y3), .second, .val (.long y4), .second, .val (.long y5), .second, .val (.long y6), .second, .val (.long y9), .second, .val (.long y8), .second] []))
  refine OEnd.of (fun t k => XS.lload X0.here hx rfl (hb hby d4_71) rfl k) ?_
  show OEnd p e below _ (s₁.setTop (mkF m 73 #[.val (.long q1), .second, .val (.long q2), .second, .val (.long y1), .second, .val (.long y2), .second, .val (.long y3), .second, .val (.long y4), .second, .val (.long y5), .second, .val (.long y6), .second, .val (.long y9), .second, .val (.long y8), .second] [(.long y1)]))
  refine OEnd.of (fun t k => XS.lload X0.here hx rfl (hb hby d4_73) rfl k) ?_
  show OEnd p e below _ (s₁.setTop (mkF m 75 #[.val (.long q1), .second, .val (.long q2), .second, .val (.long y1), .second, .val (.long y2), .second, .val (.long y3), .second, .val (.long y4), .second, .val (.long y5), .second, .val (.long y6), .second, .val (.long y9), .second, .val (.long y8), .second] [(.long y3), (.long y1)]))
  refine OEnd.of (fun t k => XS.lmul X0.here hx rfl (hb hby d4_75) rfl k) ?_
  show OEnd p e below _ (s₁.setTop (mkF m 76 #[.val (.long q1), .second, .val (.long q2), .second, .val (.long y1), .second, .val (.long y2), .second, .val (.long y3), .second, .val (.long y4), .second, .val (.long y5), .second, .val (.long y6), .second, .val (.long y9), .second, .val (.long y8), .second] [(.long (y1 * y3))]))
  refine OEnd.of (fun t k => XS.lload X0.here hx rfl (hb hby d4_76) rfl k) ?_
  show OEnd p e below _ (s₁.setTop (mkF m 78 #[.val (.long q1), .second, .val (.long q2), .second, .val (.long y1), .second, .val (.long y2), .second, .val (.long y3), .second, .val (.long y4), .second, .val (.long y5), .second, .val (.long y6), .second, .val (.long y9), .second, .val (.long y8), .second] [(.long y8), (.long (y1 * y3))]))
  refine OEnd.of (fun t k => XS.ladd X0.here hx rfl (hb hby d4_78) rfl k) ?_
  show OEnd p e below _ (s₁.setTop (mkF m 79 #[.val (.long q1), .second, .val (.long q2), .second, .val (.long y1), .second, .val (.long y2), .second, .val (.long y3), .second, .val (.long y4), .second, .val (.long y5), .second, .val (.long y6), .second, .val (.long y9), .second, .val (.long y8), .second] [(.long ((y1 * y3) + y8))]))
  refine OEnd.of (fun t k => XS.lload X0.here hx rfl (hb hby d4_79) rfl k) ?_
  show OEnd p e below _ (s₁.setTop (mkF m 81 #[.val (.long q1), .second, .val (.long q2), .second, .val (.long y1), .second, .val (.long y2), .second, .val (.long y3), .second, .val (.long y4), .second, .val (.long y5), .second, .val (.long y6), .second, .val (.long y9), .second, .val (.long y8), .second] [(.long y9), (.long ((y1 * y3) + y8))]))
  refine OEnd.of (fun t k => XS.bipush X0.here hx rfl (hb hby d4_81) k) ?_
  show OEnd p e below _ (s₁.setTop (mkF m 83 #[.val (.long q1), .second, .val (.long q2), .second, .val (.long y1), .second, .val (.long y2), .second, .val (.long y3), .second, .val (.long y4), .second, .val (.long y5), .second, .val (.long y6), .second, .val (.long y9), .second, .val (.long y8), .second] [(.int (32 : Int32)), (.long y9), (.long ((y1 * y3) + y8))]))
  refine OEnd.of (fun t k => XS.lshr X0.here hx rfl (hb hby d4_83) rfl k) ?_
  show OEnd p e below _ (s₁.setTop (mkF m 84 #[.val (.long q1), .second, .val (.long q2), .second, .val (.long y1), .second, .val (.long y2), .second, .val (.long y3), .second, .val (.long y4), .second, .val (.long y5), .second, .val (.long y6), .second, .val (.long y9), .second, .val (.long y8), .second] [(.long (y9 >>> ((32 : Int32) &&& 0x3f).toInt64)), (.long ((y1 * y3) + y8))]))
  refine OEnd.of (fun t k => XS.ladd X0.here hx rfl (hb hby d4_84) rfl k) ?_
  show OEnd p e below _ (s₁.setTop (mkF m 85 #[.val (.long q1), .second, .val (.long q2), .second, .val (.long y1), .second, .val (.long y2), .second, .val (.long y3), .second, .val (.long y4), .second, .val (.long y5), .second, .val (.long y6), .second, .val (.long y9), .second, .val (.long y8), .second] [(.long (((y1 * y3) + y8) + (y9 >>> ((32 : Int32) &&& 0x3f).toInt64)))]))
  exact OEnd.retJ X0 hx hlk e0 hret (hb hby d4_85) ⟨_, rfl, N0, rfl⟩ (by decide) (by decide)
theorem d6_0 : decode jdk_33_method_47_code 0 = .ok (.iload_n 0, 1) := by decide +kernel
theorem d6_1 : decode jdk_33_method_47_code 1 = .ok (.ifCond .gt 14, 3) := by decide +kernel
theorem d6_4 : decode jdk_33_method_47_code 4 = .ok (.iload_n 0, 1) := by decide +kernel
theorem d6_5 : decode jdk_33_method_47_code 5 = .ok (.ifCond .ne 8, 3) := by decide +kernel
theorem d6_8 : decode jdk_33_method_47_code 8 = .ok (.bipush 32, 2) := by decide +kernel
theorem d6_10 : decode jdk_33_method_47_code 10 = .ok (.goto 4, 3) := by decide +kernel
theorem d6_13 : decode jdk_33_method_47_code 13 = .ok (.iconst 0, 1) := by decide +kernel
theorem d6_14 : decode jdk_33_method_47_code 14 = .ok (.ireturn, 1) := by decide +kernel
theorem d6_15 : decode jdk_33_method_47_code 15 = .ok (.bipush 31, 2) := by decide +kernel
theorem d6_17 : decode jdk_33_method_47_code 17 = .ok (.istore_n 1, 1) := by decide +kernel
theorem d6_18 : decode jdk_33_method_47_code 18 = .ok (.iload_n 0, 1) := by decide +kernel
theorem d6_19 : decode jdk_33_method_47_code 19 = .ok (.ldc_w 264, 3) := by decide +kernel
theorem d6_22 : decode jdk_33_method_47_code 22 = .ok (.if_icmp .lt 11, 3) := by decide +kernel
theorem d6_25 : decode jdk_33_method_47_code 25 = .ok (.iinc 1 (-16), 3) := by decide +kernel
theorem d6_28 : decode jdk_33_method_47_code 28 = .ok (.iload_n 0, 1) := by decide +kernel
theorem d6_29 : decode jdk_33_method_47_code 29 = .ok (.bipush 16, 2) := by decide +kernel
theorem d6_31 : decode jdk_33_method_47_code 31 = .ok (.iushr, 1) := by decide +kernel
theorem d6_32 : decode jdk_33_method_47_code 32 = .ok (.istore_n 0, 1) := by decide +kernel
theorem d6_33 : decode jdk_33_method_47_code 33 = .ok (.iload_n 0, 1) := by decide +kernel
theorem d6_34 : decode jdk_33_method_47_code 34 = .ok (.sipush 256, 3) := by decide +kernel
theorem d6_37 : decode jdk_33_method_47_code 37 = .ok (.if_icmp .lt 11, 3) := by decide +kernel
theorem d6_40 : decode jdk_33_method_47_code 40 = .ok (.iinc 1 (-8), 3) := by decide +kernel
theorem d6_43 : decode jdk_33_method_47_code 43 = .ok (.iload_n 0, 1) := by decide +kernel
theorem d6_44 : decode jdk_33_method_47_code 44 = .ok (.bipush 8, 2) := by decide +kernel
theorem d6_46 : decode jdk_33_method_47_code 46 = .ok (.iushr, 1) := by decide +kernel
theorem d6_47 : decode jdk_33_method_47_code 47 = .ok (.istore_n 0, 1) := by decide +kernel
theorem d6_48 : decode jdk_33_method_47_code 48 = .ok (.iload_n 0, 1) := by decide +kernel
theorem d6_49 : decode jdk_33_method_47_code 49 = .ok (.bipush 16, 2) := by decide +kernel
theorem d6_51 : decode jdk_33_method_47_code 51 = .ok (.if_icmp .lt 10, 3) := by decide +kernel
theorem d6_54 : decode jdk_33_method_47_code 54 = .ok (.iinc 1 (-4), 3) := by decide +kernel
theorem d6_57 : decode jdk_33_method_47_code 57 = .ok (.iload_n 0, 1) := by decide +kernel
theorem d6_58 : decode jdk_33_method_47_code 58 = .ok (.iconst 4, 1) := by decide +kernel
theorem d6_59 : decode jdk_33_method_47_code 59 = .ok (.iushr, 1) := by decide +kernel
theorem d6_60 : decode jdk_33_method_47_code 60 = .ok (.istore_n 0, 1) := by decide +kernel
theorem d6_61 : decode jdk_33_method_47_code 61 = .ok (.iload_n 0, 1) := by decide +kernel
theorem d6_62 : decode jdk_33_method_47_code 62 = .ok (.iconst 4, 1) := by decide +kernel
theorem d6_63 : decode jdk_33_method_47_code 63 = .ok (.if_icmp .lt 10, 3) := by decide +kernel
theorem d6_66 : decode jdk_33_method_47_code 66 = .ok (.iinc 1 (-2), 3) := by decide +kernel
theorem d6_69 : decode jdk_33_method_47_code 69 = .ok (.iload_n 0, 1) := by decide +kernel
theorem d6_70 : decode jdk_33_method_47_code 70 = .ok (.iconst 2, 1) := by decide +kernel
theorem d6_71 : decode jdk_33_method_47_code 71 = .ok (.iushr, 1) := by decide +kernel
theorem d6_72 : decode jdk_33_method_47_code 72 = .ok (.istore_n 0, 1) := by decide +kernel
theorem d6_73 : decode jdk_33_method_47_code 73 = .ok (.iload_n 1, 1) := by decide +kernel
theorem d6_74 : decode jdk_33_method_47_code 74 = .ok (.iload_n 0, 1) := by decide +kernel
theorem d6_75 : decode jdk_33_method_47_code 75 = .ok (.iconst 1, 1) := by decide +kernel
theorem d6_76 : decode jdk_33_method_47_code 76 = .ok (.iushr, 1) := by decide +kernel
theorem d6_77 : decode jdk_33_method_47_code 77 = .ok (.isub, 1) := by decide +kernel
theorem d6_78 : decode jdk_33_method_47_code 78 = .ok (.ireturn, 1) := by decide +kernel
theorem pn_java_lang_Integer : plainName "java/lang/Integer" = true := by first | (simp [plainName, overriddenIn]; done) | decide +kernel
abbrev RMrm6 : Room := { frames := 0, cells := 0, slots := 0, locals := 0 }
theorem ef_rm6 (m : MethodId) (p1 : Int32) : entryFrame m #[(.int p1)] 2 = mkF m 0 #[.val (.int p1), .unset] [] := by first | (simp [entryFrame, mkF, argsToLocals, Value.category]; done) | rfl
def Qrm6 (Z : State)  (p1 : Int32) (h0 : Heap) (v : Option Value) (h : Heap) (L : List Loc) : Prop := ∃ (r : Int32), v = some (.int r) ∧ Fr Z.heap.size L ∧ h = h0
set_option maxRecDepth 65536 in
set_option maxHeartbeats 40000000 in
theorem rm6 (l : Launch) (Z : State) (a0 : Array Value) (hw : ∀ d ∈ tables_1, d.before a0 Z = true)   (ws : List Jvm.Cond) (p1 : Int32) (h0 : Heap) (O0 : Ext Z.heap h0) :
    MetFree l (⟨"java/lang/Integer", "numberOfLeadingZeros", "(I)I"⟩ : MethodName) (head1 (Jvm.Cond.code (⟨"java/lang/Integer", "numberOfLeadingZeros", "(I)I"⟩ : MethodName) jdk_33_method_47_code 2 (some .int) :: ws) RMrm6) (fun a U => a = #[(.int p1)] ∧ Z.Warmed39 U.vm ∧ U.heap = h0) (fun _ _ _ _ _ => True) (fun _ U o U' => ∃ v L, o = .returned v ∧ Qrm6 Z p1 h0 v U'.heap L ∧ FrameEnd U o U' L RMrm6.cells RMrm6.slots) := by
  refine MetFree.of_bodySF (plainFor_of_name pn_java_lang_Integer) hisR ?_
  intro p e s m args below meth c s₁ Bd hml0 hP hK
  obtain ⟨rfl, hZ, hh⟩ := hP
  have hx := Bd.exec
  have hby := Bd.bytes
  have hlk : meth.locks = false := BodyLoose.notSynchronized Bd
  have hret := Bd.returns
  have hml : c.maxLocals = 2 := hml0
  have hown : s.vm.findClass "java/lang/Integer" = some m.cls := findClass_of_methodNamed Bd.named
  have hnm := (name_of_methodNamed Bd.named Bd.method).1
  have X0 : Stand p l e RMrm6 s m #[(.int p1)] below meth c s₁ [] 0 0 := Stand.of_body Bd
  have e0 : s₁.heap = h0 := by rw [← hh, Bd.state]; rfl
  have N0 := Fr.nil Z.heap.size
  show OEnd p e below (GN s (Qrm6 Z p1 h0) RMrm6.cells RMrm6.slots) _
  refine OEnd.of (fun t k => castTop (ef_rm6 m p1) k) ?_
  refine OEnd.of (fun t k => XS.iloadN X0.here hx rfl (hb hby d6_0) rfl k) ?_
  show OEnd p e below _ (s₁.setTop (mkF m 1 #[.val (.int p1), .unset] [(.int p1)]))
  by_cases hc10 : (0 : Int32) < p1
  · refine OEnd.of (fun t k => XS.ifYes X0.here hx rfl (pc0 := 1) (pc' := 15) rfl (hb hby d6_1) rfl ((if0 _ _).trans (tlt hc10).2.2.1) (by decide) (by decide) k) ?_
    show OEnd p e below _ (s₁.setTop (mkF m 15 #[.val (.int p1), .unset] []))
    have J11 : ∀ (T11 : State) (Lo11 : List Loc) (i : Int32) (n : Int32), Stand p l e RMrm6 s m #[(.int p1)] below meth c T11 Lo11 0 0 → T11.heap = h0 → Fr Z.heap.size Lo11 → OEnd p e below (GN s (Qrm6 Z p1 h0) RMrm6.cells RMrm6.slots) (T11.setTop (mkF m 73 #[.val (.int i), .val (.int n)] [])) := by
      rintro T11 Lo11 i n X11 e11 N11
      show OEnd p e below _ (T11.setTop (mkF m 73 #[.val (.int i), .val (.int n)] []))
      refine OEnd.of (fun t k => XS.iloadN X11.here hx rfl (hb hby d6_73) rfl k) ?_
      show OEnd p e below _ (T11.setTop (mkF m 74 #[.val (.int i), .val (.int n)] [(.int n)]))
      refine OEnd.of (fun t k => XS.iloadN X11.here hx rfl (hb hby d6_74) rfl k) ?_
      show OEnd p e below _ (T11.setTop (mkF m 75 #[.val (.int i), .val (.int n)] [(.int i), (.int n)]))
      refine OEnd.of (fun t k => XS.iconst X11.here hx rfl (hb hby d6_75) k) ?_
      show OEnd p e below _ (T11.setTop (mkF m 76 #[.val (.int i), .val (.int n)] [(.int (1 : Int32)), (.int i), (.int n)]))
      refine OEnd.of (fun t k => XS.iushr X11.here hx rfl (hb hby d6_76) rfl k) ?_
      show OEnd p e below _ (T11.setTop (mkF m 77 #[.val (.int i), .val (.int n)] [(.int ((i.toUInt32 >>> ((1 : Int32) &&& 31).toUInt32).toInt32)), (.int n)]))
      refine OEnd.of (fun t k => XS.isub X11.here hx rfl (hb hby d6_77) rfl k) ?_
      show OEnd p e below _ (T11.setTop (mkF m 78 #[.val (.int i), .val (.int n)] [(.int (n - ((i.toUInt32 >>> ((1 : Int32) &&& 31).toUInt32).toInt32)))]))
      exact OEnd.retI X11 hx hlk e11 hret (hb hby d6_78) ⟨_, rfl, N11, rfl⟩ (by decide) (by decide)
    have J12 : ∀ (T12 : State) (Lo12 : List Loc) (i : Int32) (n : Int32), Stand p l e RMrm6 s m #[(.int p1)] below meth c T12 Lo12 0 0 → T12.heap = h0 → Fr Z.heap.size Lo12 → OEnd p e below (GN s (Qrm6 Z p1 h0) RMrm6.cells RMrm6.slots) (T12.setTop (mkF m 61 #[.val (.int i), .val (.int n)] [])) := by
      rintro T12 Lo12 i n X12 e12 N12
      show OEnd p e below _ (T12.setTop (mkF m 61 #[.val (.int i), .val (.int n)] []))
      refine OEnd.of (fun t k => XS.iloadN X12.here hx rfl (hb hby d6_61) rfl k) ?_
      show OEnd p e below _ (T12.setTop (mkF m 62 #[.val (.int i), .val (.int n)] [(.int i)]))
      refine OEnd.of (fun t k => XS.iconst X12.here hx rfl (hb hby d6_62) k) ?_
      show OEnd p e below _ (T12.setTop (mkF m 63 #[.val (.int i), .val (.int n)] [(.int (4 : Int32)), (.int i)]))
      by_cases hc13 : i < (4 : Int32)
      · refine OEnd.of (fun t k => XS.icmpYes X12.here hx rfl (pc0 := 63) (pc' := 73) rfl (hb hby d6_63) rfl (tlt hc13).1 (by decide) (by decide) k) ?_
        show OEnd p e below _ (T12.setTop (mkF m 73 #[.val (.int i), .val (.int n)] []))
        exact J11 T12 _ i n X12 e12 N12
      · refine OEnd.of (fun t k => XS.icmpNo X12.here hx rfl (hb hby d6_63) rfl (flt hc13).1 k) ?_
        show OEnd p e below _ (T12.setTop (mkF m 66 #[.val (.int i), .val (.int n)] []))
        refine OEnd.of (fun t k => XS.iinc X12.here hx rfl (hb hby d6_66) rfl (l' := #[.val (.int i), .val (.int (n + (-2 : Int32)))]) rfl k) ?_
        show OEnd p e below _ (T12.setTop (mkF m 69 #[.val (.int i), .val (.int (n + (-2 : Int32)))] []))
        refine OEnd.of (fun t k => XS.iloadN X12.here hx rfl (hb hby d6_69) rfl k) ?_
        show OEnd p e below _ (T12.setTop (mkF m 70 #[.val (.int i), .val (.int (n + (-2 : Int32)))] [(.int i)]))
        refine OEnd.of (fun t k => XS.iconst X12.here hx rfl (hb hby d6_70) k) ?_
        show OEnd p e below _ (T12.setTop (mkF m 71 #[.val (.int i), .val (.int (n + (-2 : Int32)))] [(.int (2 : Int32)), (.int i)]))
        refine OEnd.of (fun t k => XS.iushr X12.here hx rfl (hb hby d6_71) rfl k) ?_
        show OEnd p e below _ (T12.setTop (mkF m 72 #[.val (.int i), .val (.int (n + (-2 : Int32)))] [(.int ((i.toUInt32 >>> ((2 : Int32) &&& 31).toUInt32).toInt32))]))
        refine OEnd.of (fun t k => XS.istoreN X12.here hx rfl (hb hby d6_72) rfl (l' := #[.val (.int ((i.toUInt32 >>> ((2 : Int32) &&& 31).toUInt32).toInt32)), .val (.int (n + (-2 : Int32)))]) rfl k) ?_
        show OEnd p e below _ (T12.setTop (mkF m 73 #[.val (.int ((i.toUInt32 >>> ((2 : Int32) &&& 31).toUInt32).toInt32)), .val (.int (n + (-2 : Int32)))] []))
        exact J11 T12 _ ((i.toUInt32 >>> ((2 : Int32) &&& 31).toUInt32).toInt32) (n + (-2 : Int32)) X12 e12 N12
    have J14 : ∀ (T14 : State) (Lo14 : List Loc) (i : Int32) (n : Int32), Stand p l e RMrm6 s m #[(.int p1)] below meth c T14 Lo14 0 0 → T14.heap = h0 → Fr Z.heap.size Lo14 → OEnd p e below (GN s (Qrm6 Z p1 h0) RMrm6.cells RMrm6.slots) (T14.setTop (mkF m 48 #[.val (.int i), .val (.int n)] [])) := by
      rintro T14 Lo14 i n X14 e14 N14
      show OEnd p e below _ (T14.setTop (mkF m 48 #[.val (.int i), .val (.int n)] []))
      refine OEnd.of (fun t k => XS.iloadN X14.here hx rfl (hb hby d6_48) rfl k) ?_
      show OEnd p e below _ (T14.setTop (mkF m 49 #[.val (.int i), .val (.int n)] [(.int i)]))
      refine OEnd.of (fun t k => XS.bipush X14.here hx rfl (hb hby d6_49) k) ?_
      show OEnd p e below _ (T14.setTop (mkF m 51 #[.val (.int i), .val (.int n)] [(.int (16 : Int32)), (.int i)]))
      by_cases hc15 : i < (16 : Int32)
      · refine OEnd.of (fun t k => XS.icmpYes X14.here hx rfl (pc0 := 51) (pc' := 61) rfl (hb hby d6_51) rfl (tlt hc15).1 (by decide) (by decide) k) ?_
        show OEnd p e below _ (T14.setTop (mkF m 61 #[.val (.int i), .val (.int n)] []))
        exact J12 T14 _ i n X14 e14 N14
      · refine OEnd.of (fun t k => XS.icmpNo X14.here hx rfl (hb hby d6_51) rfl (flt hc15).1 k) ?_
        show OEnd p e below _ (T14.setTop (mkF m 54 #[.val (.int i), .val (.int n)] []))
        refine OEnd.of (fun t k => XS.iinc X14.here hx rfl (hb hby d6_54) rfl (l' := #[.val (.int i), .val (.int (n + (-4 : Int32)))]) rfl k) ?_
        show OEnd p e below _ (T14.setTop (mkF m 57 #[.val (.int i), .val (.int (n + (-4 : Int32)))] []))
        refine OEnd.of (fun t k => XS.iloadN X14.here hx rfl (hb hby d6_57) rfl k) ?_
        show OEnd p e below _ (T14.setTop (mkF m 58 #[.val (.int i), .val (.int (n + (-4 : Int32)))] [(.int i)]))
        refine OEnd.of (fun t k => XS.iconst X14.here hx rfl (hb hby d6_58) k) ?_
        show OEnd p e below _ (T14.setTop (mkF m 59 #[.val (.int i), .val (.int (n + (-4 : Int32)))] [(.int (4 : Int32)), (.int i)]))
        refine OEnd.of (fun t k => XS.iushr X14.here hx rfl (hb hby d6_59) rfl k) ?_
        show OEnd p e below _ (T14.setTop (mkF m 60 #[.val (.int i), .val (.int (n + (-4 : Int32)))] [(.int ((i.toUInt32 >>> ((4 : Int32) &&& 31).toUInt32).toInt32))]))
        refine OEnd.of (fun t k => XS.istoreN X14.here hx rfl (hb hby d6_60) rfl (l' := #[.val (.int ((i.toUInt32 >>> ((4 : Int32) &&& 31).toUInt32).toInt32)), .val (.int (n + (-4 : Int32)))]) rfl k) ?_
        show OEnd p e below _ (T14.setTop (mkF m 61 #[.val (.int ((i.toUInt32 >>> ((4 : Int32) &&& 31).toUInt32).toInt32)), .val (.int (n + (-4 : Int32)))] []))
        exact J12 T14 _ ((i.toUInt32 >>> ((4 : Int32) &&& 31).toUInt32).toInt32) (n + (-4 : Int32)) X14 e14 N14
    have J16 : ∀ (T16 : State) (Lo16 : List Loc) (i : Int32) (n : Int32), Stand p l e RMrm6 s m #[(.int p1)] below meth c T16 Lo16 0 0 → T16.heap = h0 → Fr Z.heap.size Lo16 → OEnd p e below (GN s (Qrm6 Z p1 h0) RMrm6.cells RMrm6.slots) (T16.setTop (mkF m 33 #[.val (.int i), .val (.int n)] [])) := by
      rintro T16 Lo16 i n X16 e16 N16
      show OEnd p e below _ (T16.setTop (mkF m 33 #[.val (.int i), .val (.int n)] []))
      refine OEnd.of (fun t k => XS.iloadN X16.here hx rfl (hb hby d6_33) rfl k) ?_
      show OEnd p e below _ (T16.setTop (mkF m 34 #[.val (.int i), .val (.int n)] [(.int i)]))
      refine OEnd.of (fun t k => XS.sipush X16.here hx rfl (hb hby d6_34) k) ?_
      show OEnd p e below _ (T16.setTop (mkF m 37 #[.val (.int i), .val (.int n)] [(.int (256 : Int32)), (.int i)]))
      by_cases hc17 : i < (256 : Int32)
      · refine OEnd.of (fun t k => XS.icmpYes X16.here hx rfl (pc0 := 37) (pc' := 48) rfl (hb hby d6_37) rfl (tlt hc17).1 (by decide) (by decide) k) ?_
        show OEnd p e below _ (T16.setTop (mkF m 48 #[.val (.int i), .val (.int n)] []))
        exact J14 T16 _ i n X16 e16 N16
      · refine OEnd.of (fun t k => XS.icmpNo X16.here hx rfl (hb hby d6_37) rfl (flt hc17).1 k) ?_
        show OEnd p e below _ (T16.setTop (mkF m 40 #[.val (.int i), .val (.int n)] []))
        refine OEnd.of (fun t k => XS.iinc X16.here hx rfl (hb hby d6_40) rfl (l' := #[.val (.int i), .val (.int (n + (-8 : Int32)))]) rfl k) ?_
        show OEnd p e below _ (T16.setTop (mkF m 43 #[.val (.int i), .val (.int (n + (-8 : Int32)))] []))
        refine OEnd.of (fun t k => XS.iloadN X16.here hx rfl (hb hby d6_43) rfl k) ?_
        show OEnd p e below _ (T16.setTop (mkF m 44 #[.val (.int i), .val (.int (n + (-8 : Int32)))] [(.int i)]))
        refine OEnd.of (fun t k => XS.bipush X16.here hx rfl (hb hby d6_44) k) ?_
        show OEnd p e below _ (T16.setTop (mkF m 46 #[.val (.int i), .val (.int (n + (-8 : Int32)))] [(.int (8 : Int32)), (.int i)]))
        refine OEnd.of (fun t k => XS.iushr X16.here hx rfl (hb hby d6_46) rfl k) ?_
        show OEnd p e below _ (T16.setTop (mkF m 47 #[.val (.int i), .val (.int (n + (-8 : Int32)))] [(.int ((i.toUInt32 >>> ((8 : Int32) &&& 31).toUInt32).toInt32))]))
        refine OEnd.of (fun t k => XS.istoreN X16.here hx rfl (hb hby d6_47) rfl (l' := #[.val (.int ((i.toUInt32 >>> ((8 : Int32) &&& 31).toUInt32).toInt32)), .val (.int (n + (-8 : Int32)))]) rfl k) ?_
        show OEnd p e below _ (T16.setTop (mkF m 48 #[.val (.int ((i.toUInt32 >>> ((8 : Int32) &&& 31).toUInt32).toInt32)), .val (.int (n + (-8 : Int32)))] []))
        exact J14 T16 _ ((i.toUInt32 >>> ((8 : Int32) &&& 31).toUInt32).toInt32) (n + (-8 : Int32)) X16 e16 N16
    refine OEnd.of (fun t k => XS.bipush X0.here hx rfl (hb hby d6_15) k) ?_
    show OEnd p e below _ (s₁.setTop (mkF m 17 #[.val (.int p1), .unset] [(.int (31 : Int32))]))
    refine OEnd.of (fun t k => XS.istoreN X0.here hx rfl (hb hby d6_17) rfl (l' := #[.val (.int p1), .val (.int (31 : Int32))]) rfl k) ?_
    show OEnd p e below _ (s₁.setTop (mkF m 18 #[.val (.int p1), .val (.int (31 : Int32))] []))
    refine OEnd.of (fun t k => XS.iloadN X0.here hx rfl (hb hby d6_18) rfl k) ?_
    show OEnd p e below _ (s₁.setTop (mkF m 19 #[.val (.int p1), .val (.int (31 : Int32))] [(.int p1)]))
    refine OEnd.of (X0.ldcwInt hx hown (mvT hZ (hw _ (List.mem_of_getElem? (i := 36) rfl))) (g := (mkF m 19 #[.val (.int p1), .val (.int (31 : Int32))] [(.int p1)])) rfl (hb hby d6_19)) ?_
    show OEnd p e below _ (s₁.setTop (mkF m 22 #[.val (.int p1), .val (.int (31 : Int32))] [(.int (65536 : Int32)), (.int p1)]))
    by_cases hc18 : p1 < (65536 : Int32)
    · refine OEnd.of (fun t k => XS.icmpYes X0.here hx rfl (pc0 := 22) (pc' := 33) rfl (hb hby d6_22) rfl (tlt hc18).1 (by decide) (by decide) k) ?_
      show OEnd p e below _ (s₁.setTop (mkF m 33 #[.val (.int p1), .val (.int (31 : Int32))] []))
      exact J16 s₁ _ p1 (31 : Int32) X0 e0 N0
    · refine OEnd.of (fun t k => XS.icmpNo X0.here hx rfl (hb hby d6_22) rfl (flt hc18).1 k) ?_
      show OEnd p e below _ (s₁.setTop (mkF m 25 #[.val (.int p1), .val (.int (31 : Int32))] []))
      refine OEnd.of (fun t k => XS.iinc X0.here hx rfl (hb hby d6_25) rfl (l' := #[.val (.int p1), .val (.int ((31 : Int32) + (-16 : Int32)))]) rfl k) ?_
      show OEnd p e below _ (s₁.setTop (mkF m 28 #[.val (.int p1), .val (.int ((31 : Int32) + (-16 : Int32)))] []))
      refine OEnd.of (fun t k => XS.iloadN X0.here hx rfl (hb hby d6_28) rfl k) ?_
      show OEnd p e below _ (s₁.setTop (mkF m 29 #[.val (.int p1), .val (.int ((31 : Int32) + (-16 : Int32)))] [(.int p1)]))
      refine OEnd.of (fun t k => XS.bipush X0.here hx rfl (hb hby d6_29) k) ?_
      show OEnd p e below _ (s₁.setTop (mkF m 31 #[.val (.int p1), .val (.int ((31 : Int32) + (-16 : Int32)))] [(.int (16 : Int32)), (.int p1)]))
      refine OEnd.of (fun t k => XS.iushr X0.here hx rfl (hb hby d6_31) rfl k) ?_
      show OEnd p e below _ (s₁.setTop (mkF m 32 #[.val (.int p1), .val (.int ((31 : Int32) + (-16 : Int32)))] [(.int ((p1.toUInt32 >>> ((16 : Int32) &&& 31).toUInt32).toInt32))]))
      refine OEnd.of (fun t k => XS.istoreN X0.here hx rfl (hb hby d6_32) rfl (l' := #[.val (.int ((p1.toUInt32 >>> ((16 : Int32) &&& 31).toUInt32).toInt32)), .val (.int ((31 : Int32) + (-16 : Int32)))]) rfl k) ?_
      show OEnd p e below _ (s₁.setTop (mkF m 33 #[.val (.int ((p1.toUInt32 >>> ((16 : Int32) &&& 31).toUInt32).toInt32)), .val (.int ((31 : Int32) + (-16 : Int32)))] []))
      exact J16 s₁ _ ((p1.toUInt32 >>> ((16 : Int32) &&& 31).toUInt32).toInt32) ((31 : Int32) + (-16 : Int32)) X0 e0 N0
  · refine OEnd.of (fun t k => XS.ifNo X0.here hx rfl (hb hby d6_1) rfl ((if0 _ _).trans (flt hc10).2.2.1) k) ?_
    show OEnd p e below _ (s₁.setTop (mkF m 4 #[.val (.int p1), .unset] []))
    refine OEnd.of (fun t k => XS.iloadN X0.here hx rfl (hb hby d6_4) rfl k) ?_
    show OEnd p e below _ (s₁.setTop (mkF m 5 #[.val (.int p1), .unset] [(.int p1)]))
    by_cases hc19 : p1 = (0 : Int32)
    · refine OEnd.of (fun t k => XS.ifNo X0.here hx rfl (hb hby d6_5) rfl ((if0 _ _).trans (teq hc19).2) k) ?_
      show OEnd p e below _ (s₁.setTop (mkF m 8 #[.val (.int p1), .unset] []))
      refine OEnd.of (fun t k => XS.bipush X0.here hx rfl (hb hby d6_8) k) ?_
      show OEnd p e below _ (s₁.setTop (mkF m 10 #[.val (.int p1), .unset] [(.int (32 : Int32))]))
      refine OEnd.of (fun t k => XS.goto X0.here hx rfl (pc0 := 10) (pc' := 14) rfl (hb hby d6_10) (by decide) (by decide) k) ?_
      show OEnd p e below _ (s₁.setTop (mkF m 14 #[.val (.int p1), .unset] [(.int (32 : Int32))]))
      exact OEnd.retI X0 hx hlk e0 hret (hb hby d6_14) ⟨_, rfl, N0, rfl⟩ (by decide) (by decide)
    · refine OEnd.of (fun t k => XS.ifYes X0.here hx rfl (pc0 := 5) (pc' := 13) rfl (hb hby d6_5) rfl ((if0 _ _).trans (feq hc19).2) (by decide) (by decide) k) ?_
      show OEnd p e below _ (s₁.setTop (mkF m 13 #[.val (.int p1), .unset] []))
      refine OEnd.of (fun t k => XS.iconst X0.here hx rfl (hb hby d6_13) k) ?_
      show OEnd p e below _ (s₁.setTop (mkF m 14 #[.val (.int p1), .unset] [(.int (0 : Int32))]))
      exact OEnd.retI X0 hx hlk e0 hret (hb hby d6_14) ⟨_, rfl, N0, rfl⟩ (by decide) (by decide)
theorem pd_28I29I : parseMethodDescriptor "(I)I" = some ⟨[.int], some .int⟩ := by decide +kernel
theorem d5_0 : decode jdk_35_method_48_code 0 = .ok (.lload_n 0, 1) := by decide +kernel
theorem d5_1 : decode jdk_35_method_48_code 1 = .ok (.bipush 32, 2) := by decide +kernel
theorem d5_3 : decode jdk_35_method_48_code 3 = .ok (.lushr, 1) := by decide +kernel
theorem d5_4 : decode jdk_35_method_48_code 4 = .ok (.l2i, 1) := by decide +kernel
theorem d5_5 : decode jdk_35_method_48_code 5 = .ok (.istore_n 2, 1) := by decide +kernel
theorem d5_6 : decode jdk_35_method_48_code 6 = .ok (.iload_n 2, 1) := by decide +kernel
theorem d5_7 : decode jdk_35_method_48_code 7 = .ok (.ifCond .ne 14, 3) := by decide +kernel
theorem d5_10 : decode jdk_35_method_48_code 10 = .ok (.bipush 32, 2) := by decide +kernel
theorem d5_12 : decode jdk_35_method_48_code 12 = .ok (.lload_n 0, 1) := by decide +kernel
theorem d5_13 : decode jdk_35_method_48_code 13 = .ok (.l2i, 1) := by decide +kernel
theorem d5_14 : decode jdk_35_method_48_code 14 = .ok (.invokestatic 308, 3) := by decide +kernel
theorem d5_17 : decode jdk_35_method_48_code 17 = .ok (.iadd, 1) := by decide +kernel
theorem d5_18 : decode jdk_35_method_48_code 18 = .ok (.goto 7, 3) := by decide +kernel
theorem d5_21 : decode jdk_35_method_48_code 21 = .ok (.iload_n 2, 1) := by decide +kernel
theorem d5_22 : decode jdk_35_method_48_code 22 = .ok (.invokestatic 308, 3) := by decide +kernel
theorem d5_25 : decode jdk_35_method_48_code 25 = .ok (.ireturn, 1) := by decide +kernel
theorem pn_java_lang_Long : plainName "java/lang/Long" = true := by first | (simp [plainName, overriddenIn]; done) | decide +kernel
abbrev RMrm5 : Room := { frames := 1, cells := 0, slots := 0, locals := 14 }
theorem ef_rm5 (m : MethodId) (q1 : Int64) : entryFrame m #[(.long q1)] 3 = mkF m 0 #[.val (.long q1), .second, .unset] [] := by first | (simp [entryFrame, mkF, argsToLocals, Value.category]; done) | rfl
def Qrm5 (Z : State)  (q1 : Int64) (h0 : Heap) (v : Option Value) (h : Heap) (L : List Loc) : Prop := ∃ (r : Int32), v = some (.int r) ∧ Fr Z.heap.size L ∧ h = h0
set_option maxRecDepth 65536 in
set_option maxHeartbeats 40000000 in
theorem rm5 (l : Launch) (Z : State) (a0 : Array Value) (hw : ∀ d ∈ tables_1, d.before a0 Z = true)   (ws : List Jvm.Cond) (q1 : Int64) (h0 : Heap) (O0 : Ext Z.heap h0) :
    MetFree l (⟨"java/lang/Long", "numberOfLeadingZeros", "(J)I"⟩ : MethodName) (head1 (Jvm.Cond.code (⟨"java/lang/Long", "numberOfLeadingZeros", "(J)I"⟩ : MethodName) jdk_35_method_48_code 3 (some .int) :: ws) RMrm5) (fun a U => a = #[(.long q1)] ∧ Z.Warmed39 U.vm ∧ U.heap = h0) (fun _ _ _ _ _ => True) (fun _ U o U' => ∃ v L, o = .returned v ∧ Qrm5 Z q1 h0 v U'.heap L ∧ FrameEnd U o U' L RMrm5.cells RMrm5.slots) := by
  refine MetFree.of_bodySF (plainFor_of_name pn_java_lang_Long) hisR ?_
  intro p e s m args below meth c s₁ Bd hml0 hP hK
  obtain ⟨rfl, hZ, hh⟩ := hP
  have hx := Bd.exec
  have hby := Bd.bytes
  have hlk : meth.locks = false := BodyLoose.notSynchronized Bd
  have hret := Bd.returns
  have hml : c.maxLocals = 3 := hml0
  have hown : s.vm.findClass "java/lang/Long" = some m.cls := findClass_of_methodNamed Bd.named
  have hnm := (name_of_methodNamed Bd.named Bd.method).1
  have X0 : Stand p l e RMrm5 s m #[(.long q1)] below meth c s₁ [] 0 0 := Stand.of_body Bd
  have e0 : s₁.heap = h0 := by rw [← hh, Bd.state]; rfl
  have N0 := Fr.nil Z.heap.size
  show OEnd p e below (GN s (Qrm5 Z q1 h0) RMrm5.cells RMrm5.slots) _
  refine OEnd.of (fun t k => castTop (ef_rm5 m q1) k) ?_
  refine OEnd.of (fun t k => XS.lloadN X0.here hx rfl (hb hby d5_0) rfl k) ?_
  show OEnd p e below _ (s₁.setTop (mkF m 1 #[.val (.long q1), .second, .unset] [(.long q1)]))
  refine OEnd.of (fun t k => XS.bipush X0.here hx rfl (hb hby d5_1) k) ?_
  show OEnd p e below _ (s₁.setTop (mkF m 3 #[.val (.long q1), .second, .unset] [(.int (32 : Int32)), (.long q1)]))
  refine OEnd.of (fun t k => XS.lushr X0.here hx rfl (hb hby d5_3) rfl k) ?_
  show OEnd p e below _ (s₁.setTop (mkF m 4 #[.val (.long q1), .second, .unset] [(.long ((q1.toUInt64 >>> ((32 : Int32) &&& 0x3f).toInt64.toUInt64).toInt64))]))
  refine OEnd.of (fun t k => XS.l2i X0.here hx rfl (hb hby d5_4) rfl k) ?_
  show OEnd p e below _ (s₁.setTop (mkF m 5 #[.val (.long q1), .second, .unset] [(.int (((q1.toUInt64 >>> ((32 : Int32) &&& 0x3f).toInt64.toUInt64).toInt64).toInt32))]))
  refine OEnd.of (fun t k => XS.istoreN X0.here hx rfl (hb hby d5_5) rfl (l' := #[.val (.long q1), .second, .val (.int (((q1.toUInt64 >>> ((32 : Int32) &&& 0x3f).toInt64.toUInt64).toInt64).toInt32))]) rfl k) ?_
  show OEnd p e below _ (s₁.setTop (mkF m 6 #[.val (.long q1), .second, .val (.int (((q1.toUInt64 >>> ((32 : Int32) &&& 0x3f).toInt64.toUInt64).toInt64).toInt32))] []))
  refine OEnd.of (fun t k => XS.iloadN X0.here hx rfl (hb hby d5_6) rfl k) ?_
  show OEnd p e below _ (s₁.setTop (mkF m 7 #[.val (.long q1), .second, .val (.int (((q1.toUInt64 >>> ((32 : Int32) &&& 0x3f).toInt64.toUInt64).toInt64).toInt32))] [(.int (((q1.toUInt64 >>> ((32 : Int32) &&& 0x3f).toInt64.toUInt64).toInt64).toInt32))]))
  by_cases hc20 : (((q1.toUInt64 >>> ((32 : Int32) &&& 0x3f).toInt64.toUInt64).toInt64).toInt32) = (0 : Int32)
  · refine OEnd.of (fun t k => XS.ifNo X0.here hx rfl (hb hby d5_7) rfl ((if0 _ _).trans (teq hc20).2) k) ?_
    show OEnd p e below _ (s₁.setTop (mkF m 10 #[.val (.long q1), .second, .val (.int (((q1.toUInt64 >>> ((32 : Int32) &&& 0x3f).toInt64.toUInt64).toInt64).toInt32))] []))
    refine OEnd.of (fun t k => XS.bipush X0.here hx rfl (hb hby d5_10) k) ?_
    show OEnd p e below _ (s₁.setTop (mkF m 12 #[.val (.long q1), .second, .val (.int (((q1.toUInt64 >>> ((32 : Int32) &&& 0x3f).toInt64.toUInt64).toInt64).toInt32))] [(.int (32 : Int32))]))
    refine OEnd.of (fun t k => XS.lloadN X0.here hx rfl (hb hby d5_12) rfl k) ?_
    show OEnd p e below _ (s₁.setTop (mkF m 13 #[.val (.long q1), .second, .val (.int (((q1.toUInt64 >>> ((32 : Int32) &&& 0x3f).toInt64.toUInt64).toInt64).toInt32))] [(.long q1), (.int (32 : Int32))]))
    refine OEnd.of (fun t k => XS.l2i X0.here hx rfl (hb hby d5_13) rfl k) ?_
    show OEnd p e below _ (s₁.setTop (mkF m 14 #[.val (.long q1), .second, .val (.int (((q1.toUInt64 >>> ((32 : Int32) &&& 0x3f).toInt64.toUInt64).toInt64).toInt32))] [(.int (q1.toInt32)), (.int (32 : Int32))]))
    obtain ⟨_, _, ⟨T21, L21, k21, n21⟩, -, X21, ⟨Lc21, hQ21, l21, y21, z21⟩, st21⟩ := Jvm.LawKit.callS X0 hx (y := (⟨"java/lang/Integer", "numberOfLeadingZeros", "(I)I"⟩ : MethodName)) hown (mvT hZ (hw _ (List.mem_of_getElem? (i := 32) rfl))) (mvT hZ (hw _ (List.mem_of_getElem? (i := 33) rfl))) (mvT hZ (hw _ (List.mem_of_getElem? (i := 34) rfl))) (mvT hZ (hw _ (List.mem_of_getElem? (i := 35) rfl))) (by decide) (backOf (W := 1) (rm6 l Z a0 hw  [] (q1.toInt32) h0 O0 ) hZ (hw _ (List.mem_of_getElem? (i := 35) rfl)) (hw _ (List.mem_of_getElem? (i := 34) rfl)) (by decide) (by decide)) (g := (mkF m 14 #[.val (.long q1), .second, .val (.int (((q1.toUInt64 >>> ((32 : Int32) &&& 0x3f).toInt64.toUInt64).toInt64).toInt32))] [(.int (q1.toInt32)), (.int (32 : Int32))])) rfl (by rw [hml]; rfl) (argsL := [(.int (q1.toInt32))]) (rest := [(.int (32 : Int32))]) (lenOf pd_28I29I rfl) rfl (by show 2 * 0 + _ ≤ _; exact Nat.le_of_eq rfl) (hb hby d5_14) (fun _ _ => ⟨rfl, e0, (by decide : 0 + 0 ≤ _), (by decide : 0 + 0 ≤ _)⟩)
    dsimp only [Pt.U, Pt.locs, Pt.cells, Pt.slots] at X21 l21 y21 z21 st21 hQ21
    subst l21 y21 z21
    obtain ⟨r_22, rfl, Nq21, e21⟩ := hQ21
    have N23 := Fr.app N0 Nq21
    refine OEnd.of st21 ?_
    show OEnd p e below _ (T21.setTop (mkF m 17 #[.val (.long q1), .second, .val (.int (((q1.toUInt64 >>> ((32 : Int32) &&& 0x3f).toInt64.toUInt64).toInt64).toInt32))] [(.int r_22), (.int (32 : Int32))]))
    refine OEnd.of (fun t k => XS.iadd X21.here hx rfl (hb hby d5_17) rfl k) ?_
    show OEnd p e below _ (T21.setTop (mkF m 18 #[.val (.long q1), .second, .val (.int (((q1.toUInt64 >>> ((32 : Int32) &&& 0x3f).toInt64.toUInt64).toInt64).toInt32))] [(.int ((32 : Int32) + r_22))]))
    refine OEnd.of (fun t k => XS.goto X21.here hx rfl (pc0 := 18) (pc' := 25) rfl (hb hby d5_18) (by decide) (by decide) k) ?_
    show OEnd p e below _ (T21.setTop (mkF m 25 #[.val (.long q1), .second, .val (.int (((q1.toUInt64 >>> ((32 : Int32) &&& 0x3f).toInt64.toUInt64).toInt64).toInt32))] [(.int ((32 : Int32) + r_22))]))
    exact OEnd.retI X21 hx hlk e21 hret (hb hby d5_25) ⟨_, rfl, N23, rfl⟩ (by decide) (by decide)
  · refine OEnd.of (fun t k => XS.ifYes X0.here hx rfl (pc0 := 7) (pc' := 21) rfl (hb hby d5_7) rfl ((if0 _ _).trans (feq hc20).2) (by decide) (by decide) k) ?_
    show OEnd p e below _ (s₁.setTop (mkF m 21 #[.val (.long q1), .second, .val (.int (((q1.toUInt64 >>> ((32 : Int32) &&& 0x3f).toInt64.toUInt64).toInt64).toInt32))] []))
    refine OEnd.of (fun t k => XS.iloadN X0.here hx rfl (hb hby d5_21) rfl k) ?_
    show OEnd p e below _ (s₁.setTop (mkF m 22 #[.val (.long q1), .second, .val (.int (((q1.toUInt64 >>> ((32 : Int32) &&& 0x3f).toInt64.toUInt64).toInt64).toInt32))] [(.int (((q1.toUInt64 >>> ((32 : Int32) &&& 0x3f).toInt64.toUInt64).toInt64).toInt32))]))
    obtain ⟨_, _, ⟨T24, L24, k24, n24⟩, -, X24, ⟨Lc24, hQ24, l24, y24, z24⟩, st24⟩ := Jvm.LawKit.callS X0 hx (y := (⟨"java/lang/Integer", "numberOfLeadingZeros", "(I)I"⟩ : MethodName)) hown (mvT hZ (hw _ (List.mem_of_getElem? (i := 32) rfl))) (mvT hZ (hw _ (List.mem_of_getElem? (i := 33) rfl))) (mvT hZ (hw _ (List.mem_of_getElem? (i := 34) rfl))) (mvT hZ (hw _ (List.mem_of_getElem? (i := 35) rfl))) (by decide) (backOf (W := 0) (rm6 l Z a0 hw  [] (((q1.toUInt64 >>> ((32 : Int32) &&& 0x3f).toInt64.toUInt64).toInt64).toInt32) h0 O0 ) hZ (hw _ (List.mem_of_getElem? (i := 35) rfl)) (hw _ (List.mem_of_getElem? (i := 34) rfl)) (by decide) (by decide)) (g := (mkF m 22 #[.val (.long q1), .second, .val (.int (((q1.toUInt64 >>> ((32 : Int32) &&& 0x3f).toInt64.toUInt64).toInt64).toInt32))] [(.int (((q1.toUInt64 >>> ((32 : Int32) &&& 0x3f).toInt64.toUInt64).toInt64).toInt32))])) rfl (by rw [hml]; rfl) (argsL := [(.int (((q1.toUInt64 >>> ((32 : Int32) &&& 0x3f).toInt64.toUInt64).toInt64).toInt32))]) (rest := []) (lenOf pd_28I29I rfl) rfl (by show 2 * 0 + _ ≤ _; exact Nat.le_of_eq rfl) (hb hby d5_22) (fun _ _ => ⟨rfl, e0, (by decide : 0 + 0 ≤ _), (by decide : 0 + 0 ≤ _)⟩)
    dsimp only [Pt.U, Pt.locs, Pt.cells, Pt.slots] at X24 l24 y24 z24 st24 hQ24
    subst l24 y24 z24
    obtain ⟨r_25, rfl, Nq24, e24⟩ := hQ24
    have N26 := Fr.app N0 Nq24
    refine OEnd.of st24 ?_
    show OEnd p e below _ (T24.setTop (mkF m 25 #[.val (.long q1), .second, .val (.int (((q1.toUInt64 >>> ((32 : Int32) &&& 0x3f).toInt64.toUInt64).toInt64).toInt32))] [(.int r_25)]))
    exact OEnd.retI X24 hx hlk e24 hret (hb hby d5_25) ⟨_, rfl, N26, rfl⟩ (by decide) (by decide)
theorem pd_28JJ29J : parseMethodDescriptor "(JJ)J" = some ⟨[.long, .long], some .long⟩ := by decide +kernel
theorem d3_0 : decode prog_25_method_7_code 0 = .ok (.lload_n 1, 1) := by decide +kernel
theorem d3_1 : decode prog_25_method_7_code 1 = .ok (.aload_n 0, 1) := by decide +kernel
theorem d3_2 : decode prog_25_method_7_code 2 = .ok (.getfield 16, 3) := by decide +kernel
theorem d3_5 : decode prog_25_method_7_code 5 = .ok (.invokestatic 41, 3) := by decide +kernel
theorem d3_8 : decode prog_25_method_7_code 8 = .ok (.lconst 0, 1) := by decide +kernel
theorem d3_9 : decode prog_25_method_7_code 9 = .ok (.lcmp, 1) := by decide +kernel
theorem d3_10 : decode prog_25_method_7_code 10 = .ok (.ifCond .ne 12, 3) := by decide +kernel
theorem d3_13 : decode prog_25_method_7_code 13 = .ok (.lload_n 1, 1) := by decide +kernel
theorem d3_14 : decode prog_25_method_7_code 14 = .ok (.aload_n 0, 1) := by decide +kernel
theorem d3_15 : decode prog_25_method_7_code 15 = .ok (.getfield 16, 3) := by decide +kernel
theorem d3_18 : decode prog_25_method_7_code 18 = .ok (.lmul, 1) := by decide +kernel
theorem d3_19 : decode prog_25_method_7_code 19 = .ok (.goto 6, 3) := by decide +kernel
theorem d3_22 : decode prog_25_method_7_code 22 = .ok (.ldc2_w 47, 3) := by decide +kernel
theorem d3_25 : decode prog_25_method_7_code 25 = .ok (.lreturn, 1) := by decide +kernel
theorem pn_com_example_metr_metr_Parts : plainName "com/example/metr/metr/Parts" = true := by first | (simp [plainName, overriddenIn]; done) | decide +kernel
abbrev RMrm3 : Room := { frames := 1, cells := 0, slots := 0, locals := 31 }
theorem ef_rm3 (m : MethodId) (a1 : Addr) (q2 : Int64) : entryFrame m #[(.ref a1), (.long q2)] 3 = mkF m 0 #[.val (.ref a1), .val (.long q2), .second] [] := by first | (simp [entryFrame, mkF, argsToLocals, Value.category]; done) | rfl
def Qrm3 (Z : State)  (a1 : Addr) (q2 : Int64) (w3 : Int64) (h0 : Heap) (v : Option Value) (h : Heap) (L : List Loc) : Prop := ∃ (r : Int64), v = some (.long r) ∧ Fr Z.heap.size L ∧ h = h0
set_option maxRecDepth 65536 in
set_option maxHeartbeats 40000000 in
theorem rm3 (l : Launch) (Z : State) (a0 : Array Value) (hw : ∀ d ∈ tables_1, d.before a0 Z = true)   (ws : List Jvm.Cond) (a1 : Addr) (q2 : Int64) (w3 : Int64) (h0 : Heap) (O0 : Ext Z.heap h0) (Fp : Fld Z h0 a1 "com/example/metr/metr/Parts" "refillPeriod" "J" (.long w3)) :
    MetFree l (⟨"com/example/metr/metr/Parts", "parts", "(J)J"⟩ : MethodName) (head1 (Jvm.Cond.code (⟨"com/example/metr/metr/Parts", "parts", "(J)J"⟩ : MethodName) prog_25_method_7_code 3 (some .long) :: ws) RMrm3) (fun a U => a = #[(.ref a1), (.long q2)] ∧ Z.Warmed39 U.vm ∧ U.heap = h0) (fun _ _ _ _ _ => True) (fun _ U o U' => ∃ v L, o = .returned v ∧ Qrm3 Z a1 q2 w3 h0 v U'.heap L ∧ FrameEnd U o U' L RMrm3.cells RMrm3.slots) := by
  refine MetFree.of_bodySF (plainFor_of_name pn_com_example_metr_metr_Parts) hisR ?_
  intro p e s m args below meth c s₁ Bd hml0 hP hK
  obtain ⟨rfl, hZ, hh⟩ := hP
  have hx := Bd.exec
  have hby := Bd.bytes
  have hlk : meth.locks = false := BodyLoose.notSynchronized Bd
  have hret := Bd.returns
  have hml : c.maxLocals = 3 := hml0
  have hown : s.vm.findClass "com/example/metr/metr/Parts" = some m.cls := findClass_of_methodNamed Bd.named
  have hnm := (name_of_methodNamed Bd.named Bd.method).1
  have X0 : Stand p l e RMrm3 s m #[(.ref a1), (.long q2)] below meth c s₁ [] 0 0 := Stand.of_body Bd
  have e0 : s₁.heap = h0 := by rw [← hh, Bd.state]; rfl
  have N0 := Fr.nil Z.heap.size
  show OEnd p e below (GN s (Qrm3 Z a1 q2 w3 h0) RMrm3.cells RMrm3.slots) _
  refine OEnd.of (fun t k => castTop (ef_rm3 m a1 q2) k) ?_
  refine OEnd.of (fun t k => XS.lloadN X0.here hx rfl (hb hby d3_0) rfl k) ?_
  show OEnd p e below _ (s₁.setTop (mkF m 1 #[.val (.ref a1), .val (.long q2), .second] [(.long q2)]))
  refine OEnd.of (fun t k => XS.aloadN X0.here hx rfl (hb hby d3_1) rfl rfl k) ?_
  show OEnd p e below _ (s₁.setTop (mkF m 2 #[.val (.ref a1), .val (.long q2), .second] [(.ref a1), (.long q2)]))
  obtain ⟨T27, X27, e27, st27⟩ := getF X0 hx hZ hown (host := "") (Or.inl (hw _ (List.mem_of_getElem? (i := 14) rfl))) Via.refl e0 Fp (g := (mkF m 2 #[.val (.ref a1), .val (.long q2), .second] [(.ref a1), (.long q2)])) rfl rfl (hb hby d3_2)
  refine OEnd.of st27 ?_
  show OEnd p e below _ (T27.setTop (mkF m 5 #[.val (.ref a1), .val (.long q2), .second] [(.long w3), (.long q2)]))
  obtain ⟨_, _, ⟨T28, L28, k28, n28⟩, -, X28, ⟨Lc28, hQ28, l28, y28, z28⟩, st28⟩ := Jvm.LawKit.callS X27 hx (y := (⟨"java/lang/Math", "multiplyHigh", "(JJ)J"⟩ : MethodName)) hown (mvT hZ (hw _ (List.mem_of_getElem? (i := 21) rfl))) (mvT hZ (hw _ (List.mem_of_getElem? (i := 22) rfl))) (mvT hZ (hw _ (List.mem_of_getElem? (i := 23) rfl))) (mvT hZ (hw _ (List.mem_of_getElem? (i := 24) rfl))) (by decide) (backOf (W := 0) (rm4 l Z a0 hw  [] q2 w3 h0 O0 ) hZ (hw _ (List.mem_of_getElem? (i := 24) rfl)) (hw _ (List.mem_of_getElem? (i := 23) rfl)) (by decide) (by decide)) (g := (mkF m 5 #[.val (.ref a1), .val (.long q2), .second] [(.long w3), (.long q2)])) rfl (by rw [hml]; rfl) (argsL := [(.long q2), (.long w3)]) (rest := []) (lenOf pd_28JJ29J rfl) rfl (by show 2 * 0 + _ ≤ _; exact Nat.le_of_eq rfl) (hb hby d3_5) (fun _ _ => ⟨rfl, e27, (by decide : 0 + 0 ≤ _), (by decide : 0 + 0 ≤ _)⟩)
  dsimp only [Pt.U, Pt.locs, Pt.cells, Pt.slots] at X28 l28 y28 z28 st28 hQ28
  subst l28 y28 z28
  obtain ⟨r_29, rfl, Nq28, e28⟩ := hQ28
  have N30 := Fr.app N0 Nq28
  refine OEnd.of st28 ?_
  show OEnd p e below _ (T28.setTop (mkF m 8 #[.val (.ref a1), .val (.long q2), .second] [(.long r_29)]))
  refine OEnd.of (fun t k => XS.lconst X28.here hx rfl (hb hby d3_8) k) ?_
  show OEnd p e below _ (T28.setTop (mkF m 9 #[.val (.ref a1), .val (.long q2), .second] [(.long (0 : Int64)), (.long r_29)]))
  refine OEnd.of (fun t k => XS.lcmp X28.here hx rfl (hb hby d3_9) rfl k) ?_
  show OEnd p e below _ (T28.setTop (mkF m 10 #[.val (.ref a1), .val (.long q2), .second] [(.int (lcmpW r_29 (0 : Int64)))]))
  by_cases hc31 : r_29 = (0 : Int64)
  · refine OEnd.of (fun t k => XS.ifNo X28.here hx rfl (hb hby d3_10) rfl ((if0 _ _).trans (teq ((lw_eq _ _).mpr hc31)).2) k) ?_
    show OEnd p e below _ (T28.setTop (mkF m 13 #[.val (.ref a1), .val (.long q2), .second] []))
    refine OEnd.of (fun t k => XS.lloadN X28.here hx rfl (hb hby d3_13) rfl k) ?_
    show OEnd p e below _ (T28.setTop (mkF m 14 #[.val (.ref a1), .val (.long q2), .second] [(.long q2)]))
    refine OEnd.of (fun t k => XS.aloadN X28.here hx rfl (hb hby d3_14) rfl rfl k) ?_
    show OEnd p e below _ (T28.setTop (mkF m 15 #[.val (.ref a1), .val (.long q2), .second] [(.ref a1), (.long q2)]))
    obtain ⟨T32, X32, e32, st32⟩ := getF X28 hx hZ hown (host := "") (Or.inl (hw _ (List.mem_of_getElem? (i := 14) rfl))) Via.refl e28 Fp (g := (mkF m 15 #[.val (.ref a1), .val (.long q2), .second] [(.ref a1), (.long q2)])) rfl rfl (hb hby d3_15)
    refine OEnd.of st32 ?_
    show OEnd p e below _ (T32.setTop (mkF m 18 #[.val (.ref a1), .val (.long q2), .second] [(.long w3), (.long q2)]))
    refine OEnd.of (fun t k => XS.lmul X32.here hx rfl (hb hby d3_18) rfl k) ?_
    show OEnd p e below _ (T32.setTop (mkF m 19 #[.val (.ref a1), .val (.long q2), .second] [(.long (q2 * w3))]))
    refine OEnd.of (fun t k => XS.goto X32.here hx rfl (pc0 := 19) (pc' := 25) rfl (hb hby d3_19) (by decide) (by decide) k) ?_
    show OEnd p e below _ (T32.setTop (mkF m 25 #[.val (.ref a1), .val (.long q2), .second] [(.long (q2 * w3))]))
    exact OEnd.retJ X32 hx hlk e32 hret (hb hby d3_25) ⟨_, rfl, N30, rfl⟩ (by decide) (by decide)
  · refine OEnd.of (fun t k => XS.ifYes X28.here hx rfl (pc0 := 10) (pc' := 22) rfl (hb hby d3_10) rfl ((if0 _ _).trans (feq (fun z => hc31 ((lw_eq _ _).mp z))).2) (by decide) (by decide) k) ?_
    show OEnd p e below _ (T28.setTop (mkF m 22 #[.val (.ref a1), .val (.long q2), .second] []))
    refine OEnd.of (X28.ldc2Long hx hown (mvT hZ (hw _ (List.mem_of_getElem? (i := 47) rfl))) (g := (mkF m 22 #[.val (.ref a1), .val (.long q2), .second] [])) rfl (hb hby d3_22)) ?_
    show OEnd p e below _ (T28.setTop (mkF m 25 #[.val (.ref a1), .val (.long q2), .second] [(.long (-1 : Int64))]))
    exact OEnd.retJ X28 hx hlk e28 hret (hb hby d3_25) ⟨_, rfl, N30, rfl⟩ (by decide) (by decide)
theorem pd_28J29J : parseMethodDescriptor "(J)J" = some ⟨[.long], some .long⟩ := by decide +kernel
theorem pd_28J29I : parseMethodDescriptor "(J)I" = some ⟨[.long], some .int⟩ := by decide +kernel
theorem d1_0 : decode prog_25_method_1_code 0 = .ok (.aload_n 0, 1) := by decide +kernel
theorem d1_1 : decode prog_25_method_1_code 1 = .ok (.invokespecial 1, 3) := by decide +kernel
theorem d1_4 : decode prog_25_method_1_code 4 = .ok (.aload_n 0, 1) := by decide +kernel
theorem d1_5 : decode prog_25_method_1_code 5 = .ok (.lload_n 1, 1) := by decide +kernel
theorem d1_6 : decode prog_25_method_1_code 6 = .ok (.putfield 7, 3) := by decide +kernel
theorem d1_9 : decode prog_25_method_1_code 9 = .ok (.aload_n 0, 1) := by decide +kernel
theorem d1_10 : decode prog_25_method_1_code 10 = .ok (.lload_n 3, 1) := by decide +kernel
theorem d1_11 : decode prog_25_method_1_code 11 = .ok (.putfield 13, 3) := by decide +kernel
theorem d1_14 : decode prog_25_method_1_code 14 = .ok (.aload_n 0, 1) := by decide +kernel
theorem d1_15 : decode prog_25_method_1_code 15 = .ok (.lload 5, 2) := by decide +kernel
theorem d1_17 : decode prog_25_method_1_code 17 = .ok (.putfield 16, 3) := by decide +kernel
theorem d1_20 : decode prog_25_method_1_code 20 = .ok (.aload_n 0, 1) := by decide +kernel
theorem d1_21 : decode prog_25_method_1_code 21 = .ok (.aload_n 0, 1) := by decide +kernel
theorem d1_22 : decode prog_25_method_1_code 22 = .ok (.lload_n 1, 1) := by decide +kernel
theorem d1_23 : decode prog_25_method_1_code 23 = .ok (.invokevirtual 19, 3) := by decide +kernel
theorem d1_26 : decode prog_25_method_1_code 26 = .ok (.putfield 23, 3) := by decide +kernel
theorem d1_29 : decode prog_25_method_1_code 29 = .ok (.aload_n 0, 1) := by decide +kernel
theorem d1_30 : decode prog_25_method_1_code 30 = .ok (.aload_n 0, 1) := by decide +kernel
theorem d1_31 : decode prog_25_method_1_code 31 = .ok (.getfield 23, 3) := by decide +kernel
theorem d1_34 : decode prog_25_method_1_code 34 = .ok (.lconst 0, 1) := by decide +kernel
theorem d1_35 : decode prog_25_method_1_code 35 = .ok (.lcmp, 1) := by decide +kernel
theorem d1_36 : decode prog_25_method_1_code 36 = .ok (.ifCond .ge 7, 3) := by decide +kernel
theorem d1_39 : decode prog_25_method_1_code 39 = .ok (.iconst 0, 1) := by decide +kernel
theorem d1_40 : decode prog_25_method_1_code 40 = .ok (.goto 13, 3) := by decide +kernel
theorem d1_43 : decode prog_25_method_1_code 43 = .ok (.bipush 64, 2) := by decide +kernel
theorem d1_45 : decode prog_25_method_1_code 45 = .ok (.aload_n 0, 1) := by decide +kernel
theorem d1_46 : decode prog_25_method_1_code 46 = .ok (.getfield 23, 3) := by decide +kernel
theorem d1_49 : decode prog_25_method_1_code 49 = .ok (.invokestatic 28, 3) := by decide +kernel
theorem d1_52 : decode prog_25_method_1_code 52 = .ok (.isub, 1) := by decide +kernel
theorem d1_53 : decode prog_25_method_1_code 53 = .ok (.putfield 32, 3) := by decide +kernel
theorem d1_56 : decode prog_25_method_1_code 56 = .ok (.aload_n 0, 1) := by decide +kernel
theorem d1_57 : decode prog_25_method_1_code 57 = .ok (.ldc2_w 36, 3) := by decide +kernel
theorem d1_60 : decode prog_25_method_1_code 60 = .ok (.lload_n 3, 1) := by decide +kernel
theorem d1_61 : decode prog_25_method_1_code 61 = .ok (.ldiv, 1) := by decide +kernel
theorem d1_62 : decode prog_25_method_1_code 62 = .ok (.putfield 38, 3) := by decide +kernel
theorem d1_65 : decode prog_25_method_1_code 65 = .ok (.return_, 1) := by decide +kernel
abbrev RMrm1 : Room := { frames := 2, cells := 0, slots := 0, locals := 46 }
theorem ef_rm1 (m : MethodId) (a1 : Addr) (q2 : Int64) (q3 : Int64) (q4 : Int64) : entryFrame m #[(.ref a1), (.long q2), (.long q3), (.long q4)] 7 = mkF m 0 #[.val (.ref a1), .val (.long q2), .second, .val (.long q3), .second, .val (.long q4), .second] [] := by first | (simp [entryFrame, mkF, argsToLocals, Value.category]; done) | rfl
def Qrm1 (Z : State)  (a1 : Addr) (q2 : Int64) (q3 : Int64) (q4 : Int64) (h0 : Heap) (v : Option Value) (h : Heap) (L : List Loc) : Prop := v = none ∧ Fr Z.heap.size L ∧ Keep h0 h [a1] ∧ Exa Z h a1 "com/example/metr/metr/Parts" ∧ Fld Z h a1 "com/example/metr/metr/Parts" "capacity" "J" (.long q2) ∧ Fld Z h a1 "com/example/metr/metr/Parts" "refillTokens" "J" (.long q3) ∧ Fld Z h a1 "com/example/metr/metr/Parts" "refillPeriod" "J" (.long q4) ∧ Fld Z h a1 "com/example/metr/metr/Parts" "mostElapsed" "J" (.long ((9223372036854775807 : Int64) / q3))
set_option maxRecDepth 65536 in
set_option maxHeartbeats 40000000 in
theorem rm1 (l : Launch) (Z : State) (a0 : Array Value) (hw : ∀ d ∈ tables_1, d.before a0 Z = true)   (ws : List Jvm.Cond) (a1 : Addr) (q2 : Int64) (q3 : Int64) (q4 : Int64) (h0 : Heap) (O0 : Ext Z.heap h0) (E1 : Exa Z h0 a1 "com/example/metr/metr/Parts") (F_capacity : Fld Z h0 a1 "com/example/metr/metr/Parts" "capacity" "J" (.long (0 : Int64))) (F_refillTokens : Fld Z h0 a1 "com/example/metr/metr/Parts" "refillTokens" "J" (.long (0 : Int64))) (F_refillPeriod : Fld Z h0 a1 "com/example/metr/metr/Parts" "refillPeriod" "J" (.long (0 : Int64))) (F_capacityParts : Fld Z h0 a1 "com/example/metr/metr/Parts" "capacityParts" "J" (.long (0 : Int64))) (F_deficitBits : Fld Z h0 a1 "com/example/metr/metr/Parts" "deficitBits" "I" (.int (0 : Int32))) (F_mostElapsed : Fld Z h0 a1 "com/example/metr/metr/Parts" "mostElapsed" "J" (.long (0 : Int64))) (g1 : Z.heap.size ≤ a1) (ht : q3 ≠ 0) :
    MetFree l (⟨"com/example/metr/metr/Parts", "<init>", "(JJJ)V"⟩ : MethodName) (head1 (Jvm.Cond.code (⟨"com/example/metr/metr/Parts", "<init>", "(JJJ)V"⟩ : MethodName) prog_25_method_1_code 7 none :: ws) RMrm1) (fun a U => a = #[(.ref a1), (.long q2), (.long q3), (.long q4)] ∧ Z.Warmed39 U.vm ∧ U.heap = h0) (fun _ _ _ _ _ => True) (fun _ U o U' => ∃ v L, o = .returned v ∧ Qrm1 Z a1 q2 q3 q4 h0 v U'.heap L ∧ FrameEnd U o U' L RMrm1.cells RMrm1.slots) := by
  refine MetFree.of_bodySF (plainFor_of_name pn_com_example_metr_metr_Parts) hisR ?_
  intro p e s m args below meth c s₁ Bd hml0 hP hK
  obtain ⟨rfl, hZ, hh⟩ := hP
  have hx := Bd.exec
  have hby := Bd.bytes
  have hlk : meth.locks = false := BodyLoose.notSynchronized Bd
  have hret := Bd.returns
  have hml : c.maxLocals = 7 := hml0
  have hown : s.vm.findClass "com/example/metr/metr/Parts" = some m.cls := findClass_of_methodNamed Bd.named
  have hnm := (name_of_methodNamed Bd.named Bd.method).1
  have X0 : Stand p l e RMrm1 s m #[(.ref a1), (.long q2), (.long q3), (.long q4)] below meth c s₁ [] 0 0 := Stand.of_body Bd
  have e0 : s₁.heap = h0 := by rw [← hh, Bd.state]; rfl
  have N0 := Fr.nil Z.heap.size
  show OEnd p e below (GN s (Qrm1 Z a1 q2 q3 q4 h0) RMrm1.cells RMrm1.slots) _
  refine OEnd.of (fun t k => castTop (ef_rm1 m a1 q2 q3 q4) k) ?_
  refine OEnd.of (fun t k => XS.aloadN X0.here hx rfl (hb hby d1_0) rfl rfl k) ?_
  show OEnd p e below _ (s₁.setTop (mkF m 1 #[.val (.ref a1), .val (.long q2), .second, .val (.long q3), .second, .val (.long q4), .second] [(.ref a1)]))
  obtain ⟨T33, X33, e33, st33⟩ := initO X0 hx hZ hown (hw _ (List.mem_of_getElem? (i := 7) rfl)) (hw _ (List.mem_of_getElem? (i := 8) rfl)) (hw _ (List.mem_of_getElem? (i := 9) rfl)) e0 (g := (mkF m 1 #[.val (.ref a1), .val (.long q2), .second, .val (.long q3), .second, .val (.long q4), .second] [(.ref a1)])) rfl (by rw [hml]; rfl) rfl (hb hby d1_1) (by decide) (W := 0) (by show 2 * 0 + _ ≤ _; exact Nat.le_of_eq rfl) (by decide)
  refine OEnd.of st33 ?_
  show OEnd p e below _ (T33.setTop (mkF m 4 #[.val (.ref a1), .val (.long q2), .second, .val (.long q3), .second, .val (.long q4), .second] []))
  refine OEnd.of (fun t k => XS.aloadN X33.here hx rfl (hb hby d1_4) rfl rfl k) ?_
  show OEnd p e below _ (T33.setTop (mkF m 5 #[.val (.ref a1), .val (.long q2), .second, .val (.long q3), .second, .val (.long q4), .second] [(.ref a1)]))
  refine OEnd.of (fun t k => XS.lloadN X33.here hx rfl (hb hby d1_5) rfl k) ?_
  show OEnd p e below _ (T33.setTop (mkF m 6 #[.val (.ref a1), .val (.long q2), .second, .val (.long q3), .second, .val (.long q4), .second] [(.long q2), (.ref a1)]))
  obtain ⟨T34, h34, X34, e34, W34, st34⟩ := putF X33 hx hZ hown (host := "") (Or.inl (hw _ (List.mem_of_getElem? (i := 10) rfl))) Via.refl e33 F_capacity E1 (Or.inr ⟨(hw _ (List.mem_of_getElem? (i := 11) rfl)), rfl, hnm⟩) (hw _ (List.mem_of_getElem? (i := 2) rfl)) (ty := .long) (by decide) rfl rfl (g := (mkF m 6 #[.val (.ref a1), .val (.long q2), .second, .val (.long q3), .second, .val (.long q4), .second] [(.long q2), (.ref a1)])) rfl rfl (hb hby d1_6)
  refine OEnd.of st34 ?_
  have F35 : Fld Z h34 a1 "com/example/metr/metr/Parts" "capacity" "J" (.long q2) := Fld.same W34 F_capacity
  have E36 : Exa Z h34 a1 "com/example/metr/metr/Parts" := E1.wr W34
  have F37 : Fld Z h34 a1 "com/example/metr/metr/Parts" "refillTokens" "J" (.long (0 : Int64)) := F_refillTokens.other W34 (Or.inr (slot_ne (Or.inr (hw _ (List.mem_of_getElem? (i := 13) rfl))) (Or.inr (hw _ (List.mem_of_getElem? (i := 11) rfl))) (by decide) (t := .long) (t' := .long) (by decide) (by decide)))
  have F38 : Fld Z h34 a1 "com/example/metr/metr/Parts" "refillPeriod" "J" (.long (0 : Int64)) := F_refillPeriod.other W34 (Or.inr (slot_ne (Or.inr (hw _ (List.mem_of_getElem? (i := 15) rfl))) (Or.inr (hw _ (List.mem_of_getElem? (i := 11) rfl))) (by decide) (t := .long) (t' := .long) (by decide) (by decide)))
  have F39 : Fld Z h34 a1 "com/example/metr/metr/Parts" "capacityParts" "J" (.long (0 : Int64)) := F_capacityParts.other W34 (Or.inr (slot_ne (Or.inr (hw _ (List.mem_of_getElem? (i := 27) rfl))) (Or.inr (hw _ (List.mem_of_getElem? (i := 11) rfl))) (by decide) (t := .long) (t' := .long) (by decide) (by decide)))
  have F40 : Fld Z h34 a1 "com/example/metr/metr/Parts" "deficitBits" "I" (.int (0 : Int32)) := F_deficitBits.other W34 (Or.inr (slot_ne (Or.inr (hw _ (List.mem_of_getElem? (i := 38) rfl))) (Or.inr (hw _ (List.mem_of_getElem? (i := 11) rfl))) (by decide) (t := .int) (t' := .long) (by decide) (by decide)))
  have F41 : Fld Z h34 a1 "com/example/metr/metr/Parts" "mostElapsed" "J" (.long (0 : Int64)) := F_mostElapsed.other W34 (Or.inr (slot_ne (Or.inr (hw _ (List.mem_of_getElem? (i := 41) rfl))) (Or.inr (hw _ (List.mem_of_getElem? (i := 11) rfl))) (by decide) (t := .long) (t' := .long) (by decide) (by decide)))
  have N42 := Fr.snoc X34 N0 g1
  show OEnd p e below _ (T34.setTop (mkF m 9 #[.val (.ref a1), .val (.long q2), .second, .val (.long q3), .second, .val (.long q4), .second] []))
  refine OEnd.of (fun t k => XS.aloadN X34.here hx rfl (hb hby d1_9) rfl rfl k) ?_
  show OEnd p e below _ (T34.setTop (mkF m 10 #[.val (.ref a1), .val (.long q2), .second, .val (.long q3), .second, .val (.long q4), .second] [(.ref a1)]))
  refine OEnd.of (fun t k => XS.lloadN X34.here hx rfl (hb hby d1_10) rfl k) ?_
  show OEnd p e below _ (T34.setTop (mkF m 11 #[.val (.ref a1), .val (.long q2), .second, .val (.long q3), .second, .val (.long q4), .second] [(.long q3), (.ref a1)]))
  obtain ⟨T43, h43, X43, e43, W43, st43⟩ := putF X34 hx hZ hown (host := "") (Or.inl (hw _ (List.mem_of_getElem? (i := 12) rfl))) Via.refl e34 F37 E36 (Or.inr ⟨(hw _ (List.mem_of_getElem? (i := 13) rfl)), rfl, hnm⟩) (hw _ (List.mem_of_getElem? (i := 2) rfl)) (ty := .long) (by decide) rfl rfl (g := (mkF m 11 #[.val (.ref a1), .val (.long q2), .second, .val (.long q3), .second, .val (.long q4), .second] [(.long q3), (.ref a1)])) rfl rfl (hb hby d1_11)
  refine OEnd.of st43 ?_
  have F44 : Fld Z h43 a1 "com/example/metr/metr/Parts" "refillTokens" "J" (.long q3) := Fld.same W43 F37
  have E45 : Exa Z h43 a1 "com/example/metr/metr/Parts" := E36.wr W43
  have F46 : Fld Z h43 a1 "com/example/metr/metr/Parts" "refillPeriod" "J" (.long (0 : Int64)) := F38.other W43 (Or.inr (slot_ne (Or.inr (hw _ (List.mem_of_getElem? (i := 15) rfl))) (Or.inr (hw _ (List.mem_of_getElem? (i := 13) rfl))) (by decide) (t := .long) (t' := .long) (by decide) (by decide)))
  have F47 : Fld Z h43 a1 "com/example/metr/metr/Parts" "capacityParts" "J" (.long (0 : Int64)) := F39.other W43 (Or.inr (slot_ne (Or.inr (hw _ (List.mem_of_getElem? (i := 27) rfl))) (Or.inr (hw _ (List.mem_of_getElem? (i := 13) rfl))) (by decide) (t := .long) (t' := .long) (by decide) (by decide)))
  have F48 : Fld Z h43 a1 "com/example/metr/metr/Parts" "deficitBits" "I" (.int (0 : Int32)) := F40.other W43 (Or.inr (slot_ne (Or.inr (hw _ (List.mem_of_getElem? (i := 38) rfl))) (Or.inr (hw _ (List.mem_of_getElem? (i := 13) rfl))) (by decide) (t := .int) (t' := .long) (by decide) (by decide)))
  have F49 : Fld Z h43 a1 "com/example/metr/metr/Parts" "mostElapsed" "J" (.long (0 : Int64)) := F41.other W43 (Or.inr (slot_ne (Or.inr (hw _ (List.mem_of_getElem? (i := 41) rfl))) (Or.inr (hw _ (List.mem_of_getElem? (i := 13) rfl))) (by decide) (t := .long) (t' := .long) (by decide) (by decide)))
  have F50 : Fld Z h43 a1 "com/example/metr/metr/Parts" "capacity" "J" (.long q2) := F35.other W43 (Or.inr (slot_ne (Or.inr (hw _ (List.mem_of_getElem? (i := 11) rfl))) (Or.inr (hw _ (List.mem_of_getElem? (i := 13) rfl))) (by decide) (t := .long) (t' := .long) (by decide) (by decide)))
  have N51 := Fr.snoc X43 N42 g1
  show OEnd p e below _ (T43.setTop (mkF m 14 #[.val (.ref a1), .val (.long q2), .second, .val (.long q3), .second, .val (.long q4), .second] []))
  refine OEnd.of (fun t k => XS.aloadN X43.here hx rfl (hb hby d1_14) rfl rfl k) ?_
  show OEnd p e below _ (T43.setTop (mkF m 15 #[.val (.ref a1), .val (.long q2), .second, .val (.long q3), .second, .val (.long q4), .second] [(.ref a1)]))
  refine OEnd.of (fun t k => XS.lload X43.here hx rfl (hb hby d1_15) rfl k) ?_
  show OEnd p e below _ (T43.setTop (mkF m 17 #[.val (.ref a1), .val (.long q2), .second, .val (.long q3), .second, .val (.long q4), .second] [(.long q4), (.ref a1)]))
  obtain ⟨T52, h52, X52, e52, W52, st52⟩ := putF X43 hx hZ hown (host := "") (Or.inl (hw _ (List.mem_of_getElem? (i := 14) rfl))) Via.refl e43 F46 E45 (Or.inr ⟨(hw _ (List.mem_of_getElem? (i := 15) rfl)), rfl, hnm⟩) (hw _ (List.mem_of_getElem? (i := 2) rfl)) (ty := .long) (by decide) rfl rfl (g := (mkF m 17 #[.val (.ref a1), .val (.long q2), .second, .val (.long q3), .second, .val (.long q4), .second] [(.long q4), (.ref a1)])) rfl rfl (hb hby d1_17)
  refine OEnd.of st52 ?_
  have F53 : Fld Z h52 a1 "com/example/metr/metr/Parts" "refillPeriod" "J" (.long q4) := Fld.same W52 F46
  have E54 : Exa Z h52 a1 "com/example/metr/metr/Parts" := E45.wr W52
  have F55 : Fld Z h52 a1 "com/example/metr/metr/Parts" "capacityParts" "J" (.long (0 : Int64)) := F47.other W52 (Or.inr (slot_ne (Or.inr (hw _ (List.mem_of_getElem? (i := 27) rfl))) (Or.inr (hw _ (List.mem_of_getElem? (i := 15) rfl))) (by decide) (t := .long) (t' := .long) (by decide) (by decide)))
  have F56 : Fld Z h52 a1 "com/example/metr/metr/Parts" "deficitBits" "I" (.int (0 : Int32)) := F48.other W52 (Or.inr (slot_ne (Or.inr (hw _ (List.mem_of_getElem? (i := 38) rfl))) (Or.inr (hw _ (List.mem_of_getElem? (i := 15) rfl))) (by decide) (t := .int) (t' := .long) (by decide) (by decide)))
  have F57 : Fld Z h52 a1 "com/example/metr/metr/Parts" "mostElapsed" "J" (.long (0 : Int64)) := F49.other W52 (Or.inr (slot_ne (Or.inr (hw _ (List.mem_of_getElem? (i := 41) rfl))) (Or.inr (hw _ (List.mem_of_getElem? (i := 15) rfl))) (by decide) (t := .long) (t' := .long) (by decide) (by decide)))
  have F58 : Fld Z h52 a1 "com/example/metr/metr/Parts" "capacity" "J" (.long q2) := F50.other W52 (Or.inr (slot_ne (Or.inr (hw _ (List.mem_of_getElem? (i := 11) rfl))) (Or.inr (hw _ (List.mem_of_getElem? (i := 15) rfl))) (by decide) (t := .long) (t' := .long) (by decide) (by decide)))
  have F59 : Fld Z h52 a1 "com/example/metr/metr/Parts" "refillTokens" "J" (.long q3) := F44.other W52 (Or.inr (slot_ne (Or.inr (hw _ (List.mem_of_getElem? (i := 13) rfl))) (Or.inr (hw _ (List.mem_of_getElem? (i := 15) rfl))) (by decide) (t := .long) (t' := .long) (by decide) (by decide)))
  have N60 := Fr.snoc X52 N51 g1
  show OEnd p e below _ (T52.setTop (mkF m 20 #[.val (.ref a1), .val (.long q2), .second, .val (.long q3), .second, .val (.long q4), .second] []))
  refine OEnd.of (fun t k => XS.aloadN X52.here hx rfl (hb hby d1_20) rfl rfl k) ?_
  show OEnd p e below _ (T52.setTop (mkF m 21 #[.val (.ref a1), .val (.long q2), .second, .val (.long q3), .second, .val (.long q4), .second] [(.ref a1)]))
  refine OEnd.of (fun t k => XS.aloadN X52.here hx rfl (hb hby d1_21) rfl rfl k) ?_
  show OEnd p e below _ (T52.setTop (mkF m 22 #[.val (.ref a1), .val (.long q2), .second, .val (.long q3), .second, .val (.long q4), .second] [(.ref a1), (.ref a1)]))
  refine OEnd.of (fun t k => XS.lloadN X52.here hx rfl (hb hby d1_22) rfl k) ?_
  show OEnd p e below _ (T52.setTop (mkF m 23 #[.val (.ref a1), .val (.long q2), .second, .val (.long q3), .second, .val (.long q4), .second] [(.long q2), (.ref a1), (.ref a1)]))
  have K62 : Keep h0 h52 [a1] := ((((Keep.refl h0 [a1]).wr W34 (Or.inl (List.mem_of_getElem? (i := 0) rfl))).wr W43 (Or.inl (List.mem_of_getElem? (i := 0) rfl))).wr W52 (Or.inl (List.mem_of_getElem? (i := 0) rfl)))
  have O63 : Ext Z.heap h52 := own_extKeep O0 K62 (allS g1 all0)
  obtain ⟨cq61, kq61, q61a, q61b, q61c⟩ := isOf hZ e52 E54
  obtain ⟨_, _, ⟨T61, L61, k61, n61⟩, -, X61, ⟨Lc61, hQ61, l61, y61, z61⟩, st61⟩ := X52.virtualBack hx (y := (⟨"com/example/metr/metr/Parts", "parts", "(J)J"⟩ : MethodName)) (z := (⟨"com/example/metr/metr/Parts", "parts", "(J)J"⟩ : MethodName)) hown (mvT hZ (hw _ (List.mem_of_getElem? (i := 16) rfl))) (mvT hZ (hw _ (List.mem_of_getElem? (i := 17) rfl))) (notFace_of_selects (args := #[]) (mvT hZ (hw _ (List.mem_of_getElem? (i := 19) rfl)))) (mvT hZ (hw _ (List.mem_of_getElem? (i := 19) rfl))) (mvT hZ (hw _ (List.mem_of_getElem? (i := 18) rfl))) (by decide) (backOf (W := 1) (rm3 l Z a0 hw  [] a1 q2 q4 h52 O63 F53) hZ (hw _ (List.mem_of_getElem? (i := 20) rfl)) (hw _ (List.mem_of_getElem? (i := 3) rfl)) (by decide) (by decide)) q61a q61c (g := (mkF m 23 #[.val (.ref a1), .val (.long q2), .second, .val (.long q3), .second, .val (.long q4), .second] [(.long q2), (.ref a1), (.ref a1)])) rfl (by rw [hml]; rfl) (Steps.refl _) (argsL := [(.long q2)]) (rest := [(.ref a1)]) (lenOf pd_28J29J rfl) rfl (by show 2 * 0 + _ ≤ _; exact Nat.le_of_eq rfl) (hb hby d1_23) (fun _ _ => ⟨rfl, e52, (by decide : 0 + 0 ≤ _), (by decide : 0 + 0 ≤ _)⟩)
  dsimp only [Pt.U, Pt.locs, Pt.cells, Pt.slots] at X61 l61 y61 z61 st61 hQ61
  subst l61 y61 z61
  obtain ⟨r_64, rfl, Nq61, e61⟩ := hQ61
  have N65 := Fr.app N60 Nq61
  refine OEnd.of (fun t k => st61.trans k) ?_
  show OEnd p e below _ (T61.setTop (mkF m 26 #[.val (.ref a1), .val (.long q2), .second, .val (.long q3), .second, .val (.long q4), .second] [(.long r_64), (.ref a1)]))
  obtain ⟨T66, h66, X66, e66, W66, st66⟩ := putF X61 hx hZ hown (host := "") (Or.inl (hw _ (List.mem_of_getElem? (i := 26) rfl))) Via.refl e61 F55 E54 (Or.inr ⟨(hw _ (List.mem_of_getElem? (i := 27) rfl)), rfl, hnm⟩) (hw _ (List.mem_of_getElem? (i := 2) rfl)) (ty := .long) (by decide) rfl rfl (g := (mkF m 26 #[.val (.ref a1), .val (.long q2), .second, .val (.long q3), .second, .val (.long q4), .second] [(.long r_64), (.ref a1)])) rfl rfl (hb hby d1_26)
  refine OEnd.of st66 ?_
  have F67 : Fld Z h66 a1 "com/example/metr/metr/Parts" "capacityParts" "J" (.long r_64) := Fld.same W66 F55
  have E68 : Exa Z h66 a1 "com/example/metr/metr/Parts" := E54.wr W66
  have F69 : Fld Z h66 a1 "com/example/metr/metr/Parts" "deficitBits" "I" (.int (0 : Int32)) := F56.other W66 (Or.inr (slot_ne (Or.inr (hw _ (List.mem_of_getElem? (i := 38) rfl))) (Or.inr (hw _ (List.mem_of_getElem? (i := 27) rfl))) (by decide) (t := .int) (t' := .long) (by decide) (by decide)))
  have F70 : Fld Z h66 a1 "com/example/metr/metr/Parts" "mostElapsed" "J" (.long (0 : Int64)) := F57.other W66 (Or.inr (slot_ne (Or.inr (hw _ (List.mem_of_getElem? (i := 41) rfl))) (Or.inr (hw _ (List.mem_of_getElem? (i := 27) rfl))) (by decide) (t := .long) (t' := .long) (by decide) (by decide)))
  have F71 : Fld Z h66 a1 "com/example/metr/metr/Parts" "capacity" "J" (.long q2) := F58.other W66 (Or.inr (slot_ne (Or.inr (hw _ (List.mem_of_getElem? (i := 11) rfl))) (Or.inr (hw _ (List.mem_of_getElem? (i := 27) rfl))) (by decide) (t := .long) (t' := .long) (by decide) (by decide)))
  have F72 : Fld Z h66 a1 "com/example/metr/metr/Parts" "refillTokens" "J" (.long q3) := F59.other W66 (Or.inr (slot_ne (Or.inr (hw _ (List.mem_of_getElem? (i := 13) rfl))) (Or.inr (hw _ (List.mem_of_getElem? (i := 27) rfl))) (by decide) (t := .long) (t' := .long) (by decide) (by decide)))
  have F73 : Fld Z h66 a1 "com/example/metr/metr/Parts" "refillPeriod" "J" (.long q4) := F53.other W66 (Or.inr (slot_ne (Or.inr (hw _ (List.mem_of_getElem? (i := 15) rfl))) (Or.inr (hw _ (List.mem_of_getElem? (i := 27) rfl))) (by decide) (t := .long) (t' := .long) (by decide) (by decide)))
  have N74 := Fr.snoc X66 N65 g1
  show OEnd p e below _ (T66.setTop (mkF m 29 #[.val (.ref a1), .val (.long q2), .second, .val (.long q3), .second, .val (.long q4), .second] []))
  refine OEnd.of (fun t k => XS.aloadN X66.here hx rfl (hb hby d1_29) rfl rfl k) ?_
  show OEnd p e below _ (T66.setTop (mkF m 30 #[.val (.ref a1), .val (.long q2), .second, .val (.long q3), .second, .val (.long q4), .second] [(.ref a1)]))
  refine OEnd.of (fun t k => XS.aloadN X66.here hx rfl (hb hby d1_30) rfl rfl k) ?_
  show OEnd p e below _ (T66.setTop (mkF m 31 #[.val (.ref a1), .val (.long q2), .second, .val (.long q3), .second, .val (.long q4), .second] [(.ref a1), (.ref a1)]))
  obtain ⟨T75, X75, e75, st75⟩ := getF X66 hx hZ hown (host := "") (Or.inl (hw _ (List.mem_of_getElem? (i := 26) rfl))) Via.refl e66 F67 (g := (mkF m 31 #[.val (.ref a1), .val (.long q2), .second, .val (.long q3), .second, .val (.long q4), .second] [(.ref a1), (.ref a1)])) rfl rfl (hb hby d1_31)
  refine OEnd.of st75 ?_
  show OEnd p e below _ (T75.setTop (mkF m 34 #[.val (.ref a1), .val (.long q2), .second, .val (.long q3), .second, .val (.long q4), .second] [(.long r_64), (.ref a1)]))
  refine OEnd.of (fun t k => XS.lconst X75.here hx rfl (hb hby d1_34) k) ?_
  show OEnd p e below _ (T75.setTop (mkF m 35 #[.val (.ref a1), .val (.long q2), .second, .val (.long q3), .second, .val (.long q4), .second] [(.long (0 : Int64)), (.long r_64), (.ref a1)]))
  refine OEnd.of (fun t k => XS.lcmp X75.here hx rfl (hb hby d1_35) rfl k) ?_
  show OEnd p e below _ (T75.setTop (mkF m 36 #[.val (.ref a1), .val (.long q2), .second, .val (.long q3), .second, .val (.long q4), .second] [(.int (lcmpW r_64 (0 : Int64))), (.ref a1)]))
  have J76 : ∀ (T76 : State) (Lo76 : List Loc) (n53 : Int32), Stand p l e RMrm1 s m #[(.ref a1), (.long q2), (.long q3), (.long q4)] below meth c T76 Lo76 0 0 → T76.heap = h66 → Fr Z.heap.size Lo76 → OEnd p e below (GN s (Qrm1 Z a1 q2 q3 q4 h0) RMrm1.cells RMrm1.slots) (T76.setTop (mkF m 53 #[.val (.ref a1), .val (.long q2), .second, .val (.long q3), .second, .val (.long q4), .second] [(.int n53), (.ref a1)])) := by
    rintro T76 Lo76 n53 X76 e76 N76
    show OEnd p e below _ (T76.setTop (mkF m 53 #[.val (.ref a1), .val (.long q2), .second, .val (.long q3), .second, .val (.long q4), .second] [(.int n53), (.ref a1)]))
    obtain ⟨T77, h77, X77, e77, W77, st77⟩ := putF X76 hx hZ hown (host := "") (Or.inl (hw _ (List.mem_of_getElem? (i := 37) rfl))) Via.refl e76 F69 E68 (Or.inr ⟨(hw _ (List.mem_of_getElem? (i := 38) rfl)), rfl, hnm⟩) (hw _ (List.mem_of_getElem? (i := 2) rfl)) (ty := .int) (by decide) rfl rfl (g := (mkF m 53 #[.val (.ref a1), .val (.long q2), .second, .val (.long q3), .second, .val (.long q4), .second] [(.int n53), (.ref a1)])) rfl rfl (hb hby d1_53)
    refine OEnd.of st77 ?_
    have F78 : Fld Z h77 a1 "com/example/metr/metr/Parts" "deficitBits" "I" (.int n53) := Fld.same W77 F69
    have E79 : Exa Z h77 a1 "com/example/metr/metr/Parts" := E68.wr W77
    have F80 : Fld Z h77 a1 "com/example/metr/metr/Parts" "mostElapsed" "J" (.long (0 : Int64)) := F70.other W77 (Or.inr (slot_ne (Or.inr (hw _ (List.mem_of_getElem? (i := 41) rfl))) (Or.inr (hw _ (List.mem_of_getElem? (i := 38) rfl))) (by decide) (t := .long) (t' := .int) (by decide) (by decide)))
    have F81 : Fld Z h77 a1 "com/example/metr/metr/Parts" "capacity" "J" (.long q2) := F71.other W77 (Or.inr (slot_ne (Or.inr (hw _ (List.mem_of_getElem? (i := 11) rfl))) (Or.inr (hw _ (List.mem_of_getElem? (i := 38) rfl))) (by decide) (t := .long) (t' := .int) (by decide) (by decide)))
    have F82 : Fld Z h77 a1 "com/example/metr/metr/Parts" "refillTokens" "J" (.long q3) := F72.other W77 (Or.inr (slot_ne (Or.inr (hw _ (List.mem_of_getElem? (i := 13) rfl))) (Or.inr (hw _ (List.mem_of_getElem? (i := 38) rfl))) (by decide) (t := .long) (t' := .int) (by decide) (by decide)))
    have F83 : Fld Z h77 a1 "com/example/metr/metr/Parts" "refillPeriod" "J" (.long q4) := F73.other W77 (Or.inr (slot_ne (Or.inr (hw _ (List.mem_of_getElem? (i := 15) rfl))) (Or.inr (hw _ (List.mem_of_getElem? (i := 38) rfl))) (by decide) (t := .long) (t' := .int) (by decide) (by decide)))
    have F84 : Fld Z h77 a1 "com/example/metr/metr/Parts" "capacityParts" "J" (.long r_64) := F67.other W77 (Or.inr (slot_ne (Or.inr (hw _ (List.mem_of_getElem? (i := 27) rfl))) (Or.inr (hw _ (List.mem_of_getElem? (i := 38) rfl))) (by decide) (t := .long) (t' := .int) (by decide) (by decide)))
    have N85 := Fr.snoc X77 N76 g1
    show OEnd p e below _ (T77.setTop (mkF m 56 #[.val (.ref a1), .val (.long q2), .second, .val (.long q3), .second, .val (.long q4), .second] []))
    refine OEnd.of (fun t k => XS.aloadN X77.here hx rfl (hb hby d1_56) rfl rfl k) ?_
    show OEnd p e below _ (T77.setTop (mkF m 57 #[.val (.ref a1), .val (.long q2), .second, .val (.long q3), .second, .val (.long q4), .second] [(.ref a1)]))
    refine OEnd.of (X77.ldc2Long hx hown (mvT hZ (hw _ (List.mem_of_getElem? (i := 39) rfl))) (g := (mkF m 57 #[.val (.ref a1), .val (.long q2), .second, .val (.long q3), .second, .val (.long q4), .second] [(.ref a1)])) rfl (hb hby d1_57)) ?_
    show OEnd p e below _ (T77.setTop (mkF m 60 #[.val (.ref a1), .val (.long q2), .second, .val (.long q3), .second, .val (.long q4), .second] [(.long (9223372036854775807 : Int64)), (.ref a1)]))
    refine OEnd.of (fun t k => XS.lloadN X77.here hx rfl (hb hby d1_60) rfl k) ?_
    show OEnd p e below _ (T77.setTop (mkF m 61 #[.val (.ref a1), .val (.long q2), .second, .val (.long q3), .second, .val (.long q4), .second] [(.long q3), (.long (9223372036854775807 : Int64)), (.ref a1)]))
    refine OEnd.of (fun t k => XS.ldiv X77.here hx rfl (hb hby d1_61) rfl ht k) ?_
    show OEnd p e below _ (T77.setTop (mkF m 62 #[.val (.ref a1), .val (.long q2), .second, .val (.long q3), .second, .val (.long q4), .second] [(.long ((9223372036854775807 : Int64) / q3)), (.ref a1)]))
    obtain ⟨T86, h86, X86, e86, W86, st86⟩ := putF X77 hx hZ hown (host := "") (Or.inl (hw _ (List.mem_of_getElem? (i := 40) rfl))) Via.refl e77 F80 E79 (Or.inr ⟨(hw _ (List.mem_of_getElem? (i := 41) rfl)), rfl, hnm⟩) (hw _ (List.mem_of_getElem? (i := 2) rfl)) (ty := .long) (by decide) rfl rfl (g := (mkF m 62 #[.val (.ref a1), .val (.long q2), .second, .val (.long q3), .second, .val (.long q4), .second] [(.long ((9223372036854775807 : Int64) / q3)), (.ref a1)])) rfl rfl (hb hby d1_62)
    refine OEnd.of st86 ?_
    have F87 : Fld Z h86 a1 "com/example/metr/metr/Parts" "mostElapsed" "J" (.long ((9223372036854775807 : Int64) / q3)) := Fld.same W86 F80
    have E88 : Exa Z h86 a1 "com/example/metr/metr/Parts" := E79.wr W86
    have F89 : Fld Z h86 a1 "com/example/metr/metr/Parts" "capacity" "J" (.long q2) := F81.other W86 (Or.inr (slot_ne (Or.inr (hw _ (List.mem_of_getElem? (i := 11) rfl))) (Or.inr (hw _ (List.mem_of_getElem? (i := 41) rfl))) (by decide) (t := .long) (t' := .long) (by decide) (by decide)))
    have F90 : Fld Z h86 a1 "com/example/metr/metr/Parts" "refillTokens" "J" (.long q3) := F82.other W86 (Or.inr (slot_ne (Or.inr (hw _ (List.mem_of_getElem? (i := 13) rfl))) (Or.inr (hw _ (List.mem_of_getElem? (i := 41) rfl))) (by decide) (t := .long) (t' := .long) (by decide) (by decide)))
    have F91 : Fld Z h86 a1 "com/example/metr/metr/Parts" "refillPeriod" "J" (.long q4) := F83.other W86 (Or.inr (slot_ne (Or.inr (hw _ (List.mem_of_getElem? (i := 15) rfl))) (Or.inr (hw _ (List.mem_of_getElem? (i := 41) rfl))) (by decide) (t := .long) (t' := .long) (by decide) (by decide)))
    have F92 : Fld Z h86 a1 "com/example/metr/metr/Parts" "capacityParts" "J" (.long r_64) := F84.other W86 (Or.inr (slot_ne (Or.inr (hw _ (List.mem_of_getElem? (i := 27) rfl))) (Or.inr (hw _ (List.mem_of_getElem? (i := 41) rfl))) (by decide) (t := .long) (t' := .long) (by decide) (by decide)))
    have F93 : Fld Z h86 a1 "com/example/metr/metr/Parts" "deficitBits" "I" (.int n53) := F78.other W86 (Or.inr (slot_ne (Or.inr (hw _ (List.mem_of_getElem? (i := 38) rfl))) (Or.inr (hw _ (List.mem_of_getElem? (i := 41) rfl))) (by decide) (t := .int) (t' := .long) (by decide) (by decide)))
    have N94 := Fr.snoc X86 N85 g1
    show OEnd p e below _ (T86.setTop (mkF m 65 #[.val (.ref a1), .val (.long q2), .second, .val (.long q3), .second, .val (.long q4), .second] []))
    have K95 : Keep h0 h86 [a1] := (((K62.wr W66 (Or.inl (List.mem_of_getElem? (i := 0) rfl))).wr W77 (Or.inl (List.mem_of_getElem? (i := 0) rfl))).wr W86 (Or.inl (List.mem_of_getElem? (i := 0) rfl)))
    exact OEnd.retV X86 hx hlk e86 hret (hb hby d1_65) ⟨rfl, N94, K95, E88, F89, F90, F91, F87⟩ (by decide) (by decide)
  by_cases hc96 : r_64 < (0 : Int64)
  · refine OEnd.of (fun t k => XS.ifNo X75.here hx rfl (hb hby d1_36) rfl ((if0 _ _).trans (tlt ((lw_lt _ _).mpr hc96)).2.1) k) ?_
    show OEnd p e below _ (T75.setTop (mkF m 39 #[.val (.ref a1), .val (.long q2), .second, .val (.long q3), .second, .val (.long q4), .second] [(.ref a1)]))
    refine OEnd.of (fun t k => XS.iconst X75.here hx rfl (hb hby d1_39) k) ?_
    show OEnd p e below _ (T75.setTop (mkF m 40 #[.val (.ref a1), .val (.long q2), .second, .val (.long q3), .second, .val (.long q4), .second] [(.int (0 : Int32)), (.ref a1)]))
    refine OEnd.of (fun t k => XS.goto X75.here hx rfl (pc0 := 40) (pc' := 53) rfl (hb hby d1_40) (by decide) (by decide) k) ?_
    show OEnd p e below _ (T75.setTop (mkF m 53 #[.val (.ref a1), .val (.long q2), .second, .val (.long q3), .second, .val (.long q4), .second] [(.int (0 : Int32)), (.ref a1)]))
    exact J76 T75 _ (0 : Int32) X75 e75 N74
  · refine OEnd.of (fun t k => XS.ifYes X75.here hx rfl (pc0 := 36) (pc' := 43) rfl (hb hby d1_36) rfl ((if0 _ _).trans (flt (fun z => hc96 ((lw_lt _ _).mp z))).2.1) (by decide) (by decide) k) ?_
    show OEnd p e below _ (T75.setTop (mkF m 43 #[.val (.ref a1), .val (.long q2), .second, .val (.long q3), .second, .val (.long q4), .second] [(.ref a1)]))
    refine OEnd.of (fun t k => XS.bipush X75.here hx rfl (hb hby d1_43) k) ?_
    show OEnd p e below _ (T75.setTop (mkF m 45 #[.val (.ref a1), .val (.long q2), .second, .val (.long q3), .second, .val (.long q4), .second] [(.int (64 : Int32)), (.ref a1)]))
    refine OEnd.of (fun t k => XS.aloadN X75.here hx rfl (hb hby d1_45) rfl rfl k) ?_
    show OEnd p e below _ (T75.setTop (mkF m 46 #[.val (.ref a1), .val (.long q2), .second, .val (.long q3), .second, .val (.long q4), .second] [(.ref a1), (.int (64 : Int32)), (.ref a1)]))
    obtain ⟨T97, X97, e97, st97⟩ := getF X75 hx hZ hown (host := "") (Or.inl (hw _ (List.mem_of_getElem? (i := 26) rfl))) Via.refl e75 F67 (g := (mkF m 46 #[.val (.ref a1), .val (.long q2), .second, .val (.long q3), .second, .val (.long q4), .second] [(.ref a1), (.int (64 : Int32)), (.ref a1)])) rfl rfl (hb hby d1_46)
    refine OEnd.of st97 ?_
    show OEnd p e below _ (T97.setTop (mkF m 49 #[.val (.ref a1), .val (.long q2), .second, .val (.long q3), .second, .val (.long q4), .second] [(.long r_64), (.int (64 : Int32)), (.ref a1)]))
    have K99 : Keep h52 h66 [a1] := ((Keep.refl h52 [a1]).wr W66 (Or.inl (List.mem_of_getElem? (i := 0) rfl)))
    have O100 : Ext Z.heap h66 := own_extKeep O63 K99 (allS g1 all0)
    obtain ⟨_, _, ⟨T98, L98, k98, n98⟩, -, X98, ⟨Lc98, hQ98, l98, y98, z98⟩, st98⟩ := Jvm.LawKit.callS X97 hx (y := (⟨"java/lang/Long", "numberOfLeadingZeros", "(J)I"⟩ : MethodName)) hown (mvT hZ (hw _ (List.mem_of_getElem? (i := 28) rfl))) (mvT hZ (hw _ (List.mem_of_getElem? (i := 29) rfl))) (mvT hZ (hw _ (List.mem_of_getElem? (i := 30) rfl))) (mvT hZ (hw _ (List.mem_of_getElem? (i := 31) rfl))) (by decide) (backOf (W := 2) (rm5 l Z a0 hw  [] r_64 h66 O100 ) hZ (hw _ (List.mem_of_getElem? (i := 31) rfl)) (hw _ (List.mem_of_getElem? (i := 30) rfl)) (by decide) (by decide)) (g := (mkF m 49 #[.val (.ref a1), .val (.long q2), .second, .val (.long q3), .second, .val (.long q4), .second] [(.long r_64), (.int (64 : Int32)), (.ref a1)])) rfl (by rw [hml]; rfl) (argsL := [(.long r_64)]) (rest := [(.int (64 : Int32)), (.ref a1)]) (lenOf pd_28J29I rfl) rfl (by show 2 * 0 + _ ≤ _; exact Nat.le_of_eq rfl) (hb hby d1_49) (fun _ _ => ⟨rfl, e97, (by decide : 0 + 0 ≤ _), (by decide : 0 + 0 ≤ _)⟩)
    dsimp only [Pt.U, Pt.locs, Pt.cells, Pt.slots] at X98 l98 y98 z98 st98 hQ98
    subst l98 y98 z98
    obtain ⟨r_101, rfl, Nq98, e98⟩ := hQ98
    have N102 := Fr.app N74 Nq98
    refine OEnd.of st98 ?_
    show OEnd p e below _ (T98.setTop (mkF m 52 #[.val (.ref a1), .val (.long q2), .second, .val (.long q3), .second, .val (.long q4), .second] [(.int r_101), (.int (64 : Int32)), (.ref a1)]))
    refine OEnd.of (fun t k => XS.isub X98.here hx rfl (hb hby d1_52) rfl k) ?_
    show OEnd p e below _ (T98.setTop (mkF m 53 #[.val (.ref a1), .val (.long q2), .second, .val (.long q3), .second, .val (.long q4), .second] [(.int ((64 : Int32) - r_101)), (.ref a1)]))
    exact J76 T98 _ ((64 : Int32) - r_101) X98 e98 N102
theorem d7_0 : decode prog_25_method_9_code 0 = .ok (.aload_n 0, 1) := by decide +kernel
theorem d7_1 : decode prog_25_method_9_code 1 = .ok (.getfield 7, 3) := by decide +kernel
theorem d7_4 : decode prog_25_method_9_code 4 = .ok (.lload_n 1, 1) := by decide +kernel
theorem d7_5 : decode prog_25_method_9_code 5 = .ok (.aload_n 0, 1) := by decide +kernel
theorem d7_6 : decode prog_25_method_9_code 6 = .ok (.getfield 16, 3) := by decide +kernel
theorem d7_9 : decode prog_25_method_9_code 9 = .ok (.ldiv, 1) := by decide +kernel
theorem d7_10 : decode prog_25_method_9_code 10 = .ok (.lsub, 1) := by decide +kernel
theorem d7_11 : decode prog_25_method_9_code 11 = .ok (.lload_n 1, 1) := by decide +kernel
theorem d7_12 : decode prog_25_method_9_code 12 = .ok (.aload_n 0, 1) := by decide +kernel
theorem d7_13 : decode prog_25_method_9_code 13 = .ok (.getfield 16, 3) := by decide +kernel
theorem d7_16 : decode prog_25_method_9_code 16 = .ok (.lrem, 1) := by decide +kernel
theorem d7_17 : decode prog_25_method_9_code 17 = .ok (.lconst 0, 1) := by decide +kernel
theorem d7_18 : decode prog_25_method_9_code 18 = .ok (.lcmp, 1) := by decide +kernel
theorem d7_19 : decode prog_25_method_9_code 19 = .ok (.ifCond .ne 7, 3) := by decide +kernel
theorem d7_22 : decode prog_25_method_9_code 22 = .ok (.iconst 0, 1) := by decide +kernel
theorem d7_23 : decode prog_25_method_9_code 23 = .ok (.goto 4, 3) := by decide +kernel
theorem d7_26 : decode prog_25_method_9_code 26 = .ok (.iconst 1, 1) := by decide +kernel
theorem d7_27 : decode prog_25_method_9_code 27 = .ok (.i2l, 1) := by decide +kernel
theorem d7_28 : decode prog_25_method_9_code 28 = .ok (.lsub, 1) := by decide +kernel
theorem d7_29 : decode prog_25_method_9_code 29 = .ok (.lreturn, 1) := by decide +kernel
abbrev RMrm7 : Room := { frames := 0, cells := 0, slots := 0, locals := 0 }
theorem ef_rm7 (m : MethodId) (a1 : Addr) (q2 : Int64) : entryFrame m #[(.ref a1), (.long q2)] 3 = mkF m 0 #[.val (.ref a1), .val (.long q2), .second] [] := by first | (simp [entryFrame, mkF, argsToLocals, Value.category]; done) | rfl
def Qrm7 (Z : State)  (a1 : Addr) (q2 : Int64) (cc : Int64) (pp : Int64) (h0 : Heap) (v : Option Value) (h : Heap) (L : List Loc) : Prop := ∃ (r : Int64), v = some (.long r) ∧ Fr Z.heap.size L ∧ h = h0 ∧ r = cc - q2 / pp - (if q2 % pp = 0 then 0 else 1)
set_option maxRecDepth 65536 in
set_option maxHeartbeats 40000000 in
theorem rm7 (l : Launch) (Z : State) (a0 : Array Value) (hw : ∀ d ∈ tables_1, d.before a0 Z = true)   (ws : List Jvm.Cond) (a1 : Addr) (q2 : Int64) (cc : Int64) (pp : Int64) (h0 : Heap) (O0 : Ext Z.heap h0) (Fc : Fld Z h0 a1 "com/example/metr/metr/Parts" "capacity" "J" (.long cc)) (Fp : Fld Z h0 a1 "com/example/metr/metr/Parts" "refillPeriod" "J" (.long pp)) (hp : pp ≠ 0) :
    MetFree l (⟨"com/example/metr/metr/Parts", "wholeTokens", "(J)J"⟩ : MethodName) (head1 (Jvm.Cond.code (⟨"com/example/metr/metr/Parts", "wholeTokens", "(J)J"⟩ : MethodName) prog_25_method_9_code 3 (some .long) :: ws) RMrm7) (fun a U => a = #[(.ref a1), (.long q2)] ∧ Z.Warmed39 U.vm ∧ U.heap = h0) (fun _ _ _ _ _ => True) (fun _ U o U' => ∃ v L, o = .returned v ∧ Qrm7 Z a1 q2 cc pp h0 v U'.heap L ∧ FrameEnd U o U' L RMrm7.cells RMrm7.slots) := by
  refine MetFree.of_bodySF (plainFor_of_name pn_com_example_metr_metr_Parts) hisR ?_
  intro p e s m args below meth c s₁ Bd hml0 hP hK
  obtain ⟨rfl, hZ, hh⟩ := hP
  have hx := Bd.exec
  have hby := Bd.bytes
  have hlk : meth.locks = false := BodyLoose.notSynchronized Bd
  have hret := Bd.returns
  have hml : c.maxLocals = 3 := hml0
  have hown : s.vm.findClass "com/example/metr/metr/Parts" = some m.cls := findClass_of_methodNamed Bd.named
  have hnm := (name_of_methodNamed Bd.named Bd.method).1
  have X0 : Stand p l e RMrm7 s m #[(.ref a1), (.long q2)] below meth c s₁ [] 0 0 := Stand.of_body Bd
  have e0 : s₁.heap = h0 := by rw [← hh, Bd.state]; rfl
  have N0 := Fr.nil Z.heap.size
  show OEnd p e below (GN s (Qrm7 Z a1 q2 cc pp h0) RMrm7.cells RMrm7.slots) _
  refine OEnd.of (fun t k => castTop (ef_rm7 m a1 q2) k) ?_
  refine OEnd.of (fun t k => XS.aloadN X0.here hx rfl (hb hby d7_0) rfl rfl k) ?_
  show OEnd p e below _ (s₁.setTop (mkF m 1 #[.val (.ref a1), .val (.long q2), .second] [(.ref a1)]))
  obtain ⟨T103, X103, e103, st103⟩ := getF X0 hx hZ hown (host := "") (Or.inl (hw _ (List.mem_of_getElem? (i := 10) rfl))) Via.refl e0 Fc (g := (mkF m 1 #[.val (.ref a1), .val (.long q2), .second] [(.ref a1)])) rfl rfl (hb hby d7_1)
  refine OEnd.of st103 ?_
  show OEnd p e below _ (T103.setTop (mkF m 4 #[.val (.ref a1), .val (.long q2), .second] [(.long cc)]))
  refine OEnd.of (fun t k => XS.lloadN X103.here hx rfl (hb hby d7_4) rfl k) ?_
  show OEnd p e below _ (T103.setTop (mkF m 5 #[.val (.ref a1), .val (.long q2), .second] [(.long q2), (.long cc)]))
  refine OEnd.of (fun t k => XS.aloadN X103.here hx rfl (hb hby d7_5) rfl rfl k) ?_
  show OEnd p e below _ (T103.setTop (mkF m 6 #[.val (.ref a1), .val (.long q2), .second] [(.ref a1), (.long q2), (.long cc)]))
  obtain ⟨T104, X104, e104, st104⟩ := getF X103 hx hZ hown (host := "") (Or.inl (hw _ (List.mem_of_getElem? (i := 14) rfl))) Via.refl e103 Fp (g := (mkF m 6 #[.val (.ref a1), .val (.long q2), .second] [(.ref a1), (.long q2), (.long cc)])) rfl rfl (hb hby d7_6)
  refine OEnd.of st104 ?_
  show OEnd p e below _ (T104.setTop (mkF m 9 #[.val (.ref a1), .val (.long q2), .second] [(.long pp), (.long q2), (.long cc)]))
  refine OEnd.of (fun t k => XS.ldiv X104.here hx rfl (hb hby d7_9) rfl hp k) ?_
  show OEnd p e below _ (T104.setTop (mkF m 10 #[.val (.ref a1), .val (.long q2), .second] [(.long (q2 / pp)), (.long cc)]))
  refine OEnd.of (fun t k => XS.lsub X104.here hx rfl (hb hby d7_10) rfl k) ?_
  show OEnd p e below _ (T104.setTop (mkF m 11 #[.val (.ref a1), .val (.long q2), .second] [(.long (cc - (q2 / pp)))]))
  refine OEnd.of (fun t k => XS.lloadN X104.here hx rfl (hb hby d7_11) rfl k) ?_
  show OEnd p e below _ (T104.setTop (mkF m 12 #[.val (.ref a1), .val (.long q2), .second] [(.long q2), (.long (cc - (q2 / pp)))]))
  refine OEnd.of (fun t k => XS.aloadN X104.here hx rfl (hb hby d7_12) rfl rfl k) ?_
  show OEnd p e below _ (T104.setTop (mkF m 13 #[.val (.ref a1), .val (.long q2), .second] [(.ref a1), (.long q2), (.long (cc - (q2 / pp)))]))
  obtain ⟨T105, X105, e105, st105⟩ := getF X104 hx hZ hown (host := "") (Or.inl (hw _ (List.mem_of_getElem? (i := 14) rfl))) Via.refl e104 Fp (g := (mkF m 13 #[.val (.ref a1), .val (.long q2), .second] [(.ref a1), (.long q2), (.long (cc - (q2 / pp)))])) rfl rfl (hb hby d7_13)
  refine OEnd.of st105 ?_
  show OEnd p e below _ (T105.setTop (mkF m 16 #[.val (.ref a1), .val (.long q2), .second] [(.long pp), (.long q2), (.long (cc - (q2 / pp)))]))
  refine OEnd.of (fun t k => XS.lrem X105.here hx rfl (hb hby d7_16) rfl hp k) ?_
  rw [lrem_mod]
  show OEnd p e below _ (T105.setTop (mkF m 17 #[.val (.ref a1), .val (.long q2), .second] [(.long (q2 % pp)), (.long (cc - (q2 / pp)))]))
  refine OEnd.of (fun t k => XS.lconst X105.here hx rfl (hb hby d7_17) k) ?_
  show OEnd p e below _ (T105.setTop (mkF m 18 #[.val (.ref a1), .val (.long q2), .second] [(.long (0 : Int64)), (.long (q2 % pp)), (.long (cc - (q2 / pp)))]))
  refine OEnd.of (fun t k => XS.lcmp X105.here hx rfl (hb hby d7_18) rfl k) ?_
  show OEnd p e below _ (T105.setTop (mkF m 19 #[.val (.ref a1), .val (.long q2), .second] [(.int (lcmpW (q2 % pp) (0 : Int64))), (.long (cc - (q2 / pp)))]))
  by_cases hc106 : (q2 % pp) = (0 : Int64)
  · refine OEnd.of (fun t k => XS.ifNo X105.here hx rfl (hb hby d7_19) rfl ((if0 _ _).trans (teq ((lw_eq _ _).mpr hc106)).2) k) ?_
    show OEnd p e below _ (T105.setTop (mkF m 22 #[.val (.ref a1), .val (.long q2), .second] [(.long (cc - (q2 / pp)))]))
    refine OEnd.of (fun t k => XS.iconst X105.here hx rfl (hb hby d7_22) k) ?_
    show OEnd p e below _ (T105.setTop (mkF m 23 #[.val (.ref a1), .val (.long q2), .second] [(.int (0 : Int32)), (.long (cc - (q2 / pp)))]))
    refine OEnd.of (fun t k => XS.goto X105.here hx rfl (pc0 := 23) (pc' := 27) rfl (hb hby d7_23) (by decide) (by decide) k) ?_
    show OEnd p e below _ (T105.setTop (mkF m 27 #[.val (.ref a1), .val (.long q2), .second] [(.int (0 : Int32)), (.long (cc - (q2 / pp)))]))
    refine OEnd.of (fun t k => XS.i2l X105.here hx rfl (hb hby d7_27) rfl k) ?_
    show OEnd p e below _ (T105.setTop (mkF m 28 #[.val (.ref a1), .val (.long q2), .second] [(.long ((0 : Int32).toInt64)), (.long (cc - (q2 / pp)))]))
    refine OEnd.of (fun t k => XS.lsub X105.here hx rfl (hb hby d7_28) rfl k) ?_
    show OEnd p e below _ (T105.setTop (mkF m 29 #[.val (.ref a1), .val (.long q2), .second] [(.long ((cc - (q2 / pp)) - ((0 : Int32).toInt64)))]))
    exact OEnd.retJ X105 hx hlk e105 hret (hb hby d7_29) ⟨_, rfl, N0, rfl, (by rw [if_pos hc106]; rfl)⟩ (by decide) (by decide)
  · refine OEnd.of (fun t k => XS.ifYes X105.here hx rfl (pc0 := 19) (pc' := 26) rfl (hb hby d7_19) rfl ((if0 _ _).trans (feq (fun z => hc106 ((lw_eq _ _).mp z))).2) (by decide) (by decide) k) ?_
    show OEnd p e below _ (T105.setTop (mkF m 26 #[.val (.ref a1), .val (.long q2), .second] [(.long (cc - (q2 / pp)))]))
    refine OEnd.of (fun t k => XS.iconst X105.here hx rfl (hb hby d7_26) k) ?_
    show OEnd p e below _ (T105.setTop (mkF m 27 #[.val (.ref a1), .val (.long q2), .second] [(.int (1 : Int32)), (.long (cc - (q2 / pp)))]))
    refine OEnd.of (fun t k => XS.i2l X105.here hx rfl (hb hby d7_27) rfl k) ?_
    show OEnd p e below _ (T105.setTop (mkF m 28 #[.val (.ref a1), .val (.long q2), .second] [(.long ((1 : Int32).toInt64)), (.long (cc - (q2 / pp)))]))
    refine OEnd.of (fun t k => XS.lsub X105.here hx rfl (hb hby d7_28) rfl k) ?_
    show OEnd p e below _ (T105.setTop (mkF m 29 #[.val (.ref a1), .val (.long q2), .second] [(.long ((cc - (q2 / pp)) - ((1 : Int32).toInt64)))]))
    exact OEnd.retJ X105 hx hlk e105 hret (hb hby d7_29) ⟨_, rfl, N0, rfl, (by rw [if_neg hc106]; rfl)⟩ (by decide) (by decide)
theorem own_ne0 {p : Int64} (h : 0 < p.toInt) : p ≠ 0 := fun q => by subst q; exact absurd h (by decide)
theorem own_mask (x : Int64) : (x &&& 9223372036854775807).toInt = x.toInt % 9223372036854775808 := by
  have e := Jvm.Kit.i64_mask x 9223372036854775807 (k := 63) (by decide) (by decide)
  exact e
theorem own_m2p {x xp : Int64} (h : x &&& 9223372036854775807 = xp) (hn : ¬ xp = 0) : 0 < xp.toInt := by
  have e := own_mask x
  rw [h] at e
  have q : xp.toInt ≠ 0 := fun q => hn (Int64.toInt_inj.mp (by rw [q]; rfl))
  omega
theorem own_m2r0 {p k : Int64} (hp : 0 < p.toInt) : 0 ≤ (0 : Int64).toInt ∧ (0 : Int64).toInt < p.toInt ∧ (k = 0 → (0 : Int64) = 0) := ⟨by decide, hp, fun _ => rfl⟩
theorem own_m2r {p k x r : Int64} (hp : 0 < p.toInt) (h : (x &&& 9223372036854775807) % p = r) (hk : ¬ k = 0) : 0 ≤ r.toInt ∧ r.toInt < p.toInt ∧ (k = 0 → r = 0) := by
  have er : r.toInt = (x.toInt % 9223372036854775808) % p.toInt := by
    rw [← h, Int64.toInt_mod, own_mask, Int.tmod_eq_emod_of_nonneg (Int.emod_nonneg _ (by decide))]
  exact ⟨er ▸ Int.emod_nonneg _ (by omega), er ▸ Int.emod_lt_of_pos _ hp, fun q => absurd q hk⟩
theorem own_m2k1 {x xm p : Int64} (h : x &&& 9223372036854775807 = xm) (hp : p = 1) : 0 ≤ xm.toInt ∧ xm.toInt * p.toInt ≤ 9223372036854775807 := by
  have e := own_mask x
  rw [h] at e
  subst hp
  have q : (1 : Int64).toInt = 1 := rfl
  rw [q]
  omega
theorem own_maxdiv {p b : Int64} (hp : 0 < p.toInt) (h : (9223372036854775807 : Int64) / p = b) : b.toInt = 9223372036854775807 / p.toInt := by
  rw [← h, Jvm.Kit.i64_div (by intro q; have := q.2; omega)]
  show Int.tdiv 9223372036854775807 p.toInt = _
  rw [Int.tdiv_eq_ediv_of_nonneg (by decide)]
theorem own_m2b {p b : Int64} (hp : 0 < p.toInt) (h : (9223372036854775807 : Int64) / p = b) (hn : ¬ p = 1) : 0 ≤ b.toInt ∧ (b + 1).toInt = b.toInt + 1 ∧ b.toInt * p.toInt ≤ 9223372036854775807 := by
  have e := own_maxdiv hp h
  have p2 : 2 ≤ p.toInt := by
    have : p.toInt ≠ 1 := fun q => hn (Int64.toInt_inj.mp (by rw [q]; rfl))
    omega
  have b0 : 0 ≤ b.toInt := by rw [e]; exact Int.ediv_nonneg (by decide) (by omega)
  have b1 : b.toInt * p.toInt ≤ 9223372036854775807 := by rw [e]; exact Int.ediv_mul_le _ (by omega)
  have b2 : b.toInt * 2 ≤ b.toInt * p.toInt := Int.mul_le_mul_of_nonneg_left p2 b0
  have o1 : (1 : Int64).toInt = 1 := rfl
  exact ⟨b0, by rw [Jvm.Kit.i64_add (by rw [o1]; omega) (by rw [o1]; omega), o1], b1⟩
theorem own_m2nz {p b : Int64} (hp : 0 < p.toInt) (h : (9223372036854775807 : Int64) / p = b) (hn : ¬ p = 1) : b + 1 ≠ 0 := fun q => by
  obtain ⟨h1, h2, -⟩ := own_m2b hp h hn
  rw [q] at h2
  have z : (0 : Int64).toInt = 0 := rfl
  omega
theorem own_m2k {p b x xm : Int64} (hp : 0 < p.toInt) (hm : x &&& 9223372036854775807 = xm) (h : (9223372036854775807 : Int64) / p = b) (hn : ¬ p = 1) : 0 ≤ (xm % (b + 1)).toInt ∧ (xm % (b + 1)).toInt * p.toInt ≤ 9223372036854775807 := by
  obtain ⟨h1, h2, h3⟩ := own_m2b hp h hn
  have e := own_mask x
  rw [hm] at e
  have m0 : 0 ≤ xm.toInt := by omega
  have er : (xm % (b + 1)).toInt = xm.toInt % (b.toInt + 1) := by rw [Int64.toInt_mod, h2, Int.tmod_eq_emod_of_nonneg m0]
  have r0 : 0 ≤ xm.toInt % (b.toInt + 1) := Int.emod_nonneg _ (by omega)
  have r1 : xm.toInt % (b.toInt + 1) < b.toInt + 1 := Int.emod_lt_of_pos _ (by omega)
  rw [er]
  exact ⟨r0, Int.le_trans (Int.mul_le_mul_of_nonneg_right (by omega : _ ≤ b.toInt) (by omega)) h3⟩
theorem own_m2 {c k p r : Int64} (hp : 0 < p.toInt) (hk : 0 ≤ k.toInt ∧ k.toInt * p.toInt ≤ 9223372036854775807) (hr : 0 ≤ r.toInt ∧ r.toInt < p.toInt ∧ (k = 0 → r = 0)) : c - (k * p - r) / p - (if (k * p - r) % p = 0 then 0 else 1) = c - k := by
  obtain ⟨k0, k1⟩ := hk
  obtain ⟨r0, r1, r2⟩ := hr
  have z : (0 : Int64).toInt = 0 := rfl
  have o1 : (1 : Int64).toInt = 1 := rfl
  have kp0 : 0 ≤ k.toInt * p.toInt := Int.mul_nonneg k0 (by omega)
  have em : (k * p).toInt = k.toInt * p.toInt := Jvm.Kit.i64_mul (by omega) (by omega)
  have rk : r.toInt ≤ k.toInt * p.toInt := by
    by_cases hz : k = 0
    · rw [r2 hz, z]; exact kp0
    · have : k.toInt ≠ 0 := fun q => hz (Int64.toInt_inj.mp (by rw [q]; rfl))
      have : 1 * p.toInt ≤ k.toInt * p.toInt := Int.mul_le_mul_of_nonneg_right (by omega) (by omega)
      omega
  have ed : (k * p - r).toInt = k.toInt * p.toInt - r.toInt := by rw [Jvm.Kit.i64_sub (by rw [em]; omega) (by rw [em]; omega), em]
  have d0 : 0 ≤ k.toInt * p.toInt - r.toInt := by omega
  have eq1 : ((k * p - r) / p).toInt = (k.toInt * p.toInt - r.toInt) / p.toInt := by rw [Jvm.Kit.i64_div (by intro q; have := q.2; omega), ed, Int.tdiv_eq_ediv_of_nonneg d0]
  have eq2 : ((k * p - r) % p).toInt = (k.toInt * p.toInt - r.toInt) % p.toInt := by rw [Int64.toInt_mod, ed, Int.tmod_eq_emod_of_nonneg d0]
  by_cases hz : r.toInt = 0
  · have e1 : (k * p - r) / p = k := Int64.toInt_inj.mp (by rw [eq1, hz, Int.sub_zero, Int.mul_ediv_cancel _ (by omega)])
    have e2 : (k * p - r) % p = 0 := Int64.toInt_inj.mp (by rw [eq2, hz, Int.sub_zero, Int.mul_emod_left]; rfl)
    rw [if_pos e2, e1, Int64.sub_zero]
  · have es : k.toInt * p.toInt - r.toInt = (p.toInt - r.toInt) + (k.toInt - 1) * p.toInt := by rw [Int.sub_mul]; omega
    have e1' : (k.toInt * p.toInt - r.toInt) / p.toInt = k.toInt - 1 := by
      rw [es, Int.add_mul_ediv_right _ _ (by omega), Int.ediv_eq_zero_of_lt (by omega) (by omega), Int.zero_add]
    have e2' : (k.toInt * p.toInt - r.toInt) % p.toInt = p.toInt - r.toInt := by
      rw [es, Int.add_mul_emod_self_right, Int.emod_eq_of_lt (by omega) (by omega)]
    have e2 : ¬ (k * p - r) % p = 0 := fun q => by rw [q, e2', z] at eq2; omega
    rw [if_neg e2]
    have a1 := c_lsub c ((k * p - r) / p)
    have a2 := c_lsub (c - (k * p - r) / p) 1
    have a3 := c_lsub c k
    have b1 := rng64 (c - (k * p - r) / p - 1)
    have b2 := rng64 (c - k)
    rw [eq1, e1'] at a1
    rw [o1] at a2
    exact Int64.toInt_inj.mp (by omega)

theorem pd_28JJJ29V : parseMethodDescriptor "(JJJ)V" = some ⟨[.long, .long, .long], none⟩ := by decide +kernel
theorem pn_com_example_metr_metr_PartsWholeTokensPinLaw : plainName "com/example/metr/metr/PartsWholeTokensPinLaw" = true := by first | (simp [plainName, overriddenIn]; done) | decide +kernel
theorem ef_rm0 (m : MethodId) (q0 : Int64) (q1 : Int64) (q2 : Int64) (q3 : Int64) (q4 : Int64) : entryFrame m #[(.long q0), (.long q1), (.long q2), (.long q3), (.long q4)] maxLocals = mkF m 0 #[.val (.long q0), .second, .val (.long q1), .second, .val (.long q2), .second, .val (.long q3), .second, .val (.long q4), .second, .unset, .unset, .unset, .unset, .unset, .unset, .unset, .unset, .unset, .unset, .unset, .unset, .unset, .unset, .unset, .unset, .unset] [] := by first | (simp [entryFrame, mkF, argsToLocals, Value.category, maxLocals]; done) | rfl
def Qrm0 (Z : State)  (q0 : Int64) (q1 : Int64) (q2 : Int64) (q3 : Int64) (q4 : Int64) (h0 : Heap) (v : Option Value) (h : Heap) (L : List Loc) : Prop := v = some (.int (1 : Int32)) ∧ Fr Z.heap.size L ∧ Keep h0 h []
set_option maxRecDepth 65536 in
set_option maxHeartbeats 40000000 in
theorem rm0 (l : Launch) (Z : State) (a0 : Array Value) (hw : ∀ d ∈ tables_1, d.before a0 Z = true)   (ws : List Jvm.Cond) (q0 : Int64) (q1 : Int64) (q2 : Int64) (q3 : Int64) (q4 : Int64) (h0 : Heap) (O0 : Ext Z.heap h0) :
    MetFree l x (head1 (Jvm.Cond.code x code maxLocals ret :: ws) room_1) (fun a U => a = #[(.long q0), (.long q1), (.long q2), (.long q3), (.long q4)] ∧ Z.Warmed39 U.vm ∧ U.heap = h0) (fun _ _ _ _ _ => True) (fun _ U o U' => ∃ v L, o = .returned v ∧ Qrm0 Z q0 q1 q2 q3 q4 h0 v U'.heap L ∧ FrameEnd U o U' L 16 128) := by
  refine MetFree.of_bodySF (plainFor_of_name pn_com_example_metr_metr_PartsWholeTokensPinLaw) hisR ?_
  intro p e s m args below meth c s₁ Bd hml0 hP hK
  obtain ⟨rfl, hZ, hh⟩ := hP
  have hx := Bd.exec
  have hby := Bd.bytes
  have hlk : meth.locks = false := BodyLoose.notSynchronized Bd
  have hret := Bd.returns
  have hml : c.maxLocals = 27 := hml0
  have hown : s.vm.findClass "com/example/metr/metr/PartsWholeTokensPinLaw" = some m.cls := findClass_of_methodNamed Bd.named
  have hnm := (name_of_methodNamed Bd.named Bd.method).1
  have X0 : Stand p l e room_1 s m #[(.long q0), (.long q1), (.long q2), (.long q3), (.long q4)] below meth c s₁ [] 0 0 := Stand.of_body Bd
  have e0 : s₁.heap = h0 := by rw [← hh, Bd.state]; rfl
  have N0 := Fr.nil Z.heap.size
  show OEnd p e below (GN s (Qrm0 Z q0 q1 q2 q3 q4 h0) 16 128) _
  refine OEnd.of (fun t k => castTop (ef_rm0 m q0 q1 q2 q3 q4) k) ?_
  refine OEnd.of (fun t k => XS.lloadN X0.here hx rfl (hb hby at_0) rfl k) ?_
  show OEnd p e below _ (s₁.setTop (mkF m 1 #[.val (.long q0), .second, .val (.long q1), .second, .val (.long q2), .second, .val (.long q3), .second, .val (.long q4), .second, .unset, .unset, .unset, .unset, .unset, .unset, .unset, .unset, .unset, .unset, .unset, .unset, .unset, .unset, .unset, .unset, .unset] [(.long q0)]))
  refine OEnd.of (X0.ldc2Long hx hown (mvT hZ (hw _ (List.mem_of_getElem? (i := 0) rfl))) (g := (mkF m 1 #[.val (.long q0), .second, .val (.long q1), .second, .val (.long q2), .second, .val (.long q3), .second, .val (.long q4), .second, .unset, .unset, .unset, .unset, .unset, .unset, .unset, .unset, .unset, .unset, .unset, .unset, .unset, .unset, .unset, .unset, .unset] [(.long q0)])) rfl (hb hby at_1)) ?_
  show OEnd p e below _ (s₁.setTop (mkF m 4 #[.val (.long q0), .second, .val (.long q1), .second, .val (.long q2), .second, .val (.long q3), .second, .val (.long q4), .second, .unset, .unset, .unset, .unset, .unset, .unset, .unset, .unset, .unset, .unset, .unset, .unset, .unset, .unset, .unset, .unset, .unset] [(.long (9223372036854775807 : Int64)), (.long q0)]))
  refine OEnd.of (fun t k => XS.land X0.here hx rfl (hb hby at_4) rfl k) ?_
  show OEnd p e below _ (s₁.setTop (mkF m 5 #[.val (.long q0), .second, .val (.long q1), .second, .val (.long q2), .second, .val (.long q3), .second, .val (.long q4), .second, .unset, .unset, .unset, .unset, .unset, .unset, .unset, .unset, .unset, .unset, .unset, .unset, .unset, .unset, .unset, .unset, .unset] [(.long (q0 &&& (9223372036854775807 : Int64)))]))
  refine OEnd.of (fun t k => XS.lstore X0.here hx rfl (hb hby at_5) rfl (l' := #[.val (.long q0), .second, .val (.long q1), .second, .val (.long q2), .second, .val (.long q3), .second, .val (.long q4), .second, .val (.long (q0 &&& (9223372036854775807 : Int64))), .second, .unset, .unset, .unset, .unset, .unset, .unset, .unset, .unset, .unset, .unset, .unset, .unset, .unset, .unset, .unset]) rfl k) ?_
  show OEnd p e below _ (s₁.setTop (mkF m 7 #[.val (.long q0), .second, .val (.long q1), .second, .val (.long q2), .second, .val (.long q3), .second, .val (.long q4), .second, .val (.long (q0 &&& (9223372036854775807 : Int64))), .second, .unset, .unset, .unset, .unset, .unset, .unset, .unset, .unset, .unset, .unset, .unset, .unset, .unset, .unset, .unset] []))
  refine OEnd.of (fun t k => XS.lload X0.here hx rfl (hb hby at_7) rfl k) ?_
  show OEnd p e below _ (s₁.setTop (mkF m 9 #[.val (.long q0), .second, .val (.long q1), .second, .val (.long q2), .second, .val (.long q3), .second, .val (.long q4), .second, .val (.long (q0 &&& (9223372036854775807 : Int64))), .second, .unset, .unset, .unset, .unset, .unset, .unset, .unset, .unset, .unset, .unset, .unset, .unset, .unset, .unset, .unset] [(.long (q0 &&& (9223372036854775807 : Int64)))]))
  refine OEnd.of (fun t k => XS.lconst X0.here hx rfl (hb hby at_9) k) ?_
  show OEnd p e below _ (s₁.setTop (mkF m 10 #[.val (.long q0), .second, .val (.long q1), .second, .val (.long q2), .second, .val (.long q3), .second, .val (.long q4), .second, .val (.long (q0 &&& (9223372036854775807 : Int64))), .second, .unset, .unset, .unset, .unset, .unset, .unset, .unset, .unset, .unset, .unset, .unset, .unset, .unset, .unset, .unset] [(.long (0 : Int64)), (.long (q0 &&& (9223372036854775807 : Int64)))]))
  refine OEnd.of (fun t k => XS.lcmp X0.here hx rfl (hb hby at_10) rfl k) ?_
  show OEnd p e below _ (s₁.setTop (mkF m 11 #[.val (.long q0), .second, .val (.long q1), .second, .val (.long q2), .second, .val (.long q3), .second, .val (.long q4), .second, .val (.long (q0 &&& (9223372036854775807 : Int64))), .second, .unset, .unset, .unset, .unset, .unset, .unset, .unset, .unset, .unset, .unset, .unset, .unset, .unset, .unset, .unset] [(.int (lcmpW (q0 &&& (9223372036854775807 : Int64)) (0 : Int64)))]))
  generalize q_xc107 : (q0 &&& (9223372036854775807 : Int64)) = xc107
  have J108 : ∀ (T108 : State) (Lo108 : List Loc) (c10 : Int64), Stand p l e room_1 s m #[(.long q0), (.long q1), (.long q2), (.long q3), (.long q4)] below meth c T108 Lo108 0 0 → T108.heap = h0 → Fr Z.heap.size Lo108 → OEnd p e below (GN s (Qrm0 Z q0 q1 q2 q3 q4 h0) 16 128) (T108.setTop (mkF m 17 #[.val (.long q0), .second, .val (.long q1), .second, .val (.long q2), .second, .val (.long q3), .second, .val (.long q4), .second, .val (.long c10), .second, .unset, .unset, .unset, .unset, .unset, .unset, .unset, .unset, .unset, .unset, .unset, .unset, .unset, .unset, .unset] [])) := by
    rintro T108 Lo108 c10 X108 e108 N108
    show OEnd p e below _ (T108.setTop (mkF m 17 #[.val (.long q0), .second, .val (.long q1), .second, .val (.long q2), .second, .val (.long q3), .second, .val (.long q4), .second, .val (.long c10), .second, .unset, .unset, .unset, .unset, .unset, .unset, .unset, .unset, .unset, .unset, .unset, .unset, .unset, .unset, .unset] []))
    refine OEnd.of (fun t k => XS.lloadN X108.here hx rfl (hb hby at_17) rfl k) ?_
    show OEnd p e below _ (T108.setTop (mkF m 18 #[.val (.long q0), .second, .val (.long q1), .second, .val (.long q2), .second, .val (.long q3), .second, .val (.long q4), .second, .val (.long c10), .second, .unset, .unset, .unset, .unset, .unset, .unset, .unset, .unset, .unset, .unset, .unset, .unset, .unset, .unset, .unset] [(.long q1)]))
    refine OEnd.of (X108.ldc2Long hx hown (mvT hZ (hw _ (List.mem_of_getElem? (i := 0) rfl))) (g := (mkF m 18 #[.val (.long q0), .second, .val (.long q1), .second, .val (.long q2), .second, .val (.long q3), .second, .val (.long q4), .second, .val (.long c10), .second, .unset, .unset, .unset, .unset, .unset, .unset, .unset, .unset, .unset, .unset, .unset, .unset, .unset, .unset, .unset] [(.long q1)])) rfl (hb hby at_18)) ?_
    show OEnd p e below _ (T108.setTop (mkF m 21 #[.val (.long q0), .second, .val (.long q1), .second, .val (.long q2), .second, .val (.long q3), .second, .val (.long q4), .second, .val (.long c10), .second, .unset, .unset, .unset, .unset, .unset, .unset, .unset, .unset, .unset, .unset, .unset, .unset, .unset, .unset, .unset] [(.long (9223372036854775807 : Int64)), (.long q1)]))
    refine OEnd.of (fun t k => XS.land X108.here hx rfl (hb hby at_21) rfl k) ?_
    show OEnd p e below _ (T108.setTop (mkF m 22 #[.val (.long q0), .second, .val (.long q1), .second, .val (.long q2), .second, .val (.long q3), .second, .val (.long q4), .second, .val (.long c10), .second, .unset, .unset, .unset, .unset, .unset, .unset, .unset, .unset, .unset, .unset, .unset, .unset, .unset, .unset, .unset] [(.long (q1 &&& (9223372036854775807 : Int64)))]))
    refine OEnd.of (fun t k => XS.lstore X108.here hx rfl (hb hby at_22) rfl (l' := #[.val (.long q0), .second, .val (.long q1), .second, .val (.long q2), .second, .val (.long q3), .second, .val (.long q4), .second, .val (.long c10), .second, .val (.long (q1 &&& (9223372036854775807 : Int64))), .second, .unset, .unset, .unset, .unset, .unset, .unset, .unset, .unset, .unset, .unset, .unset, .unset, .unset]) rfl k) ?_
    show OEnd p e below _ (T108.setTop (mkF m 24 #[.val (.long q0), .second, .val (.long q1), .second, .val (.long q2), .second, .val (.long q3), .second, .val (.long q4), .second, .val (.long c10), .second, .val (.long (q1 &&& (9223372036854775807 : Int64))), .second, .unset, .unset, .unset, .unset, .unset, .unset, .unset, .unset, .unset, .unset, .unset, .unset, .unset] []))
    refine OEnd.of (fun t k => XS.lload X108.here hx rfl (hb hby at_24) rfl k) ?_
    show OEnd p e below _ (T108.setTop (mkF m 26 #[.val (.long q0), .second, .val (.long q1), .second, .val (.long q2), .second, .val (.long q3), .second, .val (.long q4), .second, .val (.long c10), .second, .val (.long (q1 &&& (9223372036854775807 : Int64))), .second, .unset, .unset, .unset, .unset, .unset, .unset, .unset, .unset, .unset, .unset, .unset, .unset, .unset] [(.long (q1 &&& (9223372036854775807 : Int64)))]))
    refine OEnd.of (fun t k => XS.lconst X108.here hx rfl (hb hby at_26) k) ?_
    show OEnd p e below _ (T108.setTop (mkF m 27 #[.val (.long q0), .second, .val (.long q1), .second, .val (.long q2), .second, .val (.long q3), .second, .val (.long q4), .second, .val (.long c10), .second, .val (.long (q1 &&& (9223372036854775807 : Int64))), .second, .unset, .unset, .unset, .unset, .unset, .unset, .unset, .unset, .unset, .unset, .unset, .unset, .unset] [(.long (0 : Int64)), (.long (q1 &&& (9223372036854775807 : Int64)))]))
    refine OEnd.of (fun t k => XS.lcmp X108.here hx rfl (hb hby at_27) rfl k) ?_
    show OEnd p e below _ (T108.setTop (mkF m 28 #[.val (.long q0), .second, .val (.long q1), .second, .val (.long q2), .second, .val (.long q3), .second, .val (.long q4), .second, .val (.long c10), .second, .val (.long (q1 &&& (9223372036854775807 : Int64))), .second, .unset, .unset, .unset, .unset, .unset, .unset, .unset, .unset, .unset, .unset, .unset, .unset, .unset] [(.int (lcmpW (q1 &&& (9223372036854775807 : Int64)) (0 : Int64)))]))
    generalize q_xt109 : (q1 &&& (9223372036854775807 : Int64)) = xt109
    have J110 : ∀ (T110 : State) (Lo110 : List Loc) (t12 : Int64), Stand p l e room_1 s m #[(.long q0), (.long q1), (.long q2), (.long q3), (.long q4)] below meth c T110 Lo110 0 0 → T110.heap = h0 → Fr Z.heap.size Lo110 → (t12 ≠ 0) → OEnd p e below (GN s (Qrm0 Z q0 q1 q2 q3 q4 h0) 16 128) (T110.setTop (mkF m 34 #[.val (.long q0), .second, .val (.long q1), .second, .val (.long q2), .second, .val (.long q3), .second, .val (.long q4), .second, .val (.long c10), .second, .val (.long t12), .second, .unset, .unset, .unset, .unset, .unset, .unset, .unset, .unset, .unset, .unset, .unset, .unset, .unset] [])) := by
      rintro T110 Lo110 t12 X110 e110 N110 ht12
      show OEnd p e below _ (T110.setTop (mkF m 34 #[.val (.long q0), .second, .val (.long q1), .second, .val (.long q2), .second, .val (.long q3), .second, .val (.long q4), .second, .val (.long c10), .second, .val (.long t12), .second, .unset, .unset, .unset, .unset, .unset, .unset, .unset, .unset, .unset, .unset, .unset, .unset, .unset] []))
      refine OEnd.of (fun t k => XS.lload X110.here hx rfl (hb hby at_34) rfl k) ?_
      show OEnd p e below _ (T110.setTop (mkF m 36 #[.val (.long q0), .second, .val (.long q1), .second, .val (.long q2), .second, .val (.long q3), .second, .val (.long q4), .second, .val (.long c10), .second, .val (.long t12), .second, .unset, .unset, .unset, .unset, .unset, .unset, .unset, .unset, .unset, .unset, .unset, .unset, .unset] [(.long q2)]))
      refine OEnd.of (X110.ldc2Long hx hown (mvT hZ (hw _ (List.mem_of_getElem? (i := 0) rfl))) (g := (mkF m 36 #[.val (.long q0), .second, .val (.long q1), .second, .val (.long q2), .second, .val (.long q3), .second, .val (.long q4), .second, .val (.long c10), .second, .val (.long t12), .second, .unset, .unset, .unset, .unset, .unset, .unset, .unset, .unset, .unset, .unset, .unset, .unset, .unset] [(.long q2)])) rfl (hb hby at_36)) ?_
      show OEnd p e below _ (T110.setTop (mkF m 39 #[.val (.long q0), .second, .val (.long q1), .second, .val (.long q2), .second, .val (.long q3), .second, .val (.long q4), .second, .val (.long c10), .second, .val (.long t12), .second, .unset, .unset, .unset, .unset, .unset, .unset, .unset, .unset, .unset, .unset, .unset, .unset, .unset] [(.long (9223372036854775807 : Int64)), (.long q2)]))
      refine OEnd.of (fun t k => XS.land X110.here hx rfl (hb hby at_39) rfl k) ?_
      show OEnd p e below _ (T110.setTop (mkF m 40 #[.val (.long q0), .second, .val (.long q1), .second, .val (.long q2), .second, .val (.long q3), .second, .val (.long q4), .second, .val (.long c10), .second, .val (.long t12), .second, .unset, .unset, .unset, .unset, .unset, .unset, .unset, .unset, .unset, .unset, .unset, .unset, .unset] [(.long (q2 &&& (9223372036854775807 : Int64)))]))
      refine OEnd.of (fun t k => XS.lstore X110.here hx rfl (hb hby at_40) rfl (l' := #[.val (.long q0), .second, .val (.long q1), .second, .val (.long q2), .second, .val (.long q3), .second, .val (.long q4), .second, .val (.long c10), .second, .val (.long t12), .second, .val (.long (q2 &&& (9223372036854775807 : Int64))), .second, .unset, .unset, .unset, .unset, .unset, .unset, .unset, .unset, .unset, .unset, .unset]) rfl k) ?_
      show OEnd p e below _ (T110.setTop (mkF m 42 #[.val (.long q0), .second, .val (.long q1), .second, .val (.long q2), .second, .val (.long q3), .second, .val (.long q4), .second, .val (.long c10), .second, .val (.long t12), .second, .val (.long (q2 &&& (9223372036854775807 : Int64))), .second, .unset, .unset, .unset, .unset, .unset, .unset, .unset, .unset, .unset, .unset, .unset] []))
      refine OEnd.of (fun t k => XS.lload X110.here hx rfl (hb hby at_42) rfl k) ?_
      show OEnd p e below _ (T110.setTop (mkF m 44 #[.val (.long q0), .second, .val (.long q1), .second, .val (.long q2), .second, .val (.long q3), .second, .val (.long q4), .second, .val (.long c10), .second, .val (.long t12), .second, .val (.long (q2 &&& (9223372036854775807 : Int64))), .second, .unset, .unset, .unset, .unset, .unset, .unset, .unset, .unset, .unset, .unset, .unset] [(.long (q2 &&& (9223372036854775807 : Int64)))]))
      refine OEnd.of (fun t k => XS.lconst X110.here hx rfl (hb hby at_44) k) ?_
      show OEnd p e below _ (T110.setTop (mkF m 45 #[.val (.long q0), .second, .val (.long q1), .second, .val (.long q2), .second, .val (.long q3), .second, .val (.long q4), .second, .val (.long c10), .second, .val (.long t12), .second, .val (.long (q2 &&& (9223372036854775807 : Int64))), .second, .unset, .unset, .unset, .unset, .unset, .unset, .unset, .unset, .unset, .unset, .unset] [(.long (0 : Int64)), (.long (q2 &&& (9223372036854775807 : Int64)))]))
      refine OEnd.of (fun t k => XS.lcmp X110.here hx rfl (hb hby at_45) rfl k) ?_
      show OEnd p e below _ (T110.setTop (mkF m 46 #[.val (.long q0), .second, .val (.long q1), .second, .val (.long q2), .second, .val (.long q3), .second, .val (.long q4), .second, .val (.long c10), .second, .val (.long t12), .second, .val (.long (q2 &&& (9223372036854775807 : Int64))), .second, .unset, .unset, .unset, .unset, .unset, .unset, .unset, .unset, .unset, .unset, .unset] [(.int (lcmpW (q2 &&& (9223372036854775807 : Int64)) (0 : Int64)))]))
      generalize q_xp111 : (q2 &&& (9223372036854775807 : Int64)) = xp111
      have J112 : ∀ (T112 : State) (Lo112 : List Loc) (p14 : Int64), Stand p l e room_1 s m #[(.long q0), (.long q1), (.long q2), (.long q3), (.long q4)] below meth c T112 Lo112 0 0 → T112.heap = h0 → Fr Z.heap.size Lo112 → (0 < p14.toInt) → OEnd p e below (GN s (Qrm0 Z q0 q1 q2 q3 q4 h0) 16 128) (T112.setTop (mkF m 52 #[.val (.long q0), .second, .val (.long q1), .second, .val (.long q2), .second, .val (.long q3), .second, .val (.long q4), .second, .val (.long c10), .second, .val (.long t12), .second, .val (.long p14), .second, .unset, .unset, .unset, .unset, .unset, .unset, .unset, .unset, .unset, .unset, .unset] [])) := by
        rintro T112 Lo112 p14 X112 e112 N112 hp14
        show OEnd p e below _ (T112.setTop (mkF m 52 #[.val (.long q0), .second, .val (.long q1), .second, .val (.long q2), .second, .val (.long q3), .second, .val (.long q4), .second, .val (.long c10), .second, .val (.long t12), .second, .val (.long p14), .second, .unset, .unset, .unset, .unset, .unset, .unset, .unset, .unset, .unset, .unset, .unset] []))
        refine OEnd.of (fun t k => XS.lload X112.here hx rfl (hb hby at_52) rfl k) ?_
        show OEnd p e below _ (T112.setTop (mkF m 54 #[.val (.long q0), .second, .val (.long q1), .second, .val (.long q2), .second, .val (.long q3), .second, .val (.long q4), .second, .val (.long c10), .second, .val (.long t12), .second, .val (.long p14), .second, .unset, .unset, .unset, .unset, .unset, .unset, .unset, .unset, .unset, .unset, .unset] [(.long q3)]))
        refine OEnd.of (X112.ldc2Long hx hown (mvT hZ (hw _ (List.mem_of_getElem? (i := 0) rfl))) (g := (mkF m 54 #[.val (.long q0), .second, .val (.long q1), .second, .val (.long q2), .second, .val (.long q3), .second, .val (.long q4), .second, .val (.long c10), .second, .val (.long t12), .second, .val (.long p14), .second, .unset, .unset, .unset, .unset, .unset, .unset, .unset, .unset, .unset, .unset, .unset] [(.long q3)])) rfl (hb hby at_54)) ?_
        show OEnd p e below _ (T112.setTop (mkF m 57 #[.val (.long q0), .second, .val (.long q1), .second, .val (.long q2), .second, .val (.long q3), .second, .val (.long q4), .second, .val (.long c10), .second, .val (.long t12), .second, .val (.long p14), .second, .unset, .unset, .unset, .unset, .unset, .unset, .unset, .unset, .unset, .unset, .unset] [(.long (9223372036854775807 : Int64)), (.long q3)]))
        refine OEnd.of (fun t k => XS.land X112.here hx rfl (hb hby at_57) rfl k) ?_
        show OEnd p e below _ (T112.setTop (mkF m 58 #[.val (.long q0), .second, .val (.long q1), .second, .val (.long q2), .second, .val (.long q3), .second, .val (.long q4), .second, .val (.long c10), .second, .val (.long t12), .second, .val (.long p14), .second, .unset, .unset, .unset, .unset, .unset, .unset, .unset, .unset, .unset, .unset, .unset] [(.long (q3 &&& (9223372036854775807 : Int64)))]))
        refine OEnd.of (fun t k => XS.lstore X112.here hx rfl (hb hby at_58) rfl (l' := #[.val (.long q0), .second, .val (.long q1), .second, .val (.long q2), .second, .val (.long q3), .second, .val (.long q4), .second, .val (.long c10), .second, .val (.long t12), .second, .val (.long p14), .second, .val (.long (q3 &&& (9223372036854775807 : Int64))), .second, .unset, .unset, .unset, .unset, .unset, .unset, .unset, .unset, .unset]) rfl k) ?_
        show OEnd p e below _ (T112.setTop (mkF m 60 #[.val (.long q0), .second, .val (.long q1), .second, .val (.long q2), .second, .val (.long q3), .second, .val (.long q4), .second, .val (.long c10), .second, .val (.long t12), .second, .val (.long p14), .second, .val (.long (q3 &&& (9223372036854775807 : Int64))), .second, .unset, .unset, .unset, .unset, .unset, .unset, .unset, .unset, .unset] []))
        refine OEnd.of (X112.ldc2Long hx hown (mvT hZ (hw _ (List.mem_of_getElem? (i := 0) rfl))) (g := (mkF m 60 #[.val (.long q0), .second, .val (.long q1), .second, .val (.long q2), .second, .val (.long q3), .second, .val (.long q4), .second, .val (.long c10), .second, .val (.long t12), .second, .val (.long p14), .second, .val (.long (q3 &&& (9223372036854775807 : Int64))), .second, .unset, .unset, .unset, .unset, .unset, .unset, .unset, .unset, .unset] [])) rfl (hb hby at_60)) ?_
        show OEnd p e below _ (T112.setTop (mkF m 63 #[.val (.long q0), .second, .val (.long q1), .second, .val (.long q2), .second, .val (.long q3), .second, .val (.long q4), .second, .val (.long c10), .second, .val (.long t12), .second, .val (.long p14), .second, .val (.long (q3 &&& (9223372036854775807 : Int64))), .second, .unset, .unset, .unset, .unset, .unset, .unset, .unset, .unset, .unset] [(.long (9223372036854775807 : Int64))]))
        refine OEnd.of (fun t k => XS.lload X112.here hx rfl (hb hby at_63) rfl k) ?_
        show OEnd p e below _ (T112.setTop (mkF m 65 #[.val (.long q0), .second, .val (.long q1), .second, .val (.long q2), .second, .val (.long q3), .second, .val (.long q4), .second, .val (.long c10), .second, .val (.long t12), .second, .val (.long p14), .second, .val (.long (q3 &&& (9223372036854775807 : Int64))), .second, .unset, .unset, .unset, .unset, .unset, .unset, .unset, .unset, .unset] [(.long p14), (.long (9223372036854775807 : Int64))]))
        have hpnz : p14 ≠ 0 := own_ne0 hp14
        refine OEnd.of (fun t k => XS.ldiv X112.here hx rfl (hb hby at_65) rfl hpnz k) ?_
        show OEnd p e below _ (T112.setTop (mkF m 66 #[.val (.long q0), .second, .val (.long q1), .second, .val (.long q2), .second, .val (.long q3), .second, .val (.long q4), .second, .val (.long c10), .second, .val (.long t12), .second, .val (.long p14), .second, .val (.long (q3 &&& (9223372036854775807 : Int64))), .second, .unset, .unset, .unset, .unset, .unset, .unset, .unset, .unset, .unset] [(.long ((9223372036854775807 : Int64) / p14))]))
        refine OEnd.of (fun t k => XS.lstore X112.here hx rfl (hb hby at_66) rfl (l' := #[.val (.long q0), .second, .val (.long q1), .second, .val (.long q2), .second, .val (.long q3), .second, .val (.long q4), .second, .val (.long c10), .second, .val (.long t12), .second, .val (.long p14), .second, .val (.long (q3 &&& (9223372036854775807 : Int64))), .second, .val (.long ((9223372036854775807 : Int64) / p14)), .second, .unset, .unset, .unset, .unset, .unset, .unset, .unset]) rfl k) ?_
        show OEnd p e below _ (T112.setTop (mkF m 68 #[.val (.long q0), .second, .val (.long q1), .second, .val (.long q2), .second, .val (.long q3), .second, .val (.long q4), .second, .val (.long c10), .second, .val (.long t12), .second, .val (.long p14), .second, .val (.long (q3 &&& (9223372036854775807 : Int64))), .second, .val (.long ((9223372036854775807 : Int64) / p14)), .second, .unset, .unset, .unset, .unset, .unset, .unset, .unset] []))
        refine OEnd.of (fun t k => XS.lload X112.here hx rfl (hb hby at_68) rfl k) ?_
        show OEnd p e below _ (T112.setTop (mkF m 70 #[.val (.long q0), .second, .val (.long q1), .second, .val (.long q2), .second, .val (.long q3), .second, .val (.long q4), .second, .val (.long c10), .second, .val (.long t12), .second, .val (.long p14), .second, .val (.long (q3 &&& (9223372036854775807 : Int64))), .second, .val (.long ((9223372036854775807 : Int64) / p14)), .second, .unset, .unset, .unset, .unset, .unset, .unset, .unset] [(.long p14)]))
        refine OEnd.of (fun t k => XS.lconst X112.here hx rfl (hb hby at_70) k) ?_
        show OEnd p e below _ (T112.setTop (mkF m 71 #[.val (.long q0), .second, .val (.long q1), .second, .val (.long q2), .second, .val (.long q3), .second, .val (.long q4), .second, .val (.long c10), .second, .val (.long t12), .second, .val (.long p14), .second, .val (.long (q3 &&& (9223372036854775807 : Int64))), .second, .val (.long ((9223372036854775807 : Int64) / p14)), .second, .unset, .unset, .unset, .unset, .unset, .unset, .unset] [(.long (1 : Int64)), (.long p14)]))
        refine OEnd.of (fun t k => XS.lcmp X112.here hx rfl (hb hby at_71) rfl k) ?_
        show OEnd p e below _ (T112.setTop (mkF m 72 #[.val (.long q0), .second, .val (.long q1), .second, .val (.long q2), .second, .val (.long q3), .second, .val (.long q4), .second, .val (.long c10), .second, .val (.long t12), .second, .val (.long p14), .second, .val (.long (q3 &&& (9223372036854775807 : Int64))), .second, .val (.long ((9223372036854775807 : Int64) / p14)), .second, .unset, .unset, .unset, .unset, .unset, .unset, .unset] [(.int (lcmpW p14 (1 : Int64)))]))
        generalize q_xm113 : (q3 &&& (9223372036854775807 : Int64)) = xm113
        generalize q_xb114 : ((9223372036854775807 : Int64) / p14) = xb114
        have J115 : ∀ (T115 : State) (Lo115 : List Loc) (k20 : Int64), Stand p l e room_1 s m #[(.long q0), (.long q1), (.long q2), (.long q3), (.long q4)] below meth c T115 Lo115 0 0 → T115.heap = h0 → Fr Z.heap.size Lo115 → (0 ≤ k20.toInt ∧ k20.toInt * p14.toInt ≤ 9223372036854775807) → OEnd p e below (GN s (Qrm0 Z q0 q1 q2 q3 q4 h0) 16 128) (T115.setTop (mkF m 89 #[.val (.long q0), .second, .val (.long q1), .second, .val (.long q2), .second, .val (.long q3), .second, .val (.long q4), .second, .val (.long c10), .second, .val (.long t12), .second, .val (.long p14), .second, .val (.long xm113), .second, .val (.long xb114), .second, .val (.long k20), .second, .unset, .unset, .unset, .unset, .unset] [])) := by
          rintro T115 Lo115 k20 X115 e115 N115 hk20
          show OEnd p e below _ (T115.setTop (mkF m 89 #[.val (.long q0), .second, .val (.long q1), .second, .val (.long q2), .second, .val (.long q3), .second, .val (.long q4), .second, .val (.long c10), .second, .val (.long t12), .second, .val (.long p14), .second, .val (.long xm113), .second, .val (.long xb114), .second, .val (.long k20), .second, .unset, .unset, .unset, .unset, .unset] []))
          refine OEnd.of (fun t k => XS.lload X115.here hx rfl (hb hby at_89) rfl k) ?_
          show OEnd p e below _ (T115.setTop (mkF m 91 #[.val (.long q0), .second, .val (.long q1), .second, .val (.long q2), .second, .val (.long q3), .second, .val (.long q4), .second, .val (.long c10), .second, .val (.long t12), .second, .val (.long p14), .second, .val (.long xm113), .second, .val (.long xb114), .second, .val (.long k20), .second, .unset, .unset, .unset, .unset, .unset] [(.long q4)]))
          refine OEnd.of (X115.ldc2Long hx hown (mvT hZ (hw _ (List.mem_of_getElem? (i := 0) rfl))) (g := (mkF m 91 #[.val (.long q0), .second, .val (.long q1), .second, .val (.long q2), .second, .val (.long q3), .second, .val (.long q4), .second, .val (.long c10), .second, .val (.long t12), .second, .val (.long p14), .second, .val (.long xm113), .second, .val (.long xb114), .second, .val (.long k20), .second, .unset, .unset, .unset, .unset, .unset] [(.long q4)])) rfl (hb hby at_91)) ?_
          show OEnd p e below _ (T115.setTop (mkF m 94 #[.val (.long q0), .second, .val (.long q1), .second, .val (.long q2), .second, .val (.long q3), .second, .val (.long q4), .second, .val (.long c10), .second, .val (.long t12), .second, .val (.long p14), .second, .val (.long xm113), .second, .val (.long xb114), .second, .val (.long k20), .second, .unset, .unset, .unset, .unset, .unset] [(.long (9223372036854775807 : Int64)), (.long q4)]))
          refine OEnd.of (fun t k => XS.land X115.here hx rfl (hb hby at_94) rfl k) ?_
          show OEnd p e below _ (T115.setTop (mkF m 95 #[.val (.long q0), .second, .val (.long q1), .second, .val (.long q2), .second, .val (.long q3), .second, .val (.long q4), .second, .val (.long c10), .second, .val (.long t12), .second, .val (.long p14), .second, .val (.long xm113), .second, .val (.long xb114), .second, .val (.long k20), .second, .unset, .unset, .unset, .unset, .unset] [(.long (q4 &&& (9223372036854775807 : Int64)))]))
          refine OEnd.of (fun t k => XS.lload X115.here hx rfl (hb hby at_95) rfl k) ?_
          show OEnd p e below _ (T115.setTop (mkF m 97 #[.val (.long q0), .second, .val (.long q1), .second, .val (.long q2), .second, .val (.long q3), .second, .val (.long q4), .second, .val (.long c10), .second, .val (.long t12), .second, .val (.long p14), .second, .val (.long xm113), .second, .val (.long xb114), .second, .val (.long k20), .second, .unset, .unset, .unset, .unset, .unset] [(.long p14), (.long (q4 &&& (9223372036854775807 : Int64)))]))
          refine OEnd.of (fun t k => XS.lrem X115.here hx rfl (hb hby at_97) rfl hpnz k) ?_
          rw [lrem_mod]
          show OEnd p e below _ (T115.setTop (mkF m 98 #[.val (.long q0), .second, .val (.long q1), .second, .val (.long q2), .second, .val (.long q3), .second, .val (.long q4), .second, .val (.long c10), .second, .val (.long t12), .second, .val (.long p14), .second, .val (.long xm113), .second, .val (.long xb114), .second, .val (.long k20), .second, .unset, .unset, .unset, .unset, .unset] [(.long ((q4 &&& (9223372036854775807 : Int64)) % p14))]))
          refine OEnd.of (fun t k => XS.lstore X115.here hx rfl (hb hby at_98) rfl (l' := #[.val (.long q0), .second, .val (.long q1), .second, .val (.long q2), .second, .val (.long q3), .second, .val (.long q4), .second, .val (.long c10), .second, .val (.long t12), .second, .val (.long p14), .second, .val (.long xm113), .second, .val (.long xb114), .second, .val (.long k20), .second, .val (.long ((q4 &&& (9223372036854775807 : Int64)) % p14)), .second, .unset, .unset, .unset]) rfl k) ?_
          show OEnd p e below _ (T115.setTop (mkF m 100 #[.val (.long q0), .second, .val (.long q1), .second, .val (.long q2), .second, .val (.long q3), .second, .val (.long q4), .second, .val (.long c10), .second, .val (.long t12), .second, .val (.long p14), .second, .val (.long xm113), .second, .val (.long xb114), .second, .val (.long k20), .second, .val (.long ((q4 &&& (9223372036854775807 : Int64)) % p14)), .second, .unset, .unset, .unset] []))
          refine OEnd.of (fun t k => XS.lload X115.here hx rfl (hb hby at_100) rfl k) ?_
          show OEnd p e below _ (T115.setTop (mkF m 102 #[.val (.long q0), .second, .val (.long q1), .second, .val (.long q2), .second, .val (.long q3), .second, .val (.long q4), .second, .val (.long c10), .second, .val (.long t12), .second, .val (.long p14), .second, .val (.long xm113), .second, .val (.long xb114), .second, .val (.long k20), .second, .val (.long ((q4 &&& (9223372036854775807 : Int64)) % p14)), .second, .unset, .unset, .unset] [(.long k20)]))
          refine OEnd.of (fun t k => XS.lconst X115.here hx rfl (hb hby at_102) k) ?_
          show OEnd p e below _ (T115.setTop (mkF m 103 #[.val (.long q0), .second, .val (.long q1), .second, .val (.long q2), .second, .val (.long q3), .second, .val (.long q4), .second, .val (.long c10), .second, .val (.long t12), .second, .val (.long p14), .second, .val (.long xm113), .second, .val (.long xb114), .second, .val (.long k20), .second, .val (.long ((q4 &&& (9223372036854775807 : Int64)) % p14)), .second, .unset, .unset, .unset] [(.long (0 : Int64)), (.long k20)]))
          refine OEnd.of (fun t k => XS.lcmp X115.here hx rfl (hb hby at_103) rfl k) ?_
          show OEnd p e below _ (T115.setTop (mkF m 104 #[.val (.long q0), .second, .val (.long q1), .second, .val (.long q2), .second, .val (.long q3), .second, .val (.long q4), .second, .val (.long c10), .second, .val (.long t12), .second, .val (.long p14), .second, .val (.long xm113), .second, .val (.long xb114), .second, .val (.long k20), .second, .val (.long ((q4 &&& (9223372036854775807 : Int64)) % p14)), .second, .unset, .unset, .unset] [(.int (lcmpW k20 (0 : Int64)))]))
          generalize q_xr116 : ((q4 &&& (9223372036854775807 : Int64)) % p14) = xr116
          have J117 : ∀ (T117 : State) (Lo117 : List Loc) (r22 : Int64), Stand p l e room_1 s m #[(.long q0), (.long q1), (.long q2), (.long q3), (.long q4)] below meth c T117 Lo117 0 0 → T117.heap = h0 → Fr Z.heap.size Lo117 → (0 ≤ r22.toInt ∧ r22.toInt < p14.toInt ∧ (k20 = 0 → r22 = 0)) → OEnd p e below (GN s (Qrm0 Z q0 q1 q2 q3 q4 h0) 16 128) (T117.setTop (mkF m 110 #[.val (.long q0), .second, .val (.long q1), .second, .val (.long q2), .second, .val (.long q3), .second, .val (.long q4), .second, .val (.long c10), .second, .val (.long t12), .second, .val (.long p14), .second, .val (.long xm113), .second, .val (.long xb114), .second, .val (.long k20), .second, .val (.long r22), .second, .unset, .unset, .unset] [])) := by
            rintro T117 Lo117 r22 X117 e117 N117 hr22
            show OEnd p e below _ (T117.setTop (mkF m 110 #[.val (.long q0), .second, .val (.long q1), .second, .val (.long q2), .second, .val (.long q3), .second, .val (.long q4), .second, .val (.long c10), .second, .val (.long t12), .second, .val (.long p14), .second, .val (.long xm113), .second, .val (.long xb114), .second, .val (.long k20), .second, .val (.long r22), .second, .unset, .unset, .unset] []))
            refine OEnd.of (fun t k => XS.lload X117.here hx rfl (hb hby at_110) rfl k) ?_
            show OEnd p e below _ (T117.setTop (mkF m 112 #[.val (.long q0), .second, .val (.long q1), .second, .val (.long q2), .second, .val (.long q3), .second, .val (.long q4), .second, .val (.long c10), .second, .val (.long t12), .second, .val (.long p14), .second, .val (.long xm113), .second, .val (.long xb114), .second, .val (.long k20), .second, .val (.long r22), .second, .unset, .unset, .unset] [(.long k20)]))
            refine OEnd.of (fun t k => XS.lload X117.here hx rfl (hb hby at_112) rfl k) ?_
            show OEnd p e below _ (T117.setTop (mkF m 114 #[.val (.long q0), .second, .val (.long q1), .second, .val (.long q2), .second, .val (.long q3), .second, .val (.long q4), .second, .val (.long c10), .second, .val (.long t12), .second, .val (.long p14), .second, .val (.long xm113), .second, .val (.long xb114), .second, .val (.long k20), .second, .val (.long r22), .second, .unset, .unset, .unset] [(.long p14), (.long k20)]))
            refine OEnd.of (fun t k => XS.lmul X117.here hx rfl (hb hby at_114) rfl k) ?_
            show OEnd p e below _ (T117.setTop (mkF m 115 #[.val (.long q0), .second, .val (.long q1), .second, .val (.long q2), .second, .val (.long q3), .second, .val (.long q4), .second, .val (.long c10), .second, .val (.long t12), .second, .val (.long p14), .second, .val (.long xm113), .second, .val (.long xb114), .second, .val (.long k20), .second, .val (.long r22), .second, .unset, .unset, .unset] [(.long (k20 * p14))]))
            refine OEnd.of (fun t k => XS.lload X117.here hx rfl (hb hby at_115) rfl k) ?_
            show OEnd p e below _ (T117.setTop (mkF m 117 #[.val (.long q0), .second, .val (.long q1), .second, .val (.long q2), .second, .val (.long q3), .second, .val (.long q4), .second, .val (.long c10), .second, .val (.long t12), .second, .val (.long p14), .second, .val (.long xm113), .second, .val (.long xb114), .second, .val (.long k20), .second, .val (.long r22), .second, .unset, .unset, .unset] [(.long r22), (.long (k20 * p14))]))
            refine OEnd.of (fun t k => XS.lsub X117.here hx rfl (hb hby at_117) rfl k) ?_
            show OEnd p e below _ (T117.setTop (mkF m 118 #[.val (.long q0), .second, .val (.long q1), .second, .val (.long q2), .second, .val (.long q3), .second, .val (.long q4), .second, .val (.long c10), .second, .val (.long t12), .second, .val (.long p14), .second, .val (.long xm113), .second, .val (.long xb114), .second, .val (.long k20), .second, .val (.long r22), .second, .unset, .unset, .unset] [(.long ((k20 * p14) - r22))]))
            refine OEnd.of (fun t k => XS.lstore X117.here hx rfl (hb hby at_118) rfl (l' := #[.val (.long q0), .second, .val (.long q1), .second, .val (.long q2), .second, .val (.long q3), .second, .val (.long q4), .second, .val (.long c10), .second, .val (.long t12), .second, .val (.long p14), .second, .val (.long xm113), .second, .val (.long xb114), .second, .val (.long k20), .second, .val (.long r22), .second, .val (.long ((k20 * p14) - r22)), .second, .unset]) rfl k) ?_
            show OEnd p e below _ (T117.setTop (mkF m 120 #[.val (.long q0), .second, .val (.long q1), .second, .val (.long q2), .second, .val (.long q3), .second, .val (.long q4), .second, .val (.long c10), .second, .val (.long t12), .second, .val (.long p14), .second, .val (.long xm113), .second, .val (.long xb114), .second, .val (.long k20), .second, .val (.long r22), .second, .val (.long ((k20 * p14) - r22)), .second, .unset] []))
            obtain ⟨T118, h118, X118, e118, E118, A118, D118, -, st118⟩ := newO X117 hx hZ hown (hw _ (List.mem_of_getElem? (i := 1) rfl)) (hw _ (List.mem_of_getElem? (i := 2) rfl)) (hw _ (List.mem_of_getElem? (i := 3) rfl)) e117 (g := (mkF m 120 #[.val (.long q0), .second, .val (.long q1), .second, .val (.long q2), .second, .val (.long q3), .second, .val (.long q4), .second, .val (.long c10), .second, .val (.long t12), .second, .val (.long p14), .second, .val (.long xm113), .second, .val (.long xb114), .second, .val (.long k20), .second, .val (.long r22), .second, .val (.long ((k20 * p14) - r22)), .second, .unset] [])) rfl (hb hby at_120) (by decide) (by decide)
            obtain ⟨b118, g118⟩ : ∃ z, z = h0.size := ⟨_, rfl⟩
            rw [← g118] at A118 D118 st118
            refine OEnd.of st118 ?_
            have f118 : Z.heap.size ≤ b118 := Nat.le_trans O0.1 (Nat.le_of_eq g118.symm)
            have F119 : Fld Z h118 b118 "com/example/metr/metr/Parts" "capacity" "J" (.long (0 : Int64)) := D118 (Or.inr (hw _ (List.mem_of_getElem? (i := 11) rfl))) (ty := .long) (by decide)
            have F120 : Fld Z h118 b118 "com/example/metr/metr/Parts" "refillTokens" "J" (.long (0 : Int64)) := D118 (Or.inr (hw _ (List.mem_of_getElem? (i := 13) rfl))) (ty := .long) (by decide)
            have F121 : Fld Z h118 b118 "com/example/metr/metr/Parts" "refillPeriod" "J" (.long (0 : Int64)) := D118 (Or.inr (hw _ (List.mem_of_getElem? (i := 15) rfl))) (ty := .long) (by decide)
            have F122 : Fld Z h118 b118 "com/example/metr/metr/Parts" "capacityParts" "J" (.long (0 : Int64)) := D118 (Or.inr (hw _ (List.mem_of_getElem? (i := 27) rfl))) (ty := .long) (by decide)
            have F123 : Fld Z h118 b118 "com/example/metr/metr/Parts" "deficitBits" "I" (.int (0 : Int32)) := D118 (Or.inr (hw _ (List.mem_of_getElem? (i := 38) rfl))) (ty := .int) (by decide)
            have F124 : Fld Z h118 b118 "com/example/metr/metr/Parts" "mostElapsed" "J" (.long (0 : Int64)) := D118 (Or.inr (hw _ (List.mem_of_getElem? (i := 41) rfl))) (ty := .long) (by decide)
            show OEnd p e below _ (T118.setTop (mkF m 123 #[.val (.long q0), .second, .val (.long q1), .second, .val (.long q2), .second, .val (.long q3), .second, .val (.long q4), .second, .val (.long c10), .second, .val (.long t12), .second, .val (.long p14), .second, .val (.long xm113), .second, .val (.long xb114), .second, .val (.long k20), .second, .val (.long r22), .second, .val (.long ((k20 * p14) - r22)), .second, .unset] [(.ref b118)]))
            refine OEnd.of (fun t k => XS.dup X118.here hx rfl (hb hby at_123) rfl rfl k) ?_
            show OEnd p e below _ (T118.setTop (mkF m 124 #[.val (.long q0), .second, .val (.long q1), .second, .val (.long q2), .second, .val (.long q3), .second, .val (.long q4), .second, .val (.long c10), .second, .val (.long t12), .second, .val (.long p14), .second, .val (.long xm113), .second, .val (.long xb114), .second, .val (.long k20), .second, .val (.long r22), .second, .val (.long ((k20 * p14) - r22)), .second, .unset] [(.ref b118), (.ref b118)]))
            refine OEnd.of (fun t k => XS.lload X118.here hx rfl (hb hby at_124) rfl k) ?_
            show OEnd p e below _ (T118.setTop (mkF m 126 #[.val (.long q0), .second, .val (.long q1), .second, .val (.long q2), .second, .val (.long q3), .second, .val (.long q4), .second, .val (.long c10), .second, .val (.long t12), .second, .val (.long p14), .second, .val (.long xm113), .second, .val (.long xb114), .second, .val (.long k20), .second, .val (.long r22), .second, .val (.long ((k20 * p14) - r22)), .second, .unset] [(.long c10), (.ref b118), (.ref b118)]))
            refine OEnd.of (fun t k => XS.lload X118.here hx rfl (hb hby at_126) rfl k) ?_
            show OEnd p e below _ (T118.setTop (mkF m 128 #[.val (.long q0), .second, .val (.long q1), .second, .val (.long q2), .second, .val (.long q3), .second, .val (.long q4), .second, .val (.long c10), .second, .val (.long t12), .second, .val (.long p14), .second, .val (.long xm113), .second, .val (.long xb114), .second, .val (.long k20), .second, .val (.long r22), .second, .val (.long ((k20 * p14) - r22)), .second, .unset] [(.long t12), (.long c10), (.ref b118), (.ref b118)]))
            refine OEnd.of (fun t k => XS.lload X118.here hx rfl (hb hby at_128) rfl k) ?_
            show OEnd p e below _ (T118.setTop (mkF m 130 #[.val (.long q0), .second, .val (.long q1), .second, .val (.long q2), .second, .val (.long q3), .second, .val (.long q4), .second, .val (.long c10), .second, .val (.long t12), .second, .val (.long p14), .second, .val (.long xm113), .second, .val (.long xb114), .second, .val (.long k20), .second, .val (.long r22), .second, .val (.long ((k20 * p14) - r22)), .second, .unset] [(.long p14), (.long t12), (.long c10), (.ref b118), (.ref b118)]))
            generalize q_xd125 : ((k20 * p14) - r22) = xd125
            have K127 : Keep h0 h118 [] := ((Keep.refl h0 []).ext E118)
            have O128 : Ext Z.heap h118 := own_extKeep O0 K127 all0
            obtain ⟨_, _, ⟨T126, L126, k126, n126⟩, -, X126, ⟨Lc126, hQ126, l126, y126, z126⟩, st126⟩ := X118.specialBack hx (y := (⟨"com/example/metr/metr/Parts", "<init>", "(JJJ)V"⟩ : MethodName)) rfl hown (mvT hZ (hw _ (List.mem_of_getElem? (i := 4) rfl))) (mvT hZ (hw _ (List.mem_of_getElem? (i := 5) rfl))) (mvT hZ (hw _ (List.mem_of_getElem? (i := 6) rfl))) (by decide) (backOf (W := 1) (rm1 l Z a0 hw  [] b118 c10 t12 p14 h118 O128 A118 F119 F120 F121 F122 F123 F124 f118 ht12) hZ (hw _ (List.mem_of_getElem? (i := 6) rfl)) (hw _ (List.mem_of_getElem? (i := 3) rfl)) (by decide) (by decide)) (g := (mkF m 130 #[.val (.long q0), .second, .val (.long q1), .second, .val (.long q2), .second, .val (.long q3), .second, .val (.long q4), .second, .val (.long c10), .second, .val (.long t12), .second, .val (.long p14), .second, .val (.long xm113), .second, .val (.long xb114), .second, .val (.long k20), .second, .val (.long r22), .second, .val (.long xd125), .second, .unset] [(.long p14), (.long t12), (.long c10), (.ref b118), (.ref b118)])) rfl (by rw [hml]; rfl) (Steps.refl _) (a := b118) (argsL := [(.long c10), (.long t12), (.long p14)]) (rest := [(.ref b118)]) (lenOf pd_28JJJ29V rfl) rfl (by show 2 * 0 + _ ≤ _; exact Nat.le_of_eq rfl) (hb hby at_130) (fun _ _ => ⟨rfl, e118, (by decide : 1 + 0 ≤ _), (by decide : 6 + 0 ≤ _)⟩)
            dsimp only [Pt.U, Pt.locs, Pt.cells, Pt.slots] at X126 l126 y126 z126 st126 hQ126
            subst l126 y126 z126
            obtain ⟨h126, e126⟩ : ∃ z, T126.heap = z := ⟨_, rfl⟩
            rw [e126] at hQ126
            obtain ⟨rfl, Nq126, Kq126, E_129, Fc_130, Ft_131, Fp_132, Fm_133⟩ := hQ126
            have N134 := Fr.app N117 Nq126
            refine OEnd.of (fun t k => st126.trans k) ?_
            show OEnd p e below _ (T126.setTop (mkF m 133 #[.val (.long q0), .second, .val (.long q1), .second, .val (.long q2), .second, .val (.long q3), .second, .val (.long q4), .second, .val (.long c10), .second, .val (.long t12), .second, .val (.long p14), .second, .val (.long xm113), .second, .val (.long xb114), .second, .val (.long k20), .second, .val (.long r22), .second, .val (.long xd125), .second, .unset] [(.ref b118)]))
            refine OEnd.of (fun t k => XS.astore X126.here hx rfl (hb hby at_133) rfl rfl (l' := #[.val (.long q0), .second, .val (.long q1), .second, .val (.long q2), .second, .val (.long q3), .second, .val (.long q4), .second, .val (.long c10), .second, .val (.long t12), .second, .val (.long p14), .second, .val (.long xm113), .second, .val (.long xb114), .second, .val (.long k20), .second, .val (.long r22), .second, .val (.long xd125), .second, .val (.ref b118)]) rfl k) ?_
            show OEnd p e below _ (T126.setTop (mkF m 135 #[.val (.long q0), .second, .val (.long q1), .second, .val (.long q2), .second, .val (.long q3), .second, .val (.long q4), .second, .val (.long c10), .second, .val (.long t12), .second, .val (.long p14), .second, .val (.long xm113), .second, .val (.long xb114), .second, .val (.long k20), .second, .val (.long r22), .second, .val (.long xd125), .second, .val (.ref b118)] []))
            refine OEnd.of (fun t k => XS.aload X126.here hx rfl (hb hby at_135) rfl rfl k) ?_
            show OEnd p e below _ (T126.setTop (mkF m 137 #[.val (.long q0), .second, .val (.long q1), .second, .val (.long q2), .second, .val (.long q3), .second, .val (.long q4), .second, .val (.long c10), .second, .val (.long t12), .second, .val (.long p14), .second, .val (.long xm113), .second, .val (.long xb114), .second, .val (.long k20), .second, .val (.long r22), .second, .val (.long xd125), .second, .val (.ref b118)] [(.ref b118)]))
            refine OEnd.of (fun t k => XS.lload X126.here hx rfl (hb hby at_137) rfl k) ?_
            show OEnd p e below _ (T126.setTop (mkF m 139 #[.val (.long q0), .second, .val (.long q1), .second, .val (.long q2), .second, .val (.long q3), .second, .val (.long q4), .second, .val (.long c10), .second, .val (.long t12), .second, .val (.long p14), .second, .val (.long xm113), .second, .val (.long xb114), .second, .val (.long k20), .second, .val (.long r22), .second, .val (.long xd125), .second, .val (.ref b118)] [(.long xd125), (.ref b118)]))
            have K136 : Keep h118 h126 [b118] := ((Keep.refl h118 [b118]).trans Kq126 (allS (Or.inl (List.mem_of_getElem? (i := 0) rfl)) all0))
            have O137 : Ext Z.heap h126 := own_extKeep O128 K136 (allS f118 all0)
            obtain ⟨cq135, kq135, q135a, q135b, q135c⟩ := isOf hZ e126 E_129
            obtain ⟨_, _, ⟨T135, L135, k135, n135⟩, -, X135, ⟨Lc135, hQ135, l135, y135, z135⟩, st135⟩ := X126.virtualBack hx (y := (⟨"com/example/metr/metr/Parts", "wholeTokens", "(J)J"⟩ : MethodName)) (z := (⟨"com/example/metr/metr/Parts", "wholeTokens", "(J)J"⟩ : MethodName)) hown (mvT hZ (hw _ (List.mem_of_getElem? (i := 42) rfl))) (mvT hZ (hw _ (List.mem_of_getElem? (i := 43) rfl))) (notFace_of_selects (args := #[]) (mvT hZ (hw _ (List.mem_of_getElem? (i := 45) rfl)))) (mvT hZ (hw _ (List.mem_of_getElem? (i := 45) rfl))) (mvT hZ (hw _ (List.mem_of_getElem? (i := 44) rfl))) (by decide) (backOf (W := 0) (rm7 l Z a0 hw  [] b118 xd125 c10 p14 h126 O137 Fc_130 Fp_132 hpnz) hZ (hw _ (List.mem_of_getElem? (i := 46) rfl)) (hw _ (List.mem_of_getElem? (i := 3) rfl)) (by decide) (by decide)) q135a q135c (g := (mkF m 139 #[.val (.long q0), .second, .val (.long q1), .second, .val (.long q2), .second, .val (.long q3), .second, .val (.long q4), .second, .val (.long c10), .second, .val (.long t12), .second, .val (.long p14), .second, .val (.long xm113), .second, .val (.long xb114), .second, .val (.long k20), .second, .val (.long r22), .second, .val (.long xd125), .second, .val (.ref b118)] [(.long xd125), (.ref b118)])) rfl (by rw [hml]; rfl) (Steps.refl _) (argsL := [(.long xd125)]) (rest := []) (lenOf pd_28J29J rfl) rfl (by show 2 * 0 + _ ≤ _; exact Nat.le_of_eq rfl) (hb hby at_139) (fun _ _ => ⟨rfl, e126, (by decide : 1 + 0 ≤ _), (by decide : 6 + 0 ≤ _)⟩)
            dsimp only [Pt.U, Pt.locs, Pt.cells, Pt.slots] at X135 l135 y135 z135 st135 hQ135
            subst l135 y135 z135
            obtain ⟨r_138, rfl, Nq135, e135, hr_139⟩ := hQ135
            have N140 := Fr.app N134 Nq135
            refine OEnd.of (fun t k => st135.trans k) ?_
            show OEnd p e below _ (T135.setTop (mkF m 142 #[.val (.long q0), .second, .val (.long q1), .second, .val (.long q2), .second, .val (.long q3), .second, .val (.long q4), .second, .val (.long c10), .second, .val (.long t12), .second, .val (.long p14), .second, .val (.long xm113), .second, .val (.long xb114), .second, .val (.long k20), .second, .val (.long r22), .second, .val (.long xd125), .second, .val (.ref b118)] [(.long r_138)]))
            refine OEnd.of (fun t k => XS.lload X135.here hx rfl (hb hby at_142) rfl k) ?_
            show OEnd p e below _ (T135.setTop (mkF m 144 #[.val (.long q0), .second, .val (.long q1), .second, .val (.long q2), .second, .val (.long q3), .second, .val (.long q4), .second, .val (.long c10), .second, .val (.long t12), .second, .val (.long p14), .second, .val (.long xm113), .second, .val (.long xb114), .second, .val (.long k20), .second, .val (.long r22), .second, .val (.long xd125), .second, .val (.ref b118)] [(.long c10), (.long r_138)]))
            refine OEnd.of (fun t k => XS.lload X135.here hx rfl (hb hby at_144) rfl k) ?_
            show OEnd p e below _ (T135.setTop (mkF m 146 #[.val (.long q0), .second, .val (.long q1), .second, .val (.long q2), .second, .val (.long q3), .second, .val (.long q4), .second, .val (.long c10), .second, .val (.long t12), .second, .val (.long p14), .second, .val (.long xm113), .second, .val (.long xb114), .second, .val (.long k20), .second, .val (.long r22), .second, .val (.long xd125), .second, .val (.ref b118)] [(.long k20), (.long c10), (.long r_138)]))
            refine OEnd.of (fun t k => XS.lsub X135.here hx rfl (hb hby at_146) rfl k) ?_
            show OEnd p e below _ (T135.setTop (mkF m 147 #[.val (.long q0), .second, .val (.long q1), .second, .val (.long q2), .second, .val (.long q3), .second, .val (.long q4), .second, .val (.long c10), .second, .val (.long t12), .second, .val (.long p14), .second, .val (.long xm113), .second, .val (.long xb114), .second, .val (.long k20), .second, .val (.long r22), .second, .val (.long xd125), .second, .val (.ref b118)] [(.long (c10 - k20)), (.long r_138)]))
            refine OEnd.of (fun t k => XS.lcmp X135.here hx rfl (hb hby at_147) rfl k) ?_
            show OEnd p e below _ (T135.setTop (mkF m 148 #[.val (.long q0), .second, .val (.long q1), .second, .val (.long q2), .second, .val (.long q3), .second, .val (.long q4), .second, .val (.long c10), .second, .val (.long t12), .second, .val (.long p14), .second, .val (.long xm113), .second, .val (.long xb114), .second, .val (.long k20), .second, .val (.long r22), .second, .val (.long xd125), .second, .val (.ref b118)] [(.int (lcmpW r_138 (c10 - k20)))]))
            refine OEnd.of (fun t k => XS.ifNo X135.here hx rfl (hb hby at_148) rfl ((if0 _ _).trans (teq ((lw_eq _ _).mpr (by rw [hr_139, ← q_xd125]; exact own_m2 hp14 hk20 hr22))).2) k) ?_
            show OEnd p e below _ (T135.setTop (mkF m 151 #[.val (.long q0), .second, .val (.long q1), .second, .val (.long q2), .second, .val (.long q3), .second, .val (.long q4), .second, .val (.long c10), .second, .val (.long t12), .second, .val (.long p14), .second, .val (.long xm113), .second, .val (.long xb114), .second, .val (.long k20), .second, .val (.long r22), .second, .val (.long xd125), .second, .val (.ref b118)] []))
            refine OEnd.of (fun t k => XS.iconst X135.here hx rfl (hb hby at_151) k) ?_
            show OEnd p e below _ (T135.setTop (mkF m 152 #[.val (.long q0), .second, .val (.long q1), .second, .val (.long q2), .second, .val (.long q3), .second, .val (.long q4), .second, .val (.long c10), .second, .val (.long t12), .second, .val (.long p14), .second, .val (.long xm113), .second, .val (.long xb114), .second, .val (.long k20), .second, .val (.long r22), .second, .val (.long xd125), .second, .val (.ref b118)] [(.int (1 : Int32))]))
            refine OEnd.of (fun t k => XS.goto X135.here hx rfl (pc0 := 152) (pc' := 156) rfl (hb hby at_152) (by decide) (by decide) k) ?_
            show OEnd p e below _ (T135.setTop (mkF m 156 #[.val (.long q0), .second, .val (.long q1), .second, .val (.long q2), .second, .val (.long q3), .second, .val (.long q4), .second, .val (.long c10), .second, .val (.long t12), .second, .val (.long p14), .second, .val (.long xm113), .second, .val (.long xb114), .second, .val (.long k20), .second, .val (.long r22), .second, .val (.long xd125), .second, .val (.ref b118)] [(.int (1 : Int32))]))
            have K141 : Keep h0 h126 [] := (K127.trans Kq126 (allS (Or.inr (Nat.le_of_eq g118.symm)) all0))
            exact OEnd.retN X135 hx hlk e135 (t := .boolean) hret (by simp) (hb hby at_156) ⟨rfl, N140, K141⟩ (by decide) (by decide)
          by_cases hc142 : k20 = (0 : Int64)
          · refine OEnd.of (fun t k => XS.ifNo X115.here hx rfl (hb hby at_104) rfl ((if0 _ _).trans (teq ((lw_eq _ _).mpr hc142)).2) k) ?_
            show OEnd p e below _ (T115.setTop (mkF m 107 #[.val (.long q0), .second, .val (.long q1), .second, .val (.long q2), .second, .val (.long q3), .second, .val (.long q4), .second, .val (.long c10), .second, .val (.long t12), .second, .val (.long p14), .second, .val (.long xm113), .second, .val (.long xb114), .second, .val (.long k20), .second, .val (.long xr116), .second, .unset, .unset, .unset] []))
            refine OEnd.of (fun t k => XS.lconst X115.here hx rfl (hb hby at_107) k) ?_
            show OEnd p e below _ (T115.setTop (mkF m 108 #[.val (.long q0), .second, .val (.long q1), .second, .val (.long q2), .second, .val (.long q3), .second, .val (.long q4), .second, .val (.long c10), .second, .val (.long t12), .second, .val (.long p14), .second, .val (.long xm113), .second, .val (.long xb114), .second, .val (.long k20), .second, .val (.long xr116), .second, .unset, .unset, .unset] [(.long (0 : Int64))]))
            refine OEnd.of (fun t k => XS.lstore X115.here hx rfl (hb hby at_108) rfl (l' := #[.val (.long q0), .second, .val (.long q1), .second, .val (.long q2), .second, .val (.long q3), .second, .val (.long q4), .second, .val (.long c10), .second, .val (.long t12), .second, .val (.long p14), .second, .val (.long xm113), .second, .val (.long xb114), .second, .val (.long k20), .second, .val (.long (0 : Int64)), .second, .unset, .unset, .unset]) rfl k) ?_
            show OEnd p e below _ (T115.setTop (mkF m 110 #[.val (.long q0), .second, .val (.long q1), .second, .val (.long q2), .second, .val (.long q3), .second, .val (.long q4), .second, .val (.long c10), .second, .val (.long t12), .second, .val (.long p14), .second, .val (.long xm113), .second, .val (.long xb114), .second, .val (.long k20), .second, .val (.long (0 : Int64)), .second, .unset, .unset, .unset] []))
            exact J117 T115 _ (0 : Int64) X115 e115 N115 (own_m2r0 hp14)
          · refine OEnd.of (fun t k => XS.ifYes X115.here hx rfl (pc0 := 104) (pc' := 110) rfl (hb hby at_104) rfl ((if0 _ _).trans (feq (fun z => hc142 ((lw_eq _ _).mp z))).2) (by decide) (by decide) k) ?_
            show OEnd p e below _ (T115.setTop (mkF m 110 #[.val (.long q0), .second, .val (.long q1), .second, .val (.long q2), .second, .val (.long q3), .second, .val (.long q4), .second, .val (.long c10), .second, .val (.long t12), .second, .val (.long p14), .second, .val (.long xm113), .second, .val (.long xb114), .second, .val (.long k20), .second, .val (.long xr116), .second, .unset, .unset, .unset] []))
            exact J117 T115 _ xr116 X115 e115 N115 (own_m2r hp14 q_xr116 hc142)
        have J143 : ∀ (T143 : State) (Lo143 : List Loc) (s87 : Int64), Stand p l e room_1 s m #[(.long q0), (.long q1), (.long q2), (.long q3), (.long q4)] below meth c T143 Lo143 0 0 → T143.heap = h0 → Fr Z.heap.size Lo143 → (0 ≤ s87.toInt ∧ s87.toInt * p14.toInt ≤ 9223372036854775807) → OEnd p e below (GN s (Qrm0 Z q0 q1 q2 q3 q4 h0) 16 128) (T143.setTop (mkF m 87 #[.val (.long q0), .second, .val (.long q1), .second, .val (.long q2), .second, .val (.long q3), .second, .val (.long q4), .second, .val (.long c10), .second, .val (.long t12), .second, .val (.long p14), .second, .val (.long xm113), .second, .val (.long xb114), .second, .unset, .unset, .unset, .unset, .unset, .unset, .unset] [(.long s87)])) := by
          rintro T143 Lo143 s87 X143 e143 N143 hs87
          show OEnd p e below _ (T143.setTop (mkF m 87 #[.val (.long q0), .second, .val (.long q1), .second, .val (.long q2), .second, .val (.long q3), .second, .val (.long q4), .second, .val (.long c10), .second, .val (.long t12), .second, .val (.long p14), .second, .val (.long xm113), .second, .val (.long xb114), .second, .unset, .unset, .unset, .unset, .unset, .unset, .unset] [(.long s87)]))
          refine OEnd.of (fun t k => XS.lstore X143.here hx rfl (hb hby at_87) rfl (l' := #[.val (.long q0), .second, .val (.long q1), .second, .val (.long q2), .second, .val (.long q3), .second, .val (.long q4), .second, .val (.long c10), .second, .val (.long t12), .second, .val (.long p14), .second, .val (.long xm113), .second, .val (.long xb114), .second, .val (.long s87), .second, .unset, .unset, .unset, .unset, .unset]) rfl k) ?_
          show OEnd p e below _ (T143.setTop (mkF m 89 #[.val (.long q0), .second, .val (.long q1), .second, .val (.long q2), .second, .val (.long q3), .second, .val (.long q4), .second, .val (.long c10), .second, .val (.long t12), .second, .val (.long p14), .second, .val (.long xm113), .second, .val (.long xb114), .second, .val (.long s87), .second, .unset, .unset, .unset, .unset, .unset] []))
          exact J115 T143 _ s87 X143 e143 N143 hs87
        by_cases hc144 : p14 = (1 : Int64)
        · refine OEnd.of (fun t k => XS.ifNo X112.here hx rfl (hb hby at_72) rfl ((if0 _ _).trans (teq ((lw_eq _ _).mpr hc144)).2) k) ?_
          show OEnd p e below _ (T112.setTop (mkF m 75 #[.val (.long q0), .second, .val (.long q1), .second, .val (.long q2), .second, .val (.long q3), .second, .val (.long q4), .second, .val (.long c10), .second, .val (.long t12), .second, .val (.long p14), .second, .val (.long xm113), .second, .val (.long xb114), .second, .unset, .unset, .unset, .unset, .unset, .unset, .unset] []))
          refine OEnd.of (fun t k => XS.lload X112.here hx rfl (hb hby at_75) rfl k) ?_
          show OEnd p e below _ (T112.setTop (mkF m 77 #[.val (.long q0), .second, .val (.long q1), .second, .val (.long q2), .second, .val (.long q3), .second, .val (.long q4), .second, .val (.long c10), .second, .val (.long t12), .second, .val (.long p14), .second, .val (.long xm113), .second, .val (.long xb114), .second, .unset, .unset, .unset, .unset, .unset, .unset, .unset] [(.long xm113)]))
          refine OEnd.of (fun t k => XS.goto X112.here hx rfl (pc0 := 77) (pc' := 87) rfl (hb hby at_77) (by decide) (by decide) k) ?_
          show OEnd p e below _ (T112.setTop (mkF m 87 #[.val (.long q0), .second, .val (.long q1), .second, .val (.long q2), .second, .val (.long q3), .second, .val (.long q4), .second, .val (.long c10), .second, .val (.long t12), .second, .val (.long p14), .second, .val (.long xm113), .second, .val (.long xb114), .second, .unset, .unset, .unset, .unset, .unset, .unset, .unset] [(.long xm113)]))
          exact J143 T112 _ xm113 X112 e112 N112 (own_m2k1 q_xm113 hc144)
        · refine OEnd.of (fun t k => XS.ifYes X112.here hx rfl (pc0 := 72) (pc' := 80) rfl (hb hby at_72) rfl ((if0 _ _).trans (feq (fun z => hc144 ((lw_eq _ _).mp z))).2) (by decide) (by decide) k) ?_
          show OEnd p e below _ (T112.setTop (mkF m 80 #[.val (.long q0), .second, .val (.long q1), .second, .val (.long q2), .second, .val (.long q3), .second, .val (.long q4), .second, .val (.long c10), .second, .val (.long t12), .second, .val (.long p14), .second, .val (.long xm113), .second, .val (.long xb114), .second, .unset, .unset, .unset, .unset, .unset, .unset, .unset] []))
          refine OEnd.of (fun t k => XS.lload X112.here hx rfl (hb hby at_80) rfl k) ?_
          show OEnd p e below _ (T112.setTop (mkF m 82 #[.val (.long q0), .second, .val (.long q1), .second, .val (.long q2), .second, .val (.long q3), .second, .val (.long q4), .second, .val (.long c10), .second, .val (.long t12), .second, .val (.long p14), .second, .val (.long xm113), .second, .val (.long xb114), .second, .unset, .unset, .unset, .unset, .unset, .unset, .unset] [(.long xm113)]))
          refine OEnd.of (fun t k => XS.lload X112.here hx rfl (hb hby at_82) rfl k) ?_
          show OEnd p e below _ (T112.setTop (mkF m 84 #[.val (.long q0), .second, .val (.long q1), .second, .val (.long q2), .second, .val (.long q3), .second, .val (.long q4), .second, .val (.long c10), .second, .val (.long t12), .second, .val (.long p14), .second, .val (.long xm113), .second, .val (.long xb114), .second, .unset, .unset, .unset, .unset, .unset, .unset, .unset] [(.long xb114), (.long xm113)]))
          refine OEnd.of (fun t k => XS.lconst X112.here hx rfl (hb hby at_84) k) ?_
          show OEnd p e below _ (T112.setTop (mkF m 85 #[.val (.long q0), .second, .val (.long q1), .second, .val (.long q2), .second, .val (.long q3), .second, .val (.long q4), .second, .val (.long c10), .second, .val (.long t12), .second, .val (.long p14), .second, .val (.long xm113), .second, .val (.long xb114), .second, .unset, .unset, .unset, .unset, .unset, .unset, .unset] [(.long (1 : Int64)), (.long xb114), (.long xm113)]))
          refine OEnd.of (fun t k => XS.ladd X112.here hx rfl (hb hby at_85) rfl k) ?_
          show OEnd p e below _ (T112.setTop (mkF m 86 #[.val (.long q0), .second, .val (.long q1), .second, .val (.long q2), .second, .val (.long q3), .second, .val (.long q4), .second, .val (.long c10), .second, .val (.long t12), .second, .val (.long p14), .second, .val (.long xm113), .second, .val (.long xb114), .second, .unset, .unset, .unset, .unset, .unset, .unset, .unset] [(.long (xb114 + (1 : Int64))), (.long xm113)]))
          refine OEnd.of (fun t k => XS.lrem X112.here hx rfl (hb hby at_86) rfl (own_m2nz hp14 q_xb114 hc144) k) ?_
          rw [lrem_mod]
          show OEnd p e below _ (T112.setTop (mkF m 87 #[.val (.long q0), .second, .val (.long q1), .second, .val (.long q2), .second, .val (.long q3), .second, .val (.long q4), .second, .val (.long c10), .second, .val (.long t12), .second, .val (.long p14), .second, .val (.long xm113), .second, .val (.long xb114), .second, .unset, .unset, .unset, .unset, .unset, .unset, .unset] [(.long (xm113 % (xb114 + (1 : Int64))))]))
          exact J143 T112 _ (xm113 % (xb114 + (1 : Int64))) X112 e112 N112 (own_m2k hp14 q_xm113 q_xb114 hc144)
      by_cases hc145 : xp111 = (0 : Int64)
      · refine OEnd.of (fun t k => XS.ifNo X110.here hx rfl (hb hby at_46) rfl ((if0 _ _).trans (teq ((lw_eq _ _).mpr hc145)).2) k) ?_
        show OEnd p e below _ (T110.setTop (mkF m 49 #[.val (.long q0), .second, .val (.long q1), .second, .val (.long q2), .second, .val (.long q3), .second, .val (.long q4), .second, .val (.long c10), .second, .val (.long t12), .second, .val (.long xp111), .second, .unset, .unset, .unset, .unset, .unset, .unset, .unset, .unset, .unset, .unset, .unset] []))
        refine OEnd.of (fun t k => XS.lconst X110.here hx rfl (hb hby at_49) k) ?_
        show OEnd p e below _ (T110.setTop (mkF m 50 #[.val (.long q0), .second, .val (.long q1), .second, .val (.long q2), .second, .val (.long q3), .second, .val (.long q4), .second, .val (.long c10), .second, .val (.long t12), .second, .val (.long xp111), .second, .unset, .unset, .unset, .unset, .unset, .unset, .unset, .unset, .unset, .unset, .unset] [(.long (1 : Int64))]))
        refine OEnd.of (fun t k => XS.lstore X110.here hx rfl (hb hby at_50) rfl (l' := #[.val (.long q0), .second, .val (.long q1), .second, .val (.long q2), .second, .val (.long q3), .second, .val (.long q4), .second, .val (.long c10), .second, .val (.long t12), .second, .val (.long (1 : Int64)), .second, .unset, .unset, .unset, .unset, .unset, .unset, .unset, .unset, .unset, .unset, .unset]) rfl k) ?_
        show OEnd p e below _ (T110.setTop (mkF m 52 #[.val (.long q0), .second, .val (.long q1), .second, .val (.long q2), .second, .val (.long q3), .second, .val (.long q4), .second, .val (.long c10), .second, .val (.long t12), .second, .val (.long (1 : Int64)), .second, .unset, .unset, .unset, .unset, .unset, .unset, .unset, .unset, .unset, .unset, .unset] []))
        exact J112 T110 _ (1 : Int64) X110 e110 N110 (by decide)
      · refine OEnd.of (fun t k => XS.ifYes X110.here hx rfl (pc0 := 46) (pc' := 52) rfl (hb hby at_46) rfl ((if0 _ _).trans (feq (fun z => hc145 ((lw_eq _ _).mp z))).2) (by decide) (by decide) k) ?_
        show OEnd p e below _ (T110.setTop (mkF m 52 #[.val (.long q0), .second, .val (.long q1), .second, .val (.long q2), .second, .val (.long q3), .second, .val (.long q4), .second, .val (.long c10), .second, .val (.long t12), .second, .val (.long xp111), .second, .unset, .unset, .unset, .unset, .unset, .unset, .unset, .unset, .unset, .unset, .unset] []))
        exact J112 T110 _ xp111 X110 e110 N110 (own_m2p q_xp111 hc145)
    by_cases hc146 : xt109 = (0 : Int64)
    · refine OEnd.of (fun t k => XS.ifNo X108.here hx rfl (hb hby at_28) rfl ((if0 _ _).trans (teq ((lw_eq _ _).mpr hc146)).2) k) ?_
      show OEnd p e below _ (T108.setTop (mkF m 31 #[.val (.long q0), .second, .val (.long q1), .second, .val (.long q2), .second, .val (.long q3), .second, .val (.long q4), .second, .val (.long c10), .second, .val (.long xt109), .second, .unset, .unset, .unset, .unset, .unset, .unset, .unset, .unset, .unset, .unset, .unset, .unset, .unset] []))
      refine OEnd.of (fun t k => XS.lconst X108.here hx rfl (hb hby at_31) k) ?_
      show OEnd p e below _ (T108.setTop (mkF m 32 #[.val (.long q0), .second, .val (.long q1), .second, .val (.long q2), .second, .val (.long q3), .second, .val (.long q4), .second, .val (.long c10), .second, .val (.long xt109), .second, .unset, .unset, .unset, .unset, .unset, .unset, .unset, .unset, .unset, .unset, .unset, .unset, .unset] [(.long (1 : Int64))]))
      refine OEnd.of (fun t k => XS.lstore X108.here hx rfl (hb hby at_32) rfl (l' := #[.val (.long q0), .second, .val (.long q1), .second, .val (.long q2), .second, .val (.long q3), .second, .val (.long q4), .second, .val (.long c10), .second, .val (.long (1 : Int64)), .second, .unset, .unset, .unset, .unset, .unset, .unset, .unset, .unset, .unset, .unset, .unset, .unset, .unset]) rfl k) ?_
      show OEnd p e below _ (T108.setTop (mkF m 34 #[.val (.long q0), .second, .val (.long q1), .second, .val (.long q2), .second, .val (.long q3), .second, .val (.long q4), .second, .val (.long c10), .second, .val (.long (1 : Int64)), .second, .unset, .unset, .unset, .unset, .unset, .unset, .unset, .unset, .unset, .unset, .unset, .unset, .unset] []))
      exact J110 T108 _ (1 : Int64) X108 e108 N108 (by decide)
    · refine OEnd.of (fun t k => XS.ifYes X108.here hx rfl (pc0 := 28) (pc' := 34) rfl (hb hby at_28) rfl ((if0 _ _).trans (feq (fun z => hc146 ((lw_eq _ _).mp z))).2) (by decide) (by decide) k) ?_
      show OEnd p e below _ (T108.setTop (mkF m 34 #[.val (.long q0), .second, .val (.long q1), .second, .val (.long q2), .second, .val (.long q3), .second, .val (.long q4), .second, .val (.long c10), .second, .val (.long xt109), .second, .unset, .unset, .unset, .unset, .unset, .unset, .unset, .unset, .unset, .unset, .unset, .unset, .unset] []))
      exact J110 T108 _ xt109 X108 e108 N108 hc146
  by_cases hc147 : xc107 = (0 : Int64)
  · refine OEnd.of (fun t k => XS.ifNo X0.here hx rfl (hb hby at_11) rfl ((if0 _ _).trans (teq ((lw_eq _ _).mpr hc147)).2) k) ?_
    show OEnd p e below _ (s₁.setTop (mkF m 14 #[.val (.long q0), .second, .val (.long q1), .second, .val (.long q2), .second, .val (.long q3), .second, .val (.long q4), .second, .val (.long xc107), .second, .unset, .unset, .unset, .unset, .unset, .unset, .unset, .unset, .unset, .unset, .unset, .unset, .unset, .unset, .unset] []))
    refine OEnd.of (fun t k => XS.lconst X0.here hx rfl (hb hby at_14) k) ?_
    show OEnd p e below _ (s₁.setTop (mkF m 15 #[.val (.long q0), .second, .val (.long q1), .second, .val (.long q2), .second, .val (.long q3), .second, .val (.long q4), .second, .val (.long xc107), .second, .unset, .unset, .unset, .unset, .unset, .unset, .unset, .unset, .unset, .unset, .unset, .unset, .unset, .unset, .unset] [(.long (1 : Int64))]))
    refine OEnd.of (fun t k => XS.lstore X0.here hx rfl (hb hby at_15) rfl (l' := #[.val (.long q0), .second, .val (.long q1), .second, .val (.long q2), .second, .val (.long q3), .second, .val (.long q4), .second, .val (.long (1 : Int64)), .second, .unset, .unset, .unset, .unset, .unset, .unset, .unset, .unset, .unset, .unset, .unset, .unset, .unset, .unset, .unset]) rfl k) ?_
    show OEnd p e below _ (s₁.setTop (mkF m 17 #[.val (.long q0), .second, .val (.long q1), .second, .val (.long q2), .second, .val (.long q3), .second, .val (.long q4), .second, .val (.long (1 : Int64)), .second, .unset, .unset, .unset, .unset, .unset, .unset, .unset, .unset, .unset, .unset, .unset, .unset, .unset, .unset, .unset] []))
    exact J108 s₁ _ (1 : Int64) X0 e0 N0
  · refine OEnd.of (fun t k => XS.ifYes X0.here hx rfl (pc0 := 11) (pc' := 17) rfl (hb hby at_11) rfl ((if0 _ _).trans (feq (fun z => hc147 ((lw_eq _ _).mp z))).2) (by decide) (by decide) k) ?_
    show OEnd p e below _ (s₁.setTop (mkF m 17 #[.val (.long q0), .second, .val (.long q1), .second, .val (.long q2), .second, .val (.long q3), .second, .val (.long q4), .second, .val (.long xc107), .second, .unset, .unset, .unset, .unset, .unset, .unset, .unset, .unset, .unset, .unset, .unset, .unset, .unset, .unset, .unset] []))
    exact J108 s₁ _ xc107 X0 e0 N0
set_option maxRecDepth 65536 in
set_option maxHeartbeats 40000000 in
theorem comes_1 {Post : Tables → Env → Array Value → State → Outcome → State → Prop} (hpost : ∀ tb e args s v u, (limb_1_1.after args s (.returned v) u = true ∧ limb_1_2.after args s (.returned v) u = true ∧ True) → FrameEnd s (.returned v) u (Jvm.fieldLocs frame_1_writes args s ++ Jvm.arrayLocs frame_1_arrays args s ++ Jvm.staticLocs frame_1_statics s) 16 128 → Post tb e args s (.returned v) u) :
    ArmFor flags0 classFile x code maxLocals ret World_1 tables_1 room_1 Calls_1 rest_1 Pre_1 Post := by
  intro l hfl _ _ p e ha hc hk s m args below hf hA hF happ hP
  obtain ⟨hcalls, hrest, hpre⟩ := hP
  obtain ⟨-, -, -, hnamed, -, -, -, hat⟩ := (Spec.applies_iff hf).mp happ
  obtain ⟨hg, hn⟩ := and_e (Cond.before_iff.mp (show (Jvm.Cond.and given_1 narrow_1).before args s = true from hpre))
  obtain ⟨hcnt, hg0⟩ := and_e hg
  obtain ⟨ga0, hg1⟩ := and_e hg0
  obtain ⟨ga1, hg2⟩ := and_e hg1
  obtain ⟨ga2, hg3⟩ := and_e hg2
  obtain ⟨ga3, hg4⟩ := and_e hg3
  have ga4 := hg4
  obtain ⟨w0, w1, w2, w3, w4, rfl⟩ : ∃ w0 w1 w2 w3 w4 : Value, args = #[w0, w1, w2, w3, w4] := by
    have hs : args.size = 5 := by simpa [Cond.value, given_1] using hcnt
    obtain ⟨L⟩ := args
    match L, hs with
    | [w0, w1, w2, w3, w4], _ => exact ⟨w0, w1, w2, w3, w4, rfl⟩
  have hw := fun d (hd : d ∈ tables_1) => atoms_spec (ws := Jvm.Cond.code x code maxLocals ret :: tables_1) hat d (List.mem_cons_of_mem _ hd)
  have hfit : Fit s := fun {y c} hc i hi => by
    obtain ⟨ha, rfl⟩ := Array.getElem?_eq_some_iff.mp hc
    have q := List.all_eq_true.mp ((Array.all_eq_true_iff_forall_mem.mp hF) _ (Array.getElem_mem ha)) i (List.mem_range.mpr hi)
    simpa [Array.getElem?_eq_getElem hi] using q
  obtain ⟨i0, ei0⟩ := isL_v ga0
  obtain rfl : w0 = (.long i0) := Option.some.inj ei0
  obtain ⟨i1, ei1⟩ := isL_v ga1
  obtain rfl : w1 = (.long i1) := Option.some.inj ei1
  obtain ⟨i2, ei2⟩ := isL_v ga2
  obtain rfl : w2 = (.long i2) := Option.some.inj ei2
  obtain ⟨i3, ei3⟩ := isL_v ga3
  obtain rfl : w3 = (.long i3) := Option.some.inj ei3
  obtain ⟨i4, ei4⟩ := isL_v ga4
  obtain rfl : w4 = (.long i4) := Option.some.inj ei4
  obtain ⟨n, o, h1, h2, h3, _, L, rfl, ⟨rfl, N, -⟩, hq⟩ := rm0 l s _ hw  tables_1 i0 i1 i2 i3 i4  s.heap ⟨Nat.le_refl _, fun _ _ q => q⟩  p e ha hc hk s m _ below hf ((Spec.applies_iff_loose hf).mp happ).1 ⟨rfl, State.Warmed39.refl s, rfl⟩ trivial
  refine ⟨n, _, h1, h2, h3, hpost _ _ _ _ _ _ ⟨Cond.after_iff.mpr rfl, Cond.after_iff.mpr (eq_i res_at (Term.int_eval (1)) rfl), trivial⟩ ⟨hq.1, hq.2.1, (hq.2.2.sift fun y hy => Or.inr (N y hy)).mono (by decide) (by decide)⟩⟩
theorem main_1_1 : Claimed_1_1 := comes_1 fun _ _ _ _ _ _ h hF => ⟨h.1, hF⟩
theorem main_1_2 : Claimed_1_2 := comes_1 fun _ _ _ _ _ _ h hF => ⟨h.2.1, hF⟩
end Jvm.Pilot.@@N@@
namespace Jvm.Pilot.@@N@@
open Jvm Jvm.ClassFile Sem Op Lib Jvm.Free Jvm.Stand Jvm.Pilot.@@N@@.Jvm.D
/-! MADE BY PROGRAM (witnessworld.py) out of the Statement's table words and the real class files: 16 classes; the members and pool entries that the words name. The judged class is class 1, her method 1. -/
namespace start1
open Jvm.ClassFile
def u (s : String) : CpInfo := .utf8 (stringToUtf16 s)
/-- a pool by its gaps: so many unusable entries, then the entry; so many at the end -/
def gap : Nat → List CpInfo → List CpInfo
  | 0, r => r
  | n + 1, r => .unusable :: gap n r
def poolList (es : List (Nat × CpInfo)) (last : Nat) : List CpInfo := es.foldr (fun e r => gap e.1 (e.2 :: r)) (gap last [])
def pool (es : List (Nat × CpInfo)) (last : Nat) : Array CpInfo := ⟨poolList es last⟩
def fileOf (pool : Array CpInfo) (this : Nat) (attrs : Array Attribute := #[]) (ms : Array MethodInfo := #[]) (fl : Nat := 33) (sup : Nat := 0) (ifs : Array Nat := #[]) (fds : Array FieldInfo := #[]) : ClassFile where
  minorVersion := 0
  majorVersion := 65
  constantPool := pool
  accessFlags := fl
  thisClass := this
  superClass := sup
  interfaces := ifs
  fields := fds
  methods := ms
  attributes := attrs
def plain (name : String) (sup : Option ClassId) : Class where
  name := name
  kind := .ordinary
  loader := none
  accessFlags := 33
  super := sup
  interfaces := #[]
  cf := none
  fields := #[]
  methods := #[]
  instanceTypes := #[]
  staticTypes := #[]
  resolved := #[]
  callSites := []
  init := .initialized
  statics := none
  mirror := none

def pool0 : Array CpInfo := pool [(5, u "<init>"), (0, u "()V"), (1, .class_ 10), (1, u "java/lang/Object")] 113

def k0c0 : Code := { maxStack := 0, maxLocals := 1, code := object_method_1_code, exceptionTable := #[], attributes := #[] }
def k0m0 : Method := { name := "<init>", desc := "()V", sig := { parameters := [], returnType := none }, accessFlags := 1, code := some k0c0 }
/-- java/lang/Object -/
def k0 : Class := { plain "java/lang/Object" none with
  accessFlags := 33
  interfaces := #[]
  cf := some (fileOf pool0 8 #[] #[{ accessFlags := 1, nameIndex := 5, descriptorIndex := 6, attributes := #[] }] 33 0 #[] #[])
  fields := #[]
  methods := #[k0m0]
  instanceTypes := #[]
  staticTypes := #[]
  resolved := Array.replicate 124 none
  statics := none }

def pool1 : Array CpInfo := pool [(2, .class_ 4), (1, u "java/lang/Object"), (0, u "<init>"), (0, u "()V"), (2, .long 9223372036854775807), (1, .class_ 12), (0, u "com/example/metr/metr/Parts"), (0, .methodref 11 14), (0, .nameAndType 5 15), (0, u "(JJJ)V"), (0, .methodref 11 17), (0, .nameAndType 18 19), (0, u "wholeTokens"), (0, u "(J)J"), (0, .class_ 21), (0, u "com/example/metr/metr/PartsWholeTokensPinLaw"), (2, u "law"), (0, u "(JJJJJ)Z")] 3

def k1m0 : Method := { name := "<init>", desc := "()V", sig := { parameters := [], returnType := none }, accessFlags := 1, code := none }
def k1c1 : Code := { maxStack := 8, maxLocals := 27, code := code, exceptionTable := #[], attributes := #[] }
def k1m1 : Method := { name := "law", desc := "(JJJJJ)Z", sig := { parameters := [.long, .long, .long, .long, .long], returnType := some .boolean }, accessFlags := 9, code := some k1c1 }
/-- com/example/metr/metr/PartsWholeTokensPinLaw -/
def k1 : Class := { plain "com/example/metr/metr/PartsWholeTokensPinLaw" (some 0) with
  accessFlags := 49
  interfaces := #[]
  cf := some (fileOf pool1 20 #[] #[{ accessFlags := 1, nameIndex := 5, descriptorIndex := 6, attributes := #[] }, { accessFlags := 9, nameIndex := 24, descriptorIndex := 25, attributes := #[] }] 49 2 #[] #[])
  fields := #[]
  methods := #[k1m0, k1m1]
  instanceTypes := #[]
  staticTypes := #[]
  resolved := Array.replicate 29 none
  statics := none }

def pool2 : Array CpInfo := pool [(1, .methodref 2 3), (0, .class_ 4), (0, .nameAndType 5 6), (0, u "java/lang/Object"), (0, u "<init>"), (0, u "()V"), (0, .fieldref 8 9), (0, .class_ 10), (0, .nameAndType 11 12), (0, u "com/example/metr/metr/Parts"), (0, u "capacity"), (0, u "J"), (0, .fieldref 8 14), (0, .nameAndType 15 12), (0, u "refillTokens"), (0, .fieldref 8 17), (0, .nameAndType 18 12), (0, u "refillPeriod"), (0, .methodref 8 20), (0, .nameAndType 21 22), (0, u "parts"), (0, u "(J)J"), (0, .fieldref 8 24), (0, .nameAndType 25 12), (0, u "capacityParts"), (0, .class_ 27), (0, u "java/lang/Long"), (0, .methodref 26 29), (0, .nameAndType 30 31), (0, u "numberOfLeadingZeros"), (0, u "(J)I"), (0, .fieldref 8 33), (0, .nameAndType 34 35), (0, u "deficitBits"), (0, u "I"), (0, .long 9223372036854775807), (1, .fieldref 8 39), (0, .nameAndType 40 12), (0, u "mostElapsed"), (0, .methodref 42 43), (0, .class_ 44), (0, .nameAndType 45 46), (0, u "java/lang/Math"), (0, u "multiplyHigh"), (0, u "(JJ)J"), (0, .long 18446744073709551615), (1, u "(JJJ)V"), (5, u "wholeTokens")] 4

def k2c0 : Code := { maxStack := 5, maxLocals := 7, code := prog_25_method_1_code, exceptionTable := #[], attributes := #[] }
def k2m0 : Method := { name := "<init>", desc := "(JJJ)V", sig := { parameters := [.long, .long, .long], returnType := none }, accessFlags := 0, code := some k2c0 }
def k2c1 : Code := { maxStack := 4, maxLocals := 3, code := prog_25_method_7_code, exceptionTable := #[], attributes := #[] }
def k2m1 : Method := { name := "parts", desc := "(J)J", sig := { parameters := [.long], returnType := some .long }, accessFlags := 0, code := some k2c1 }
def k2c2 : Code := { maxStack := 6, maxLocals := 3, code := prog_25_method_9_code, exceptionTable := #[], attributes := #[] }
def k2m2 : Method := { name := "wholeTokens", desc := "(J)J", sig := { parameters := [.long], returnType := some .long }, accessFlags := 0, code := some k2c2 }
/-- com/example/metr/metr/Parts -/
def k2 : Class := { plain "com/example/metr/metr/Parts" (some 0) with
  accessFlags := 32
  interfaces := #[]
  cf := some (fileOf pool2 8 #[] #[{ accessFlags := 0, nameIndex := 5, descriptorIndex := 49, attributes := #[] }, { accessFlags := 0, nameIndex := 21, descriptorIndex := 22, attributes := #[] }, { accessFlags := 0, nameIndex := 55, descriptorIndex := 22, attributes := #[] }] 32 2 #[] #[{ accessFlags := 18, nameIndex := 11, descriptorIndex := 12, attributes := #[] }, { accessFlags := 18, nameIndex := 15, descriptorIndex := 12, attributes := #[] }, { accessFlags := 18, nameIndex := 18, descriptorIndex := 12, attributes := #[] }, { accessFlags := 18, nameIndex := 25, descriptorIndex := 12, attributes := #[] }, { accessFlags := 18, nameIndex := 34, descriptorIndex := 35, attributes := #[] }, { accessFlags := 18, nameIndex := 40, descriptorIndex := 12, attributes := #[] }])
  fields := #[{ name := "capacity", type := .long, accessFlags := 18, slot := 0, constantValue := 0 }, { name := "refillTokens", type := .long, accessFlags := 18, slot := 1, constantValue := 0 }, { name := "refillPeriod", type := .long, accessFlags := 18, slot := 2, constantValue := 0 }, { name := "capacityParts", type := .long, accessFlags := 18, slot := 3, constantValue := 0 }, { name := "deficitBits", type := .int, accessFlags := 18, slot := 4, constantValue := 0 }, { name := "mostElapsed", type := .long, accessFlags := 18, slot := 5, constantValue := 0 }]
  methods := #[k2m0, k2m1, k2m2]
  instanceTypes := #[.long, .long, .long, .long, .int, .long]
  staticTypes := #[]
  resolved := Array.replicate 60 none
  statics := none }

def pool3 : Array CpInfo := pool [(1, .class_ 2), (0, u "java/lang/Math"), (1, .class_ 6), (1, u "java/lang/Object"), (0, u "<init>"), (0, u "()V"), (89, .class_ 100), (1, u "java/lang/Math$RandomNumberGeneratorHolder"), (20, u "(JJ)J"), (16, .long 4294967295), (3, u "multiplyHigh"), (29, u "negativeZeroFloatBits"), (0, u "J"), (2, u "negativeZeroDoubleBits"), (68, u "$assertionsDisabled"), (0, u "Z"), (91, u "twoToTheDoubleScaleDown"), (0, u "D"), (4, u "twoToTheDoubleScaleUp"), (9, u "E"), (3, u "PI"), (2, u "TAU"), (2, u "DEGREES_TO_RADIANS"), (0, u "RADIANS_TO_DEGREES")] 94

def k3m0 : Method := { name := "<init>", desc := "()V", sig := { parameters := [], returnType := none }, accessFlags := 2, code := none }
def k3c1 : Code := { maxStack := 6, maxLocals := 20, code := jdk_29_method_45_code, exceptionTable := #[], attributes := #[] }
def k3m1 : Method := { name := "multiplyHigh", desc := "(JJ)J", sig := { parameters := [.long, .long], returnType := some .long }, accessFlags := 9, code := some k3c1 }
/-- java/lang/Math -/
def k3 : Class := { plain "java/lang/Math" (some 0) with
  accessFlags := 49
  interfaces := #[]
  cf := some (fileOf pool3 1 #[.nestMembers #[98]] #[{ accessFlags := 2, nameIndex := 7, descriptorIndex := 8, attributes := #[] }, { accessFlags := 9, nameIndex := 142, descriptorIndex := 121, attributes := #[] }] 49 4 #[] #[{ accessFlags := 25, nameIndex := 354, descriptorIndex := 339, attributes := #[] }, { accessFlags := 25, nameIndex := 358, descriptorIndex := 339, attributes := #[] }, { accessFlags := 25, nameIndex := 361, descriptorIndex := 339, attributes := #[] }, { accessFlags := 26, nameIndex := 364, descriptorIndex := 339, attributes := #[] }, { accessFlags := 26, nameIndex := 365, descriptorIndex := 339, attributes := #[] }, { accessFlags := 26, nameIndex := 172, descriptorIndex := 173, attributes := #[] }, { accessFlags := 26, nameIndex := 176, descriptorIndex := 173, attributes := #[] }, { accessFlags := 8, nameIndex := 344, descriptorIndex := 339, attributes := #[] }, { accessFlags := 8, nameIndex := 338, descriptorIndex := 339, attributes := #[] }, { accessFlags := 4120, nameIndex := 245, descriptorIndex := 246, attributes := #[] }])
  fields := #[{ name := "E", type := .double, accessFlags := 25, slot := 0, constantValue := 0 }, { name := "PI", type := .double, accessFlags := 25, slot := 1, constantValue := 0 }, { name := "TAU", type := .double, accessFlags := 25, slot := 2, constantValue := 0 }, { name := "DEGREES_TO_RADIANS", type := .double, accessFlags := 26, slot := 3, constantValue := 0 }, { name := "RADIANS_TO_DEGREES", type := .double, accessFlags := 26, slot := 4, constantValue := 0 }, { name := "negativeZeroFloatBits", type := .long, accessFlags := 26, slot := 5, constantValue := 0 }, { name := "negativeZeroDoubleBits", type := .long, accessFlags := 26, slot := 6, constantValue := 0 }, { name := "twoToTheDoubleScaleUp", type := .double, accessFlags := 8, slot := 7, constantValue := 0 }, { name := "twoToTheDoubleScaleDown", type := .double, accessFlags := 8, slot := 8, constantValue := 0 }, { name := "$assertionsDisabled", type := .boolean, accessFlags := 4120, slot := 9, constantValue := 0 }]
  methods := #[k3m0, k3m1]
  instanceTypes := #[]
  staticTypes := #[.double, .double, .double, .double, .double, .long, .long, .double, .double, .boolean]
  resolved := Array.replicate 460 none
  statics := none }

def pool4 : Array CpInfo := pool [(1, .class_ 2), (0, u "java/io/Serializable"), (0, .class_ 4), (0, u "java/lang/Object")] 2

/-- java/io/Serializable -/
def k4 : Class := { plain "java/io/Serializable" (some 0) with
  accessFlags := 1537
  interfaces := #[]
  cf := some (fileOf pool4 1 #[] #[] 1537 3 #[] #[])
  fields := #[]
  methods := #[]
  instanceTypes := #[]
  staticTypes := #[]
  resolved := Array.replicate 7 none
  statics := none }

def pool5 : Array CpInfo := pool [(2, .class_ 4), (1, u "java/lang/Object"), (0, u "<init>"), (0, u "()V"), (1, .class_ 10), (1, u "java/lang/Number"), (2, .class_ 14), (0, u "java/io/Serializable"), (0, u "serialVersionUID"), (0, u "J")] 20

def k5m0 : Method := { name := "<init>", desc := "()V", sig := { parameters := [], returnType := none }, accessFlags := 1, code := none }
/-- java/lang/Number -/
def k5 : Class := { plain "java/lang/Number" (some 0) with
  accessFlags := 1057
  interfaces := #[4]
  cf := some (fileOf pool5 8 #[] #[{ accessFlags := 1, nameIndex := 5, descriptorIndex := 6, attributes := #[] }] 1057 2 #[13] #[{ accessFlags := 26, nameIndex := 15, descriptorIndex := 16, attributes := #[] }])
  fields := #[{ name := "serialVersionUID", type := .long, accessFlags := 26, slot := 0, constantValue := 0 }]
  methods := #[k5m0]
  instanceTypes := #[]
  staticTypes := #[.long]
  resolved := Array.replicate 37 none
  statics := none }

def pool6 : Array CpInfo := pool [(1, .class_ 2), (0, u "java/lang/Comparable"), (0, .class_ 4), (0, u "java/lang/Object")] 7

/-- java/lang/Comparable -/
def k6 : Class := { plain "java/lang/Comparable" (some 0) with
  accessFlags := 1537
  interfaces := #[]
  cf := some (fileOf pool6 1 #[] #[] 1537 3 #[] #[])
  fields := #[]
  methods := #[]
  instanceTypes := #[]
  staticTypes := #[]
  resolved := Array.replicate 12 none
  statics := none }

def pool7 : Array CpInfo := pool [(1, .class_ 2), (0, u "java/lang/constant/Constable"), (0, .class_ 4), (0, u "java/lang/Object")] 6

/-- java/lang/constant/Constable -/
def k7 : Class := { plain "java/lang/constant/Constable" (some 0) with
  accessFlags := 1537
  interfaces := #[]
  cf := some (fileOf pool7 1 #[] #[] 1537 3 #[] #[])
  fields := #[]
  methods := #[]
  instanceTypes := #[]
  staticTypes := #[]
  resolved := Array.replicate 11 none
  statics := none }

def pool8 : Array CpInfo := pool [(1, .class_ 2), (0, u "java/lang/constant/ConstantDesc"), (0, .class_ 4), (0, u "java/lang/Object")] 32

/-- java/lang/constant/ConstantDesc -/
def k8 : Class := { plain "java/lang/constant/ConstantDesc" (some 0) with
  accessFlags := 1537
  interfaces := #[]
  cf := some (fileOf pool8 1 #[] #[] 1537 3 #[] #[])
  fields := #[]
  methods := #[]
  instanceTypes := #[]
  staticTypes := #[]
  resolved := Array.replicate 37 none
  statics := none }

def pool9 : Array CpInfo := pool [(1, .class_ 2), (0, u "java/lang/Long"), (15, .class_ 20), (1, u "java/lang/Integer"), (79, u "numberOfLeadingZeros"), (0, u "(J)I"), (133, .class_ 237), (1, u "java/lang/Long$LongCache"), (33, .class_ 272), (0, u "java/lang/Number"), (2, u "value"), (0, u "J"), (31, .methodref 18 309), (0, .nameAndType 100 310), (0, u "(I)I"), (50, u "TYPE"), (0, u "Ljava/lang/Class;"), (0, .class_ 364), (0, u "java/lang/Comparable"), (0, .class_ 366), (0, u "java/lang/constant/Constable"), (0, .class_ 368), (0, u "java/lang/constant/ConstantDesc"), (0, u "MIN_VALUE"), (1, u "MAX_VALUE"), (4, u "SIZE"), (0, u "I"), (1, u "BYTES"), (1, u "serialVersionUID")] 142

def k9c0 : Code := { maxStack := 3, maxLocals := 3, code := jdk_35_method_48_code, exceptionTable := #[], attributes := #[] }
def k9m0 : Method := { name := "numberOfLeadingZeros", desc := "(J)I", sig := { parameters := [.long], returnType := some .int }, accessFlags := 9, code := some k9c0 }
/-- java/lang/Long -/
def k9 : Class := { plain "java/lang/Long" (some 5) with
  accessFlags := 49
  interfaces := #[6, 7, 8]
  cf := some (fileOf pool9 1 #[.nestMembers #[235]] #[{ accessFlags := 9, nameIndex := 100, descriptorIndex := 101, attributes := #[] }] 49 271 #[363, 365, 367] #[{ accessFlags := 25, nameIndex := 369, descriptorIndex := 276, attributes := #[] }, { accessFlags := 25, nameIndex := 371, descriptorIndex := 276, attributes := #[] }, { accessFlags := 25, nameIndex := 361, descriptorIndex := 362, attributes := #[] }, { accessFlags := 18, nameIndex := 275, descriptorIndex := 276, attributes := #[] }, { accessFlags := 25, nameIndex := 376, descriptorIndex := 377, attributes := #[] }, { accessFlags := 25, nameIndex := 379, descriptorIndex := 377, attributes := #[] }, { accessFlags := 26, nameIndex := 381, descriptorIndex := 276, attributes := #[] }])
  fields := #[{ name := "MIN_VALUE", type := .long, accessFlags := 25, slot := 0, constantValue := 0 }, { name := "MAX_VALUE", type := .long, accessFlags := 25, slot := 1, constantValue := 0 }, { name := "TYPE", type := (.object "java/lang/Class"), accessFlags := 25, slot := 2, constantValue := 0 }, { name := "value", type := .long, accessFlags := 18, slot := 0, constantValue := 0 }, { name := "SIZE", type := .int, accessFlags := 25, slot := 3, constantValue := 0 }, { name := "BYTES", type := .int, accessFlags := 25, slot := 4, constantValue := 0 }, { name := "serialVersionUID", type := .long, accessFlags := 26, slot := 5, constantValue := 0 }]
  methods := #[k9m0]
  instanceTypes := #[.long]
  staticTypes := #[.long, .long, (.object "java/lang/Class"), .int, .int, .long]
  resolved := Array.replicate 524 none
  statics := none }

def pool10 : Array CpInfo := pool [(1, .class_ 2), (0, u "java/lang/Integer"), (16, u "digits"), (0, u "[C"), (32, u "numberOfLeadingZeros"), (0, u "(I)I"), (30, u "DigitOnes"), (0, u "[B"), (2, u "DigitTens"), (99, .class_ 190), (0, u "java/lang/Integer$IntegerCache"), (3, u "I"), (8, .class_ 204), (0, u "java/lang/Number"), (2, u "value"), (56, .integer 65536), (37, u "TYPE"), (0, u "Ljava/lang/Class;"), (0, .class_ 305), (0, u "java/lang/Comparable"), (0, .class_ 307), (0, u "java/lang/constant/Constable"), (0, .class_ 309), (0, u "java/lang/constant/ConstantDesc"), (0, u "MIN_VALUE"), (1, u "MAX_VALUE"), (3, u "SIZE"), (1, u "BYTES"), (1, u "serialVersionUID"), (0, u "J")] 131

def k10c0 : Code := { maxStack := 3, maxLocals := 2, code := jdk_33_method_47_code, exceptionTable := #[], attributes := #[] }
def k10m0 : Method := { name := "numberOfLeadingZeros", desc := "(I)I", sig := { parameters := [.int], returnType := some .int }, accessFlags := 9, code := some k10c0 }
/-- java/lang/Integer -/
def k10 : Class := { plain "java/lang/Integer" (some 5) with
  accessFlags := 49
  interfaces := #[6, 7, 8]
  cf := some (fileOf pool10 1 #[.nestMembers #[189]] #[{ accessFlags := 9, nameIndex := 53, descriptorIndex := 54, attributes := #[] }] 49 203 #[304, 306, 308] #[{ accessFlags := 25, nameIndex := 310, descriptorIndex := 194, attributes := #[] }, { accessFlags := 25, nameIndex := 312, descriptorIndex := 194, attributes := #[] }, { accessFlags := 25, nameIndex := 302, descriptorIndex := 303, attributes := #[] }, { accessFlags := 24, nameIndex := 19, descriptorIndex := 20, attributes := #[] }, { accessFlags := 24, nameIndex := 89, descriptorIndex := 86, attributes := #[] }, { accessFlags := 24, nameIndex := 85, descriptorIndex := 86, attributes := #[] }, { accessFlags := 18, nameIndex := 207, descriptorIndex := 194, attributes := #[] }, { accessFlags := 25, nameIndex := 316, descriptorIndex := 194, attributes := #[] }, { accessFlags := 25, nameIndex := 318, descriptorIndex := 194, attributes := #[] }, { accessFlags := 26, nameIndex := 320, descriptorIndex := 321, attributes := #[] }])
  fields := #[{ name := "MIN_VALUE", type := .int, accessFlags := 25, slot := 0, constantValue := 0 }, { name := "MAX_VALUE", type := .int, accessFlags := 25, slot := 1, constantValue := 0 }, { name := "TYPE", type := (.object "java/lang/Class"), accessFlags := 25, slot := 2, constantValue := 0 }, { name := "digits", type := (.array .char), accessFlags := 24, slot := 3, constantValue := 0 }, { name := "DigitTens", type := (.array .byte), accessFlags := 24, slot := 4, constantValue := 0 }, { name := "DigitOnes", type := (.array .byte), accessFlags := 24, slot := 5, constantValue := 0 }, { name := "value", type := .int, accessFlags := 18, slot := 0, constantValue := 0 }, { name := "SIZE", type := .int, accessFlags := 25, slot := 6, constantValue := 0 }, { name := "BYTES", type := .int, accessFlags := 25, slot := 7, constantValue := 0 }, { name := "serialVersionUID", type := .long, accessFlags := 26, slot := 8, constantValue := 0 }]
  methods := #[k10m0]
  instanceTypes := #[.int]
  staticTypes := #[.int, .int, (.object "java/lang/Class"), (.array .char), (.array .byte), (.array .byte), .int, .int, .long]
  resolved := Array.replicate 453 none
  statics := none }

def pool11 : Array CpInfo := pool [(1, u "java/lang/Cloneable"), (0, .class_ 1), (0, u "java/lang/Object"), (0, .class_ 3)] 3

/-- java/lang/Cloneable -/
def k11 : Class := { plain "java/lang/Cloneable" (some 0) with
  accessFlags := 1537
  interfaces := #[]
  cf := some (fileOf pool11 2 #[] #[] 1537 4 #[] #[])
  fields := #[]
  methods := #[]
  instanceTypes := #[]
  staticTypes := #[]
  resolved := Array.replicate 8 none
  statics := none }

/-- the primitive byte -/
def k12 : Class := { plain "byte" none with kind := .primitive 'B', accessFlags := 0x411 }
/-- [B -/
def k13 : Class := { plain "[B" (some 0) with kind := .array 12 .byte, interfaces := #[11, 4], accessFlags := 1041 }

/-- the primitive int -/
def k14 : Class := { plain "int" none with kind := .primitive 'I', accessFlags := 0x411 }
/-- [I -/
def k15 : Class := { plain "[I" (some 0) with kind := .array 14 .int, interfaces := #[11, 4], accessFlags := 1041 }

def heap : Heap := #[]
def classes : Array Class := #[k0, k1, k2, k3, k4, k5, k6, k7, k8, k9, k10, k11, k12, k13, k14, k15]
def interned : List (Array UInt16 × Addr) := []
def slotsUsed : Nat := 0
def theMethod : MethodId := ⟨1, 1⟩
def args0 : Array Value := #[.long 5, .long 3, .long 7, .long 2, .long 1]
def aboutOver (below : List Frame) : State where
  vm := { classes := classes, interned := interned.toArray }
  heap := heap
  slotsUsed := slotsUsed
  threads := #[{ frames := .invoking theMethod args0 :: below }]
def below0 : List Frame := [.native { method := ⟨0, 0⟩, args := #[] }]
def about1 : State := aboutOver below0
def p0 : Program := .bare "" "" ""
def e0 : Env := launch0.env 0 0 0
theorem w_frames : about1.frames = Frame.invoking theMethod args0 :: below0 := rfl
set_option maxRecDepth 65536 in
theorem w_args : argsFit about1.vm theMethod args0 = true := by decide +kernel
set_option maxRecDepth 65536 in
theorem w_heap : heapFits about1 = true := by decide +kernel
set_option maxRecDepth 65536 in
theorem w_runnable : about1.curStatus? = some .runnable := by decide +kernel
set_option maxRecDepth 65536 in
theorem w_alone : about1.alone = true := by decide +kernel
set_option maxRecDepth 65536 in
theorem w_named : about1.methodNamed? x = some theMethod := by decide +kernel
set_option maxRecDepth 65536 in
theorem w_hears : about1.hears theMethod below0 = true := by decide +kernel
set_option maxRecDepth 65536 in
theorem w_ripe : about1.ripe theMethod args0 below0 = true := by decide +kernel
theorem w_running : about1.status = .running := rfl
set_option maxRecDepth 65536 in
theorem w_room : about1.hasRoom e0.platform room_1 = true :=
  launch0.hasRoom_least _ room_1 (by decide +kernel) (by decide +kernel) (by decide +kernel) (by decide +kernel) (by decide +kernel) (by decide +kernel)
theorem allAtoms_all (ts : List Jvm.Cond) (a : Array Jvm.Value) (st : Jvm.State) : (allAtoms ts).before a st = ts.all (fun c => c.before a st) := by
  induction ts with
  | nil => rfl
  | cons c t ih =>
    show (Jvm.Cond.and c (allAtoms t)).before a st = _
    rw [Jvm.Cond.before_and, ih, List.all_cons]
def words1 : List Jvm.Cond := Jvm.Cond.code x code maxLocals ret :: tables_1
/-- a 'code' word, met by the world's own term for the bytes: nothing is compared byte by byte -/
theorem code_word {y : MethodName} {bytes : ByteArray} {mx : Nat} {rt : Option FieldType} {a : Array Value} {s : State} {m : MethodId} {meth : Method} {c : Code} (h1 : s.methodNamed? y = some m) (h2 : s.vm.method? m = some meth) (h3 : meth.code = some c) (h4 : c.code = bytes)
    (h5 : (c.maxLocals == mx && c.exceptionTable.isEmpty && decide (c.maxStack ≤ mostOperands) && decide (meth.sig.returnType = rt) && !meth.locks && decide (parseMethodDescriptor y.desc = some meth.sig)) = true) : (Jvm.Cond.code y bytes mx rt).before a s = true := by
  simp only [Bool.and_eq_true, beq_iff_eq, Bool.not_eq_true', decide_eq_true_eq] at h5
  obtain ⟨⟨⟨⟨⟨g1, g2⟩, g3⟩, g4⟩, g5⟩, g6⟩ := h5
  simp [Cond.before, Cond.holds, Cond.value, h1, h2, h3, h4, g1, g2, g3, g4, g5, g6]
def isCode : Jvm.Cond → Bool
  | .code _ _ _ _ => true
  | _ => false
theorem all_split {L : List Jvm.Cond} {P : Jvm.Cond → Bool} (h1 : L.all (fun c => isCode c || P c) = true) (h2 : ∀ c ∈ L.filter isCode, P c = true) : L.all P = true := by
  refine List.all_eq_true.mpr fun c hc => ?_
  have h := List.all_eq_true.mp h1 c hc
  rcases Bool.eq_false_or_eq_true (isCode c) with hi | hi
  · exact h2 c (List.mem_filter.mpr ⟨hc, hi⟩)
  · simpa [hi] using h
set_option maxRecDepth 65536 in
theorem w_c0 : (Jvm.Cond.code x code maxLocals ret).before args0 about1 = true := code_word (m := ⟨1, 1⟩) (meth := k1m1) (c := k1c1) (by decide +kernel) rfl rfl rfl (by decide +kernel)
set_option maxRecDepth 65536 in
theorem w_c1 : (Jvm.Cond.code ({ cls := "com/example/metr/metr/Parts", name := "<init>", desc := "(JJJ)V" } : Jvm.MethodName) prog_25_method_1_code (7 : Nat) (Option.none : Option Jvm.ClassFile.FieldType)).before args0 about1 = true := code_word (m := ⟨2, 0⟩) (meth := k2m0) (c := k2c0) (by decide +kernel) rfl rfl rfl (by decide +kernel)
set_option maxRecDepth 65536 in
theorem w_c2 : (Jvm.Cond.code ({ cls := "java/lang/Object", name := "<init>", desc := "()V" } : Jvm.MethodName) object_method_1_code (1 : Nat) (Option.none : Option Jvm.ClassFile.FieldType)).before args0 about1 = true := code_word (m := ⟨0, 0⟩) (meth := k0m0) (c := k0c0) (by decide +kernel) rfl rfl rfl (by decide +kernel)
set_option maxRecDepth 65536 in
theorem w_c3 : (Jvm.Cond.code ({ cls := "com/example/metr/metr/Parts", name := "parts", desc := "(J)J" } : Jvm.MethodName) prog_25_method_7_code (3 : Nat) (Option.some Jvm.ClassFile.FieldType.long)).before args0 about1 = true := code_word (m := ⟨2, 1⟩) (meth := k2m1) (c := k2c1) (by decide +kernel) rfl rfl rfl (by decide +kernel)
set_option maxRecDepth 65536 in
theorem w_c4 : (Jvm.Cond.code ({ cls := "java/lang/Math", name := "multiplyHigh", desc := "(JJ)J" } : Jvm.MethodName) jdk_29_method_45_code (20 : Nat) (Option.some Jvm.ClassFile.FieldType.long)).before args0 about1 = true := code_word (m := ⟨3, 1⟩) (meth := k3m1) (c := k3c1) (by decide +kernel) rfl rfl rfl (by decide +kernel)
set_option maxRecDepth 65536 in
theorem w_c5 : (Jvm.Cond.code ({ cls := "java/lang/Long", name := "numberOfLeadingZeros", desc := "(J)I" } : Jvm.MethodName) jdk_35_method_48_code (3 : Nat) (Option.some Jvm.ClassFile.FieldType.int)).before args0 about1 = true := code_word (m := ⟨9, 0⟩) (meth := k9m0) (c := k9c0) (by decide +kernel) rfl rfl rfl (by decide +kernel)
set_option maxRecDepth 65536 in
theorem w_c6 : (Jvm.Cond.code ({ cls := "java/lang/Integer", name := "numberOfLeadingZeros", desc := "(I)I" } : Jvm.MethodName) jdk_33_method_47_code (2 : Nat) (Option.some Jvm.ClassFile.FieldType.int)).before args0 about1 = true := code_word (m := ⟨10, 0⟩) (meth := k10m0) (c := k10c0) (by decide +kernel) rfl rfl rfl (by decide +kernel)
set_option maxRecDepth 65536 in
theorem w_c7 : (Jvm.Cond.code ({ cls := "com/example/metr/metr/Parts", name := "wholeTokens", desc := "(J)J" } : Jvm.MethodName) prog_25_method_9_code (3 : Nat) (Option.some Jvm.ClassFile.FieldType.long)).before args0 about1 = true := code_word (m := ⟨2, 2⟩) (meth := k2m2) (c := k2c2) (by decide +kernel) rfl rfl rfl (by decide +kernel)
def codes1 : List Jvm.Cond := [Jvm.Cond.code x code maxLocals ret, Jvm.Cond.code ({ cls := "com/example/metr/metr/Parts", name := "<init>", desc := "(JJJ)V" } : Jvm.MethodName) prog_25_method_1_code (7 : Nat) (Option.none : Option Jvm.ClassFile.FieldType), Jvm.Cond.code ({ cls := "java/lang/Object", name := "<init>", desc := "()V" } : Jvm.MethodName) object_method_1_code (1 : Nat) (Option.none : Option Jvm.ClassFile.FieldType), Jvm.Cond.code ({ cls := "com/example/metr/metr/Parts", name := "parts", desc := "(J)J" } : Jvm.MethodName) prog_25_method_7_code (3 : Nat) (Option.some Jvm.ClassFile.FieldType.long), Jvm.Cond.code ({ cls := "java/lang/Math", name := "multiplyHigh", desc := "(JJ)J" } : Jvm.MethodName) jdk_29_method_45_code (20 : Nat) (Option.some Jvm.ClassFile.FieldType.long), Jvm.Cond.code ({ cls := "java/lang/Long", name := "numberOfLeadingZeros", desc := "(J)I" } : Jvm.MethodName) jdk_35_method_48_code (3 : Nat) (Option.some Jvm.ClassFile.FieldType.int), Jvm.Cond.code ({ cls := "java/lang/Integer", name := "numberOfLeadingZeros", desc := "(I)I" } : Jvm.MethodName) jdk_33_method_47_code (2 : Nat) (Option.some Jvm.ClassFile.FieldType.int), Jvm.Cond.code ({ cls := "com/example/metr/metr/Parts", name := "wholeTokens", desc := "(J)J" } : Jvm.MethodName) prog_25_method_9_code (3 : Nat) (Option.some Jvm.ClassFile.FieldType.long)]
set_option maxRecDepth 65536 in
theorem codes_eq : words1.filter isCode = codes1 := rfl
theorem w_codes : ∀ c ∈ words1.filter isCode, c.before args0 about1 = true := by
  rw [codes_eq]
  intro c hc
  simp only [codes1, List.mem_cons, List.not_mem_nil, or_false] at hc
  rcases hc with rfl | rfl | rfl | rfl | rfl | rfl | rfl | rfl
  · exact w_c0
  · exact w_c1
  · exact w_c2
  · exact w_c3
  · exact w_c4
  · exact w_c5
  · exact w_c6
  · exact w_c7
set_option maxRecDepth 65536 in
theorem w_t1 : (words1.take 24).all (fun c => isCode c || c.before args0 about1) = true := by decide +kernel
set_option maxRecDepth 65536 in
theorem w_t2 : ((words1.drop 24).take 24).all (fun c => isCode c || c.before args0 about1) = true := by decide +kernel
set_option maxRecDepth 65536 in
theorem w_t3 : ((words1.drop 24).drop 24).all (fun c => isCode c || c.before args0 about1) = true := by decide +kernel
theorem w_tables : (allAtoms (Jvm.Cond.code x code maxLocals ret :: tables_1)).before args0 about1 = true := by
  rw [allAtoms_all]
  show words1.all (fun c => c.before args0 about1) = true
  refine all_split ?_ w_codes
  rw [← List.take_append_drop 24 words1, List.all_append, w_t1, ← List.take_append_drop 24 (words1.drop 24), List.all_append, w_t2, w_t3]
  rfl
set_option maxRecDepth 65536 in
theorem w_case : (Jvm.Cond.and given_1 narrow_1).before args0 about1 = true := by decide +kernel
theorem w_applies : (headSpec (Jvm.Cond.code x code maxLocals ret :: tables_1) room_1).applies x e0.platform about1 = true :=
  (Spec.applies_iff w_frames).mpr ⟨w_running, w_runnable, w_alone, w_named, w_hears, w_ripe, w_room, w_tables⟩
theorem atStart : AtStart classFile x code maxLocals ret World_1 tables_1 room_1 Calls_1 rest_1 Pre_1 launch0 p0 e0 about1 theMethod args0 below0 :=
  ⟨lists_1, trivial, launch0.admits_env _ _ _, launch0.least_env, fairChoices_fair.cas, fairChoices_fair.clock, w_frames, w_args, w_heap, w_applies, trivial, trivial, w_case⟩
end start1
theorem witness_1 : WitnessClaimed_1 := ⟨start1.p0, start1.e0, start1.about1, start1.theMethod, start1.args0, start1.below0, start1.atStart⟩
end Jvm.Pilot.@@N@@
