import JvmDerived
import JvmDerived.Pilot.@@N@@Statement
import JvmDerived.Pilot.@@N@@Code
set_option linter.unusedVariables false
set_option linter.unusedSimpArgs false
@@BLOCK:NumsL.lean.txt@@
namespace Jvm.RoadKit
open Sem ClassFile Op Lib Jvm.Stand Jvm.Free Jvm.LawKit
section Own
variable {p : Program} {l : Launch} {e : Env} {R : Room} {s : State} {m : MethodId} {args : Array Value} {below : List Frame} {meth : Method} {c : Code} {T : State} {locs : List Loc} {cells slots : Nat} {Z : State} {a0 : Array Value} {h h' h0 : Heap} {ws ws' : List Addr} {Q : Option Value → Heap → List Loc → Prop} {k n : Nat}
/-- the run from U comes to an end of which G speaks -/
def OEnd (p : Program) (e : Env) (below : List Frame) (G : Outcome → State → Prop) (U : State) : Prop := ∃ t o, Steps p.tables e below U t ∧ t.status = .running ∧ Ended t below o ∧ G o t
theorem OEnd.of {G : Outcome → State → Prop} {U U' : State} (q : ∀ t, Steps p.tables e below U' t → Steps p.tables e below U t) (k : OEnd p e below G U') : OEnd p e below G U := by
  obtain ⟨t, o, h1, h2⟩ := k
  exact ⟨t, o, q t h1, h2⟩
/-- a contract's end, nothing interned -/
def GN (s : State) (Q : Option Value → Heap → List Loc → Prop) (k n : Nat) (o : Outcome) (t : State) : Prop := ∃ v L, o = .returned v ∧ Q v t.heap L ∧ FrameEnd s o t L k n
theorem OEnd.out {v : Option Value} {g : JFrame} (X : Stand p l e R s m args below meth c T locs cells slots) (hlk : meth.locks = false) (eT : T.heap = h) (hv : meth.sig.returnType = none → v = none)
    (hs : ∀ fs, (∀ (f : JFrame) (acts : List Action), f.method = m → f.locked = none → f.entered = [] → (doReturn e (T.setTop f) acts v).1 = T.setFrames fs) → Steps p.tables e below (T.setTop g) (T.setFrames fs))
    (hQ : Q v h locs) (hk : cells ≤ k) (hn : slots ≤ n) : OEnd p e below (GN s Q k n) (T.setTop g) := by
  obtain ⟨fs, hr, hrun, hended, hW, hsame⟩ := X.leave (v := v) hv hlk
  exact ⟨_, _, hs fs hr, hrun, hended, v, locs, rfl, (by show Q v T.heap locs; rw [eT]; exact hQ), ⟨v, rfl⟩, hW, hsame.mono hk hn⟩
theorem OEnd.retV {pc : Nat} {Ls : Array Slot} (X : Stand p l e R s m args below meth c T locs cells slots) (hx : p.tables.exec = Jvm.exec) (hlk : meth.locks = false) (eT : T.heap = h) (hret : meth.sig.returnType = none) (hd : decode c.code pc = .ok (.return_, 1))
    (hQ : Q none h locs) (hk : cells ≤ k) (hn : slots ≤ n) : OEnd p e below (GN s Q k n) (T.setTop (mkF m pc Ls [])) :=
  OEnd.out X hlk eT (fun _ => rfl) (fun fs hr => X.returnOut hx hret hd hr) hQ hk hn
theorem OEnd.retN {pc : Nat} {Ls : Array Slot} {z : Int32} {t : FieldType} {rest : List Value} (X : Stand p l e R s m args below meth c T locs cells slots) (hx : p.tables.exec = Jvm.exec) (hlk : meth.locks = false) (eT : T.heap = h) (hret : meth.sig.returnType = some t) (ht : t = .boolean ∨ t = .byte ∨ t = .char ∨ t = .short)
    (hd : decode c.code pc = .ok (.ireturn, 1)) (hQ : Q (some (.int (nar t z))) h locs) (hk : cells ≤ k) (hn : slots ≤ n) : OEnd p e below (GN s Q k n) (T.setTop (mkF m pc Ls (.int z :: rest))) :=
  OEnd.out X hlk eT (fun q => by rw [hret] at q; cases q) (fun fs hr => Jvm.RoadKit.retN X hx hret ht hd hr) hQ hk hn
theorem OEnd.retI {pc : Nat} {Ls : Array Slot} {z : Int32} {rest : List Value} (X : Stand p l e R s m args below meth c T locs cells slots) (hx : p.tables.exec = Jvm.exec) (hlk : meth.locks = false) (eT : T.heap = h) (hret : meth.sig.returnType = some .int)
    (hd : decode c.code pc = .ok (.ireturn, 1)) (hQ : Q (some (.int z)) h locs) (hk : cells ≤ k) (hn : slots ≤ n) : OEnd p e below (GN s Q k n) (T.setTop (mkF m pc Ls (.int z :: rest))) :=
  OEnd.out X hlk eT (fun q => by rw [hret] at q; cases q) (fun fs hr => retOut X hx hret rfl (Or.inl ⟨rfl, Or.inl rfl, z, rfl⟩) hd hr) hQ hk hn
theorem OEnd.retJ {pc : Nat} {Ls : Array Slot} {z : Int64} {rest : List Value} (X : Stand p l e R s m args below meth c T locs cells slots) (hx : p.tables.exec = Jvm.exec) (hlk : meth.locks = false) (eT : T.heap = h) (hret : meth.sig.returnType = some .long)
    (hd : decode c.code pc = .ok (.lreturn, 1)) (hQ : Q (some (.long z)) h locs) (hk : cells ≤ k) (hn : slots ≤ n) : OEnd p e below (GN s Q k n) (T.setTop (mkF m pc Ls (.long z :: rest))) :=
  OEnd.out X hlk eT (fun q => by rw [hret] at q; cases q) (fun fs hr => retOut X hx hret rfl (Or.inr (Or.inl ⟨rfl, rfl, z, rfl⟩)) hd hr) hQ hk hn
theorem own_narRef {t : FieldType} {w : Value} (hw : w.isRef = true) : narrow t w = w := by cases w <;> first | (cases hw; done) | (cases t <;> rfl)
theorem OEnd.retA {pc : Nat} {Ls : Array Slot} {w : Value} {t : FieldType} {rest : List Value} (X : Stand p l e R s m args below meth c T locs cells slots) (hx : p.tables.exec = Jvm.exec) (hlk : meth.locks = false) (eT : T.heap = h) (hret : meth.sig.returnType = some t) (ht : t.isReference = true) (hw : w.isRef = true)
    (hd : decode c.code pc = .ok (.areturn, 1)) (hQ : Q (some w) h locs) (hk : cells ≤ k) (hn : slots ≤ n) : OEnd p e below (GN s Q k n) (T.setTop (mkF m pc Ls (w :: rest))) :=
  OEnd.out X hlk eT (fun q => by rw [hret] at q; cases q) (fun fs hr => retOut X hx hret (own_narRef hw) (Or.inr (Or.inr (Or.inr (Or.inr ⟨rfl, ht, hw⟩)))) hd hr) hQ hk hn
theorem own_extKeep (O : Ext h0 h) (K : Keep h h' ws) (q : ∀ x ∈ ws, h0.size ≤ x) : Ext h0 h' := ⟨Nat.le_trans O.1 K.1, fun x c r => K.2.1 x c (O.2 x c r) fun z => absurd (Array.getElem?_eq_some_iff.mp r).1 (Nat.not_lt.mpr (q x z))⟩
theorem own_keepMono (K : Keep h h' ws) (q : ∀ x ∈ ws, x ∈ ws') : Keep h h' ws' := ⟨K.1, fun x c r n => K.2.1 x c r (fun z => n (q x z)), K.2.2⟩
theorem own_fitsRef {ty : FieldType} {v : Value} (hv : v.isRef = true) (ht : ty.isReference = true) : fits ty v = true := by cases v <;> first | (cases hv; done) | (cases ty <;> first | (cases ht; done) | rfl)
/-- a private method selects itself (its class can be made, so it is no interface) -/
theorem own_selPriv {y : MethodName} {nn : Nat} (hZ : Z.Warmed39 s.vm) (wi : (Cond.instantiable y.cls nn).before a0 Z = true) (wp : (Cond.privateMethod y).before a0 Z = true) (wm : (Cond.instanceMethod y).before a0 Z = true) (hy : y.cls ≠ "java/lang/invoke/MethodHandle" ∧ y.cls ≠ "java/lang/invoke/VarHandle") : (Cond.selects y.cls y y).before args s = true := by
  have wi' : (Cond.instantiable y.cls nn).before #[] s = true := mv hZ wi
  obtain ⟨cc, kk, h1, h2, -, h3, -⟩ := Cond.instantiable_spec wi'
  exact selects_self_of_private h1 h2 (by simpa using (Bool.or_eq_false_iff.mp h3).1) (Cond.privateMethod_at (mvP hZ wp (args := #[]))) (mvT hZ wm) hy
/-- an object of a class right beneath the root is none of a class K that can be made -/
theorem own_notAssign {C O K : String} {nn : Nat} (w : (Cond.superclass C O).before a0 Z = true) (wo : (Cond.noSuperclass O).before a0 Z = true) (wi : (Cond.instantiable K nn).before a0 Z = true) (h1 : C ≠ K) (h2 : O ≠ K) : ∃ c t, Z.vm.findClass C = some c ∧ Z.vm.findClass K = some t ∧ Z.vm.assignable c t = false := by
  obtain ⟨cc, hc⟩ := found_sup w
  obtain ⟨pp, kk, kp, hp, hk, hkp, hsup, hkind, -, -⟩ := Cond.superclass_spec hc w
  obtain ⟨oo, ko, ho, hko, hnone, -, -⟩ := Cond.noSuperclass_spec wo
  obtain ⟨tt, kt, ht, hkt, hkindt, hif, -⟩ := Cond.instantiable_spec wi
  cases ho.symm.trans hp
  have ne1 := ids_ne hc ht h1
  have ne2 := ids_ne ho ht h2
  have hi : kt.isInterface = false := (Bool.or_eq_false_iff.mp hif).1
  have sb : ∀ f, Z.vm.isSubclassAux f cc tt = false := fun f => by
    match f with
    | 0 => rfl
    | 1 => simp [Vm.isSubclassAux, ne1, hk, hsup]
    | f + 2 => simp [Vm.isSubclassAux, ne1, ne2, hk, hsup, hko, hnone]
  refine ⟨cc, tt, hc, ht, ?_⟩
  show Z.vm.assignableAux (255 + 1) cc tt = false
  simp [Vm.assignableAux, ne1, hk, hkt, hkind, hkindt, hi, Vm.isSubclass, sb]
end Own
end Jvm.RoadKit
namespace Jvm.Pilot.@@N@@
open Jvm Jvm.ClassFile Sem Op Lib Jvm.Free Jvm.Stand Jvm.LawKit Jvm.RoadKit Bundle Jvm.Pilot.@@N@@.Jvm.D
theorem d5_0 : decode jdk_29_method_45_code 0 = .ok (.lload_n 0, 1) := by decide +kernel
theorem d5_1 : decode jdk_29_method_45_code 1 = .ok (.bipush 32, 2) := by decide +kernel
theorem d5_3 : decode jdk_29_method_45_code 3 = .ok (.lshr, 1) := by decide +kernel
theorem d5_4 : decode jdk_29_method_45_code 4 = .ok (.lstore 4, 2) := by decide +kernel
theorem d5_6 : decode jdk_29_method_45_code 6 = .ok (.lload_n 0, 1) := by decide +kernel
theorem d5_7 : decode jdk_29_method_45_code 7 = .ok (.ldc2_w 138, 3) := by decide +kernel
theorem d5_10 : decode jdk_29_method_45_code 10 = .ok (.land, 1) := by decide +kernel
theorem d5_11 : decode jdk_29_method_45_code 11 = .ok (.lstore 6, 2) := by decide +kernel
theorem d5_13 : decode jdk_29_method_45_code 13 = .ok (.lload_n 2, 1) := by decide +kernel
theorem d5_14 : decode jdk_29_method_45_code 14 = .ok (.bipush 32, 2) := by decide +kernel
theorem d5_16 : decode jdk_29_method_45_code 16 = .ok (.lshr, 1) := by decide +kernel
theorem d5_17 : decode jdk_29_method_45_code 17 = .ok (.lstore 8, 2) := by decide +kernel
theorem d5_19 : decode jdk_29_method_45_code 19 = .ok (.lload_n 2, 1) := by decide +kernel
theorem d5_20 : decode jdk_29_method_45_code 20 = .ok (.ldc2_w 138, 3) := by decide +kernel
theorem d5_23 : decode jdk_29_method_45_code 23 = .ok (.land, 1) := by decide +kernel
theorem d5_24 : decode jdk_29_method_45_code 24 = .ok (.lstore 10, 2) := by decide +kernel
theorem d5_26 : decode jdk_29_method_45_code 26 = .ok (.lload 6, 2) := by decide +kernel
theorem d5_28 : decode jdk_29_method_45_code 28 = .ok (.lload 10, 2) := by decide +kernel
theorem d5_30 : decode jdk_29_method_45_code 30 = .ok (.lmul, 1) := by decide +kernel
theorem d5_31 : decode jdk_29_method_45_code 31 = .ok (.lstore 12, 2) := by decide +kernel
theorem d5_33 : decode jdk_29_method_45_code 33 = .ok (.lload 4, 2) := by decide +kernel
theorem d5_35 : decode jdk_29_method_45_code 35 = .ok (.lload 10, 2) := by decide +kernel
theorem d5_37 : decode jdk_29_method_45_code 37 = .ok (.lmul, 1) := by decide +kernel
theorem d5_38 : decode jdk_29_method_45_code 38 = .ok (.lload 12, 2) := by decide +kernel
theorem d5_40 : decode jdk_29_method_45_code 40 = .ok (.bipush 32, 2) := by decide +kernel
theorem d5_42 : decode jdk_29_method_45_code 42 = .ok (.lushr, 1) := by decide +kernel
theorem d5_43 : decode jdk_29_method_45_code 43 = .ok (.ladd, 1) := by decide +kernel
theorem d5_44 : decode jdk_29_method_45_code 44 = .ok (.lstore 14, 2) := by decide +kernel
theorem d5_46 : decode jdk_29_method_45_code 46 = .ok (.lload 14, 2) := by decide +kernel
theorem d5_48 : decode jdk_29_method_45_code 48 = .ok (.ldc2_w 138, 3) := by decide +kernel
theorem d5_51 : decode jdk_29_method_45_code 51 = .ok (.land, 1) := by decide +kernel
theorem d5_52 : decode jdk_29_method_45_code 52 = .ok (.lstore 16, 2) := by decide +kernel
theorem d5_54 : decode jdk_29_method_45_code 54 = .ok (.lload 14, 2) := by decide +kernel
theorem d5_56 : decode jdk_29_method_45_code 56 = .ok (.bipush 32, 2) := by decide +kernel
theorem d5_58 : decode jdk_29_method_45_code 58 = .ok (.lshr, 1) := by decide +kernel
theorem d5_59 : decode jdk_29_method_45_code 59 = .ok (.lstore 18, 2) := by decide +kernel
theorem d5_61 : decode jdk_29_method_45_code 61 = .ok (.lload 16, 2) := by decide +kernel
theorem d5_63 : decode jdk_29_method_45_code 63 = .ok (.lload 6, 2) := by decide +kernel
theorem d5_65 : decode jdk_29_method_45_code 65 = .ok (.lload 8, 2) := by decide +kernel
theorem d5_67 : decode jdk_29_method_45_code 67 = .ok (.lmul, 1) := by decide +kernel
theorem d5_68 : decode jdk_29_method_45_code 68 = .ok (.ladd, 1) := by decide +kernel
theorem d5_69 : decode jdk_29_method_45_code 69 = .ok (.lstore 16, 2) := by decide +kernel
theorem d5_71 : decode jdk_29_method_45_code 71 = .ok (.lload 4, 2) := by decide +kernel
theorem d5_73 : decode jdk_29_method_45_code 73 = .ok (.lload 8, 2) := by decide +kernel
theorem d5_75 : decode jdk_29_method_45_code 75 = .ok (.lmul, 1) := by decide +kernel
theorem d5_76 : decode jdk_29_method_45_code 76 = .ok (.lload 18, 2) := by decide +kernel
theorem d5_78 : decode jdk_29_method_45_code 78 = .ok (.ladd, 1) := by decide +kernel
theorem d5_79 : decode jdk_29_method_45_code 79 = .ok (.lload 16, 2) := by decide +kernel
theorem d5_81 : decode jdk_29_method_45_code 81 = .ok (.bipush 32, 2) := by decide +kernel
theorem d5_83 : decode jdk_29_method_45_code 83 = .ok (.lshr, 1) := by decide +kernel
theorem d5_84 : decode jdk_29_method_45_code 84 = .ok (.ladd, 1) := by decide +kernel
theorem d5_85 : decode jdk_29_method_45_code 85 = .ok (.lreturn, 1) := by decide +kernel
abbrev RMrm5 : Room := { frames := 0, cells := 0, slots := 0, locals := 0 }
theorem ef_rm5 (m : MethodId) (q1 : Int64) (q2 : Int64) : entryFrame m #[(.long q1), (.long q2)] 20 = mkF m 0 #[.val (.long q1), .second, .val (.long q2), .second, .unset, .unset, .unset, .unset, .unset, .unset, .unset, .unset, .unset, .unset, .unset, .unset, .unset, .unset, .unset, .unset] [] := by first | (simp [entryFrame, mkF, argsToLocals, Value.category]; done) | rfl
def Qrm5 (Z : State)  (q1 : Int64) (q2 : Int64) (h0 : Heap) (v : Option Value) (h : Heap) (L : List Loc) : Prop := ∃ (r : Int64), v = some (.long r) ∧ Fr Z.heap.size L ∧ h = h0
set_option maxRecDepth 65536 in
set_option maxHeartbeats 40000000 in
theorem rm5 (l : Launch) (Z : State) (a0 : Array Value) (hw : ∀ d ∈ tables_1, d.before a0 Z = true)   (ws : List Jvm.Cond) (q1 : Int64) (q2 : Int64) (h0 : Heap) (O0 : Ext Z.heap h0) :
    MetFree l (⟨"java/lang/Math", "multiplyHigh", "(JJ)J"⟩ : MethodName) (head1 (Jvm.Cond.code (⟨"java/lang/Math", "multiplyHigh", "(JJ)J"⟩ : MethodName) jdk_29_method_45_code 20 (some .long) :: ws) RMrm5) (fun a U => a = #[(.long q1), (.long q2)] ∧ Z.Warmed39 U.vm ∧ U.heap = h0) (fun _ _ _ _ _ => True) (fun _ U o U' => ∃ v L, o = .returned v ∧ Qrm5 Z q1 q2 h0 v U'.heap L ∧ FrameEnd U o U' L RMrm5.cells RMrm5.slots) := by
  refine MetFree.of_bodySF (Jvm.Free.JP.mathPlain rfl (by decide +kernel)) hisR ?_
  intro p e s m args below meth c s₁ Bd hml0 hP hK
  obtain ⟨rfl, hZ, hh⟩ := hP
  have hx := Bd.exec
  have hby := Bd.bytes
  have hlk : meth.locks = false := BodyLoose.notSynchronized Bd
  have hret := Bd.returns
  have hml : c.maxLocals = 20 := hml0
  have hown : s.vm.findClass "java/lang/Math" = some m.cls := findClass_of_methodNamed Bd.named
  have hnm := (name_of_methodNamed Bd.named Bd.method).1
  have X0 : Stand p l e RMrm5 s m #[(.long q1), (.long q2)] below meth c s₁ [] 0 0 := Stand.of_body Bd
  have e0 : s₁.heap = h0 := by rw [← hh, Bd.state]; rfl
  have N0 := Fr.nil Z.heap.size
  show OEnd p e below (GN s (Qrm5 Z q1 q2 h0) RMrm5.cells RMrm5.slots) _
  refine OEnd.of (fun t k => castTop (ef_rm5 m q1 q2) k) ?_
  refine OEnd.of (fun t k => XS.lloadN X0.here hx rfl (hb hby d5_0) rfl k) ?_
  show OEnd p e below _ (s₁.setTop (mkF m 1 #[.val (.long q1), .second, .val (.long q2), .second, .unset, .unset, .unset, .unset, .unset, .unset, .unset, .unset, .unset, .unset, .unset, .unset, .unset, .unset, .unset, .unset] [(.long q1)]))
  refine OEnd.of (fun t k => XS.bipush X0.here hx rfl (hb hby d5_1) k) ?_
  show OEnd p e below _ (s₁.setTop (mkF m 3 #[.val (.long q1), .second, .val (.long q2), .second, .unset, .unset, .unset, .unset, .unset, .unset, .unset, .unset, .unset, .unset, .unset, .unset, .unset, .unset, .unset, .unset] [(.int (32 : Int32)), (.long q1)]))
  refine OEnd.of (fun t k => XS.lshr X0.here hx rfl (hb hby d5_3) rfl k) ?_
  show OEnd p e below _ (s₁.setTop (mkF m 4 #[.val (.long q1), .second, .val (.long q2), .second, .unset, .unset, .unset, .unset, .unset, .unset, .unset, .unset, .unset, .unset, .unset, .unset, .unset, .unset, .unset, .unset] [(.long (q1 >>> ((32 : Int32) &&& 0x3f).toInt64))]))
  generalize q_y1 : (q1 >>> ((32 : Int32) &&& 0x3f).toInt64) = y1
  refine OEnd.of (fun t k => XS.lstore X0.here hx rfl (hb hby d5_4) rfl (l' := #[.val (.long q1), .second, .val (.long q2), .second, .val (.long y1), .second, .unset, .unset, .unset, .unset, .unset, .unset, .unset, .unset, .unset, .unset, .unset, .unset, .unset, .unset]) rfl k) ?_
  show OEnd p e below _ (s₁.setTop (mkF m 6 #[.val (.long q1), .second, .val (.long q2), .second, .val (.long y1), .second, .unset, .unset, .unset, .unset, .unset, .unset, .unset, .unset, .unset, .unset, .unset, .unset, .unset, .unset] []))
  refine OEnd.of (fun t k => XS.lloadN X0.here hx rfl (hb hby d5_6) rfl k) ?_
  show OEnd p e below _ (s₁.setTop (mkF m 7 #[.val (.long q1), .second, .val (.long q2), .second, .val (.long y1), .second, .unset, .unset, .unset, .unset, .unset, .unset, .unset, .unset, .unset, .unset, .unset, .unset, .unset, .unset] [(.long q1)]))
  refine OEnd.of (X0.ldc2Long hx hown (mvT hZ (hw _ (List.mem_of_getElem? (i := 29) rfl))) (g := (mkF m 7 #[.val (.long q1), .second, .val (.long q2), .second, .val (.long y1), .second, .unset, .unset, .unset, .unset, .unset, .unset, .unset, .unset, .unset, .unset, .unset, .unset, .unset, .unset] [(.long q1)])) rfl (hb hby d5_7)) ?_
  show OEnd p e below _ (s₁.setTop (mkF m 10 #[.val (.long q1), .second, .val (.long q2), .second, .val (.long y1), .second, .unset, .unset, .unset, .unset, .unset, .unset, .unset, .unset, .unset, .unset, .unset, .unset, .unset, .unset] [(.long (4294967295 : Int64)), (.long q1)]))
  refine OEnd.of (fun t k => XS.land X0.here hx rfl (hb hby d5_10) rfl k) ?_
  show OEnd p e below _ (s₁.setTop (mkF m 11 #[.val (.long q1), .second, .val (.long q2), .second, .val (.long y1), .second, .unset, .unset, .unset, .unset, .unset, .unset, .unset, .unset, .unset, .unset, .unset, .unset, .unset, .unset] [(.long (q1 &&& (4294967295 : Int64)))]))
  generalize q_y2 : (q1 &&& (4294967295 : Int64)) = y2
  refine OEnd.of (fun t k => XS.lstore X0.here hx rfl (hb hby d5_11) rfl (l' := #[.val (.long q1), .second, .val (.long q2), .second, .val (.long y1), .second, .val (.long y2), .second, .unset, .unset, .unset, .unset, .unset, .unset, .unset, .unset, .unset, .unset, .unset, .unset]) rfl k) ?_
  show OEnd p e below _ (s₁.setTop (mkF m 13 #[.val (.long q1), .second, .val (.long q2), .second, .val (.long y1), .second, .val (.long y2), .second, .unset, .unset, .unset, .unset, .unset, .unset, .unset, .unset, .unset, .unset, .unset, .unset] []))
  refine OEnd.of (fun t k => XS.lloadN X0.here hx rfl (hb hby d5_13) rfl k) ?_
  show OEnd p e below _ (s₁.setTop (mkF m 14 #[.val (.long q1), .second, .val (.long q2), .second, .val (.long y1), .second, .val (.long y2), .second, .unset, .unset, .unset, .unset, .unset, .unset, .unset, .unset, .unset, .unset, .unset, .unset] [(.long q2)]))
  refine OEnd.of (fun t k => XS.bipush X0.here hx rfl (hb hby d5_14) k) ?_
  show OEnd p e below _ (s₁.setTop (mkF m 16 #[.val (.long q1), .second, .val (.long q2), .second, .val (.long y1), .second, .val (.long y2), .second, .unset, .unset, .unset, .unset, .unset, .unset, .unset, .unset, .unset, .unset, .unset, .unset] [(.int (32 : Int32)), (.long q2)]))
  refine OEnd.of (fun t k => XS.lshr X0.here hx rfl (hb hby d5_16) rfl k) ?_
  show OEnd p e below _ (s₁.setTop (mkF m 17 #[.val (.long q1), .second, .val (.long q2), .second, .val (.long y1), .second, .val (.long y2), .second, .unset, .unset, .unset, .unset, .unset, .unset, .unset, .unset, .unset, .unset, .unset, .unset] [(.long (q2 >>> ((32 : Int32) &&& 0x3f).toInt64))]))
  generalize q_y3 : (q2 >>> ((32 : Int32) &&& 0x3f).toInt64) = y3
  refine OEnd.of (fun t k => XS.lstore X0.here hx rfl (hb hby d5_17) rfl (l' := #[.val (.long q1), .second, .val (.long q2), .second, .val (.long y1), .second, .val (.long y2), .second, .val (.long y3), .second, .unset, .unset, .unset, .unset, .unset, .unset, .unset, .unset, .unset, .unset]) rfl k) ?_
  show OEnd p e below _ (s₁.setTop (mkF m 19 #[.val (.long q1), .second, .val (.long q2), .second, .val (.long y1), .second, .val (.long y2), .second, .val (.long y3), .second, .unset, .unset, .unset, .unset, .unset, .unset, .unset, .unset, .unset, .unset] []))
  refine OEnd.of (fun t k => XS.lloadN X0.here hx rfl (hb hby d5_19) rfl k) ?_
  show OEnd p e below _ (s₁.setTop (mkF m 20 #[.val (.long q1), .second, .val (.long q2), .second, .val (.long y1), .second, .val (.long y2), .second, .val (.long y3), .second, .unset, .unset, .unset, .unset, .unset, .unset, .unset, .unset, .unset, .unset] [(.long q2)]))
  refine OEnd.of (X0.ldc2Long hx hown (mvT hZ (hw _ (List.mem_of_getElem? (i := 29) rfl))) (g := (mkF m 20 #[.val (.long q1), .second, .val (.long q2), .second, .val (.long y1), .second, .val (.long y2), .second, .val (.long y3), .second, .unset, .unset, .unset, .unset, .unset, .unset, .unset, .unset, .unset, .unset] [(.long q2)])) rfl (hb hby d5_20)) ?_
  show OEnd p e below _ (s₁.setTop (mkF m 23 #[.val (.long q1), .second, .val (.long q2), .second, .val (.long y1), .second, .val (.long y2), .second, .val (.long y3), .second, .unset, .unset, .unset, .unset, .unset, .unset, .unset, .unset, .unset, .unset] [(.long (4294967295 : Int64)), (.long q2)]))
  refine OEnd.of (fun t k => XS.land X0.here hx rfl (hb hby d5_23) rfl k) ?_
  show OEnd p e below _ (s₁.setTop (mkF m 24 #[.val (.long q1), .second, .val (.long q2), .second, .val (.long y1), .second, .val (.long y2), .second, .val (.long y3), .second, .unset, .unset, .unset, .unset, .unset, .unset, .unset, .unset, .unset, .unset] [(.long (q2 &&& (4294967295 : Int64)))]))
  generalize q_y4 : (q2 &&& (4294967295 : Int64)) = y4
  refine OEnd.of (fun t k => XS.lstore X0.here hx rfl (hb hby d5_24) rfl (l' := #[.val (.long q1), .second, .val (.long q2), .second, .val (.long y1), .second, .val (.long y2), .second, .val (.long y3), .second, .val (.long y4), .second, .unset, .unset, .unset, .unset, .unset, .unset, .unset, .unset]) rfl k) ?_
  show OEnd p e below _ (s₁.setTop (mkF m 26 #[.val (.long q1), .second, .val (.long q2), .second, .val (.long y1), .second, .val (.long y2), .second, .val (.long y3), .second, .val (.long y4), .second, .unset, .unset, .unset, .unset, .unset, .unset, .unset, .unset] []))
  refine OEnd.of (fun t k => XS.lload X0.here hx rfl (hb hby d5_26) rfl k) ?_
  show OEnd p e below _ (s₁.setTop (mkF m 28 #[.val (.long q1), .second, .val (.long q2), .second, .val (.long y1), .second, .val (.long y2), .second, .val (.long y3), .second, .val (.long y4), .second, .unset, .unset, .unset, .unset, .unset, .unset, .unset, .unset] [(.long y2)]))
  refine OEnd.of (fun t k => XS.lload X0.here hx rfl (hb hby d5_28) rfl k) ?_
  show OEnd p e below _ (s₁.setTop (mkF m 30 #[.val (.long q1), .second, .val (.long q2), .second, .val (.long y1), .second, .val (.long y2), .second, .val (.long y3), .second, .val (.long y4), .second, .unset, .unset, .unset, .unset, .unset, .unset, .unset, .unset] [(.long y4), (.long y2)]))
  refine OEnd.of (fun t k => XS.lmul X0.here hx rfl (hb hby d5_30) rfl k) ?_
  show OEnd p e below _ (s₁.setTop (mkF m 31 #[.val (.long q1), .second, .val (.long q2), .second, .val (.long y1), .second, .val (.long y2), .second, .val (.long y3), .second, .val (.long y4), .second, .unset, .unset, .unset, .unset, .unset, .unset, .unset, .unset] [(.long (y2 * y4))]))
  generalize q_y5 : (y2 * y4) = y5
  refine OEnd.of (fun t k => XS.lstore X0.here hx rfl (hb hby d5_31) rfl (l' := #[.val (.long q1), .second, .val (.long q2), .second, .val (.long y1), .second, .val (.long y2), .second, .val (.long y3), .second, .val (.long y4), .second, .val (.long y5), .second, .unset, .unset, .unset, .unset, .unset, .unset]) rfl k) ?_
  show OEnd p e below _ (s₁.setTop (mkF m 33 #[.val (.long q1), .second, .val (.long q2), .second, .val (.long y1), .second, .val (.long y2), .second, .val (.long y3), .second, .val (.long y4), .second, .val (.long y5), .second, .unset, .unset, .unset, .unset, .unset, .unset] []))
  refine OEnd.of (fun t k => XS.lload X0.here hx rfl (hb hby d5_33) rfl k) ?_
  show OEnd p e below _ (s₁.setTop (mkF m 35 #[.val (.long q1), .second, .val (.long q2), .second, .val (.long y1), .second, .val (.long y2), .second, .val (.long y3), .second, .val (.long y4), .second, .val (.long y5), .second, .unset, .unset, .unset, .unset, .unset, .unset] [(.long y1)]))
  refine OEnd.of (fun t k => XS.lload X0.here hx rfl (hb hby d5_35) rfl k) ?_
  show OEnd p e below _ (s₁.setTop (mkF m 37 #[.val (.long q1), .second, .val (.long q2), .second, .val (.long y1), .second, .val (.long y2), .second, .val (.long y3), .second, .val (.long y4), .second, .val (.long y5), .second, .unset, .unset, .unset, .unset, .unset, .unset] [(.long y4), (.long y1)]))
  refine OEnd.of (fun t k => XS.lmul X0.here hx rfl (hb hby d5_37) rfl k) ?_
  show OEnd p e below _ (s₁.setTop (mkF m 38 #[.val (.long q1), .second, .val (.long q2), .second, .val (.long y1), .second, .val (.long y2), .second, .val (.long y3), .second, .val (.long y4), .second, .val (.long y5), .second, .unset, .unset, .unset, .unset, .unset, .unset] [(.long (y1 * y4))]))
  refine OEnd.of (fun t k => XS.lload X0.here hx rfl (hb hby d5_38) rfl k) ?_
  show OEnd p e below _ (s₁.setTop (mkF m 40 #[.val (.long q1), .second, .val (.long q2), .second, .val (.long y1), .second, .val (.long y2), .second, .val (.long y3), .second, .val (.long y4), .second, .val (.long y5), .second, .unset, .unset, .unset, .unset, .unset, .unset] [(.long y5), (.long (y1 * y4))]))
  refine OEnd.of (fun t k => XS.bipush X0.here hx rfl (hb hby d5_40) k) ?_
  show OEnd p e below _ (s₁.setTop (mkF m 42 #[.val (.long q1), .second, .val (.long q2), .second, .val (.long y1), .second, .val (.long y2), .second, .val (.long y3), .second, .val (.long y4), .second, .val (.long y5), .second, .unset, .unset, .unset, .unset, .unset, .unset] [(.int (32 : Int32)), (.long y5), (.long (y1 * y4))]))
  refine OEnd.of (fun t k => XS.lushr X0.here hx rfl (hb hby d5_42) rfl k) ?_
  show OEnd p e below _ (s₁.setTop (mkF m 43 #[.val (.long q1), .second, .val (.long q2), .second, .val (.long y1), .second, .val (.long y2), .second, .val (.long y3), .second, .val (.long y4), .second, .val (.long y5), .second, .unset, .unset, .unset, .unset, .unset, .unset] [(.long ((y5.toUInt64 >>> ((32 : Int32) &&& 0x3f).toInt64.toUInt64).toInt64)), (.long (y1 * y4))]))
  refine OEnd.of (fun t k => XS.ladd X0.here hx rfl (hb hby d5_43) rfl k) ?_
  show OEnd p e below _ (s₁.setTop (mkF m 44 #[.val (.long q1), .second, .val (.long q2), .second, .val (.long y1), .second, .val (.long y2), .second, .val (.long y3), .second, .val (.long y4), .second, .val (.long y5), .second, .unset, .unset, .unset, .unset, .unset, .unset] [(.long ((y1 * y4) + ((y5.toUInt64 >>> ((32 : Int32) &&& 0x3f).toInt64.toUInt64).toInt64)))]))
  generalize q_y6 : ((y1 * y4) + ((y5.toUInt64 >>> ((32 : Int32) &&& 0x3f).toInt64.toUInt64).toInt64)) = y6
  refine OEnd.of (fun t k => XS.lstore X0.here hx rfl (hb hby d5_44) rfl (l' := #[.val (.long q1), .second, .val (.long q2), .second, .val (.long y1), .second, .val (.long y2), .second, .val (.long y3), .second, .val (.long y4), .second, .val (.long y5), .second, .val (.long y6), .second, .unset, .unset, .unset, .unset]) rfl k) ?_
  show OEnd p e below _ (s₁.setTop (mkF m 46 #[.val (.long q1), .second, .val (.long q2), .second, .val (.long y1), .second, .val (.long y2), .second, .val (.long y3), .second, .val (.long y4), .second, .val (.long y5), .second, .val (.long y6), .second, .unset, .unset, .unset, .unset] []))
  refine OEnd.of (fun t k => XS.lload X0.here hx rfl (hb hby d5_46) rfl k) ?_
  show OEnd p e below _ (s₁.setTop (mkF m 48 #[.val (.long q1), .second, .val (.long q2), .second, .val (.long y1), .second, .val (.long y2), .second, .val (.long y3), .second, .val (.long y4), .second, .val (.long y5), .second, .val (.long y6), .second, .unset, .unset, .unset, .unset] [(.long y6)]))
  refine OEnd.of (X0.ldc2Long hx hown (mvT hZ (hw _ (List.mem_of_getElem? (i := 29) rfl))) (g := (mkF m 48 #[.val (.long q1), .second, .val (.long q2), .second, .val (.long y1), .second, .val (.long y2), .second, .val (.long y3), .second, .val (.long y4), .second, .val (.long y5), .second, .val (.long y6), .second, .unset, .unset, .unset, .unset] [(.long y6)])) rfl (hb hby d5_48)) ?_
  show OEnd p e below _ (s₁.setTop (mkF m 51 #[.val (.long q1), .second, .val (.long q2), .second, .val (.long y1), .second, .val (.long y2), .second, .val (.long y3), .second, .val (.long y4), .second, .val (.long y5), .second, .val (.long y6), .second, .unset, .unset, .unset, .unset] [(.long (4294967295 : Int64)), (.long y6)]))
  refine OEnd.of (fun t k => XS.land X0.here hx rfl (hb hby d5_51) rfl k) ?_
  show OEnd p e below _ (s₁.setTop (mkF m 52 #[.val (.long q1), .second, .val (.long q2), .second, .val (.long y1), .second, .val (.long y2), .second, .val (.long y3), .second, .val (.long y4), .second, .val (.long y5), .second, .val (.long y6), .second, .unset, .unset, .unset, .unset] [(.long (y6 &&& (4294967295 : Int64)))]))
  generalize q_y7 : (y6 &&& (4294967295 : Int64)) = y7
  refine OEnd.of (fun t k => XS.lstore X0.here hx rfl (hb hby d5_52) rfl (l' := #[.val (.long q1), .second, .val (.long q2), .second, .val (.long y1), .second, .val (.long y2), .second, .val (.long y3), .second, .val (.long y4), .second, .val (.long y5), .second, .val (.long y6), .second, .val (.long y7), .second, .unset, .unset]) rfl k) ?_
  show OEnd p e below _ (s₁.setTop (mkF m 54 #[.val (.long q1), .second, .val (.long q2), .second, .val (.long y1), .second, .val (.long y2), .second, .val (.long y3), .second, .val (.long y4), .second, .val (.long y5), .second, .val (.long y6), .second, .val (.long y7), .second, .unset, .unset] []))
  refine OEnd.of (fun t k => XS.lload X0.here hx rfl (hb hby d5_54) rfl k) ?_
  show OEnd p e below _ (s₁.setTop (mkF m 56 #[.val (.long q1), .second, .val (.long q2), .second, .val (.long y1), .second, .val (.long y2), .second, .val (.long y3), .second, .val (.long y4), .second, .val (.long y5), .second, .val (.long y6), .second, .val (.long y7), .second, .unset, .unset] [(.long y6)]))
  refine OEnd.of (fun t k => XS.bipush X0.here hx rfl (hb hby d5_56) k) ?_
  show OEnd p e below _ (s₁.setTop (mkF m 58 #[.val (.long q1), .second, .val (.long q2), .second, .val (.long y1), .second, .val (.long y2), .second, .val (.long y3), .second, .val (.long y4), .second, .val (.long y5), .second, .val (.long y6), .second, .val (.long y7), .second, .unset, .unset] [(.int (32 : Int32)), (.long y6)]))
  refine OEnd.of (fun t k => XS.lshr X0.here hx rfl (hb hby d5_58) rfl k) ?_
  show OEnd p e below _ (s₁.setTop (mkF m 59 #[.val (.long q1), .second, .val (.long q2), .second, .val (.long y1), .second, .val (.long y2), .second, .val (.long y3), .second, .val (.long y4), .second, .val (.long y5), .second, .val (.long y6), .second, .val (.long y7), .second, .unset, .unset] [(.long (y6 >>> ((32 : Int32) &&& 0x3f).toInt64))]))
  generalize q_y8 : (y6 >>> ((32 : Int32) &&& 0x3f).toInt64) = y8
  refine OEnd.of (fun t k => XS.lstore X0.here hx rfl (hb hby d5_59) rfl (l' := #[.val (.long q1), .second, .val (.long q2), .second, .val (.long y1), .second, .val (.long y2), .second, .val (.long y3), .second, .val (.long y4), .second, .val (.long y5), .second, .val (.long y6), .second, .val (.long y7), .second, .val (.long y8), .second]) rfl k) ?_
  show OEnd p e below _ (s₁.setTop (mkF m 61 #[.val (.long q1), .second, .val (.long q2), .second, .val (.long y1), .second, .val (.long y2), .second, .val (.long y3), .second, .val (.long y4), .second, .val (.long y5), .second, .val (.long y6), .second, .val (.long y7), .second, .val (.long y8), .second] []))
  refine OEnd.of (fun t k => XS.lload X0.here hx rfl (hb hby d5_61) rfl k) ?_
  show OEnd p e below _ (s₁.setTop (mkF m 63 #[.val (.long q1), .second, .val (.long q2), .second, .val (.long y1), .second, .val (.long y2), .second, .val (.long y3), .second, .val (.long y4), .second, .val (.long y5), .second, .val (.long y6), .second, .val (.long y7), .second, .val (.long y8), .second] [(.long y7)]))
  refine OEnd.of (fun t k => XS.lload X0.here hx rfl (hb hby d5_63) rfl k) ?_
  show OEnd p e below _ (s₁.setTop (mkF m 65 #[.val (.long q1), .second, .val (.long q2), .second, .val (.long y1), .second, .val (.long y2), .second, .val (.long y3), .second, .val (.long y4), .second, .val (.long y5), .second, .val (.long y6), .second, .val (.long y7), .second, .val (.long y8), .second] [(.long y2), (.long y7)]))
  refine OEnd.of (fun t k => XS.lload X0.here hx rfl (hb hby d5_65) rfl k) ?_
  show OEnd p e below _ (s₁.setTop (mkF m 67 #[.val (.long q1), .second, .val (.long q2), .second, .val (.long y1), .second, .val (.long y2), .second, .val (.long y3), .second, .val (.long y4), .second, .val (.long y5), .second, .val (.long y6), .second, .val (.long y7), .second, .val (.long y8), .second] [(.long y3), (.long y2), (.long y7)]))
  refine OEnd.of (fun t k => XS.lmul X0.here hx rfl (hb hby d5_67) rfl k) ?_
  show OEnd p e below _ (s₁.setTop (mkF m 68 #[.val (.long q1), .second, .val (.long q2), .second, .val (.long y1), .second, .val (.long y2), .second, .val (.long y3), .second, .val (.long y4), .second, .val (.long y5), .second, .val (.long y6), .second, .val (.long y7), .second, .val (.long y8), .second] [(.long (y2 * y3)), (.long y7)]))
  refine OEnd.of (fun t k => XS.ladd X0.here hx rfl (hb hby d5_68) rfl k) ?_
  show OEnd p e below _ (s₁.setTop (mkF m 69 #[.val (.long q1), .second, .val (.long q2), .second, .val (.long y1), .second, .val (.long y2), .second, .val (.long y3), .second, .val (.long y4), .second, .val (.long y5), .second, .val (.long y6), .second, .val (.long y7), .second, .val (.long y8), .second] [(.long (y7 + (y2 * y3)))]))
  generalize q_y9 : (y7 + (y2 * y3)) = y9
  refine OEnd.of (fun t k => XS.lstore X0.here hx rfl (hb hby d5_69) rfl (l' := #[.val (.long q1), .second, .val (.long q2), .second, .val (.long y1), .second, .val (.long y2), .second, .val (.long y3), .second, .val (.long y4), .second, .val (.long y5), .second, .val (.long y6), .second, .val (.long y9), .second, .val (.long y8), .second]) rfl k) ?_
  show OEnd p e below _ (s₁.setTop (mkF m 71 #[.val (.long q1), .second, .val (.long q2), .second, .val (.long y1), .second, .val (.long y2), .second, .val (.long y3), .second, .val (.long y4), .second, .val (.long y5), .second, .val (.long y6), .second, .val (.long y9), .second, .val (.long y8), .second] []))
  refine OEnd.of (fun t k => XS.lload X0.here hx rfl (hb hby d5_71) rfl k) ?_
  show OEnd p e below _ (s₁.setTop (mkF m 73 #[.val (.long q1), .second, .val (.long q2), .second, .val (.long y1), .second, .val (.long y2), .second, .val (.long y3), .second, .val (.long y4), .second, .val (.long y5), .second, .val (.long y6), .second, .val (.long y9), .second, .val (.long y8), .second] [(.long y1)]))
  refine OEnd.of (fun t k => XS.lload X0.here hx rfl (hb hby d5_73) rfl k) ?_
  show OEnd p e below _ (s₁.setTop (mkF m 75 #[.val (.long q1), .second, .val (.long q2), .second, .val (.long y1), .second, .val (.long y2), .second, .val (.long y3), .second, .val (.long y4), .second, .val (.long y5), .second, .val (.long y6), .second, .val (.long y9), .second, .val (.long y8), .second] [(.long y3), (.long y1)]))
  refine OEnd.of (fun t k => XS.lmul X0.here hx rfl (hb hby d5_75) rfl k) ?_
  show OEnd p e below _ (s₁.setTop (mkF m 76 #[.val (.long q1), .second, .val (.long q2), .second, .val (.long y1), .second, .val (.long y2), .second, .val (.long y3), .second, .val (.long y4), .second, .val (.long y5), .second, .val (.long y6), .second, .val (.long y9), .second, .val (.long y8), .second] [(.long (y1 * y3))]))
  refine OEnd.of (fun t k => XS.lload X0.here hx rfl (hb hby d5_76) rfl k) ?_
  show OEnd p e below _ (s₁.setTop (mkF m 78 #[.val (.long q1), .second, .val (.long q2), .second, .val (.long y1), .second, .val (.long y2), .second, .val (.long y3), .second, .val (.long y4), .second, .val (.long y5), .second, .val (.long y6), .second, .val (.long y9), .second, .val (.long y8), .second] [(.long y8), (.long (y1 * y3))]))
  refine OEnd.of (fun t k => XS.ladd X0.here hx rfl (hb hby d5_78) rfl k) ?_
  show OEnd p e below _ (s₁.setTop (mkF m 79 #[.val (.long q1), .second, .val (.long q2), .second, .val (.long y1), .second, .val (.long y2), .second, .val (.long y3), .second, .val (.long y4), .second, .val (.long y5), .second, .val (.long y6), .second, .val (.long y9), .second, .val (.long y8), .second] [(.long ((y1 * y3) + y8))]))
  refine OEnd.of (fun t k => XS.lload X0.here hx rfl (hb hby d5_79) rfl k) ?_
  show OEnd p e below _ (s₁.setTop (mkF m 81 #[.val (.long q1), .second, .val (.long q2), .second, .val (.long y1), .second, .val (.long y2), .second, .val (.long y3), .second, .val (.long y4), .second, .val (.long y5), .second, .val (.long y6), .second, .val (.long y9), .second, .val (.long y8), .second] [(.long y9), (.long ((y1 * y3) + y8))]))
  refine OEnd.of (fun t k => XS.bipush X0.here hx rfl (hb hby d5_81) k) ?_
  show OEnd p e below _ (s₁.setTop (mkF m 83 #[.val (.long q1), .second, .val (.long q2), .second, .val (.long y1), .second, .val (.long y2), .second, .val (.long y3), .second, .val (.long y4), .second, .val (.long y5), .second, .val (.long y6), .second, .val (.long y9), .second, .val (.long y8), .second] [(.int (32 : Int32)), (.long y9), (.long ((y1 * y3) + y8))]))
  refine OEnd.of (fun t k => XS.lshr X0.here hx rfl (hb hby d5_83) rfl k) ?_
  show OEnd p e below _ (s₁.setTop (mkF m 84 #[.val (.long q1), .second, .val (.long q2), .second, .val (.long y1), .second, .val (.long y2), .second, .val (.long y3), .second, .val (.long y4), .second, .val (.long y5), .second, .val (.long y6), .second, .val (.long y9), .second, .val (.long y8), .second] [(.long (y9 >>> ((32 : Int32) &&& 0x3f).toInt64)), (.long ((y1 * y3) + y8))]))
  refine OEnd.of (fun t k => XS.ladd X0.here hx rfl (hb hby d5_84) rfl k) ?_
  show OEnd p e below _ (s₁.setTop (mkF m 85 #[.val (.long q1), .second, .val (.long q2), .second, .val (.long y1), .second, .val (.long y2), .second, .val (.long y3), .second, .val (.long y4), .second, .val (.long y5), .second, .val (.long y6), .second, .val (.long y9), .second, .val (.long y8), .second] [(.long (((y1 * y3) + y8) + (y9 >>> ((32 : Int32) &&& 0x3f).toInt64)))]))
  exact OEnd.retJ X0 hx hlk e0 hret (hb hby d5_85) ⟨_, rfl, N0, rfl⟩ (by decide) (by decide)
theorem d7_0 : decode jdk_33_method_47_code 0 = .ok (.iload_n 0, 1) := by decide +kernel
theorem d7_1 : decode jdk_33_method_47_code 1 = .ok (.ifCond .gt 14, 3) := by decide +kernel
theorem d7_4 : decode jdk_33_method_47_code 4 = .ok (.iload_n 0, 1) := by decide +kernel
theorem d7_5 : decode jdk_33_method_47_code 5 = .ok (.ifCond .ne 8, 3) := by decide +kernel
theorem d7_8 : decode jdk_33_method_47_code 8 = .ok (.bipush 32, 2) := by decide +kernel
theorem d7_10 : decode jdk_33_method_47_code 10 = .ok (.goto 4, 3) := by decide +kernel
theorem d7_13 : decode jdk_33_method_47_code 13 = .ok (.iconst 0, 1) := by decide +kernel
theorem d7_14 : decode jdk_33_method_47_code 14 = .ok (.ireturn, 1) := by decide +kernel
theorem d7_15 : decode jdk_33_method_47_code 15 = .ok (.bipush 31, 2) := by decide +kernel
theorem d7_17 : decode jdk_33_method_47_code 17 = .ok (.istore_n 1, 1) := by decide +kernel
theorem d7_18 : decode jdk_33_method_47_code 18 = .ok (.iload_n 0, 1) := by decide +kernel
theorem d7_19 : decode jdk_33_method_47_code 19 = .ok (.ldc_w 264, 3) := by decide +kernel
theorem d7_22 : decode jdk_33_method_47_code 22 = .ok (.if_icmp .lt 11, 3) := by decide +kernel
theorem d7_25 : decode jdk_33_method_47_code 25 = .ok (.iinc 1 (-16), 3) := by decide +kernel
theorem d7_28 : decode jdk_33_method_47_code 28 = .ok (.iload_n 0, 1) := by decide +kernel
theorem d7_29 : decode jdk_33_method_47_code 29 = .ok (.bipush 16, 2) := by decide +kernel
theorem d7_31 : decode jdk_33_method_47_code 31 = .ok (.iushr, 1) := by decide +kernel
theorem d7_32 : decode jdk_33_method_47_code 32 = .ok (.istore_n 0, 1) := by decide +kernel
theorem d7_33 : decode jdk_33_method_47_code 33 = .ok (.iload_n 0, 1) := by decide +kernel
theorem d7_34 : decode jdk_33_method_47_code 34 = .ok (.sipush 256, 3) := by decide +kernel
theorem d7_37 : decode jdk_33_method_47_code 37 = .ok (.if_icmp .lt 11, 3) := by decide +kernel
theorem d7_40 : decode jdk_33_method_47_code 40 = .ok (.iinc 1 (-8), 3) := by decide +kernel
theorem d7_43 : decode jdk_33_method_47_code 43 = .ok (.iload_n 0, 1) := by decide +kernel
theorem d7_44 : decode jdk_33_method_47_code 44 = .ok (.bipush 8, 2) := by decide +kernel
theorem d7_46 : decode jdk_33_method_47_code 46 = .ok (.iushr, 1) := by decide +kernel
theorem d7_47 : decode jdk_33_method_47_code 47 = .ok (.istore_n 0, 1) := by decide +kernel
theorem d7_48 : decode jdk_33_method_47_code 48 = .ok (.iload_n 0, 1) := by decide +kernel
theorem d7_49 : decode jdk_33_method_47_code 49 = .ok (.bipush 16, 2) := by decide +kernel
theorem d7_51 : decode jdk_33_method_47_code 51 = .ok (.if_icmp .lt 10, 3) := by decide +kernel
theorem d7_54 : decode jdk_33_method_47_code 54 = .ok (.iinc 1 (-4), 3) := by decide +kernel
theorem d7_57 : decode jdk_33_method_47_code 57 = .ok (.iload_n 0, 1) := by decide +kernel
theorem d7_58 : decode jdk_33_method_47_code 58 = .ok (.iconst 4, 1) := by decide +kernel
theorem d7_59 : decode jdk_33_method_47_code 59 = .ok (.iushr, 1) := by decide +kernel
theorem d7_60 : decode jdk_33_method_47_code 60 = .ok (.istore_n 0, 1) := by decide +kernel
theorem d7_61 : decode jdk_33_method_47_code 61 = .ok (.iload_n 0, 1) := by decide +kernel
theorem d7_62 : decode jdk_33_method_47_code 62 = .ok (.iconst 4, 1) := by decide +kernel
theorem d7_63 : decode jdk_33_method_47_code 63 = .ok (.if_icmp .lt 10, 3) := by decide +kernel
theorem d7_66 : decode jdk_33_method_47_code 66 = .ok (.iinc 1 (-2), 3) := by decide +kernel
theorem d7_69 : decode jdk_33_method_47_code 69 = .ok (.iload_n 0, 1) := by decide +kernel
theorem d7_70 : decode jdk_33_method_47_code 70 = .ok (.iconst 2, 1) := by decide +kernel
theorem d7_71 : decode jdk_33_method_47_code 71 = .ok (.iushr, 1) := by decide +kernel
theorem d7_72 : decode jdk_33_method_47_code 72 = .ok (.istore_n 0, 1) := by decide +kernel
theorem d7_73 : decode jdk_33_method_47_code 73 = .ok (.iload_n 1, 1) := by decide +kernel
theorem d7_74 : decode jdk_33_method_47_code 74 = .ok (.iload_n 0, 1) := by decide +kernel
theorem d7_75 : decode jdk_33_method_47_code 75 = .ok (.iconst 1, 1) := by decide +kernel
theorem d7_76 : decode jdk_33_method_47_code 76 = .ok (.iushr, 1) := by decide +kernel
theorem d7_77 : decode jdk_33_method_47_code 77 = .ok (.isub, 1) := by decide +kernel
theorem d7_78 : decode jdk_33_method_47_code 78 = .ok (.ireturn, 1) := by decide +kernel
theorem pn_java_lang_Integer : plainName "java/lang/Integer" = true := by first | (simp [plainName, overriddenIn]; done) | decide +kernel
abbrev RMrm7 : Room := { frames := 0, cells := 0, slots := 0, locals := 0 }
theorem ef_rm7 (m : MethodId) (p1 : Int32) : entryFrame m #[(.int p1)] 2 = mkF m 0 #[.val (.int p1), .unset] [] := by first | (simp [entryFrame, mkF, argsToLocals, Value.category]; done) | rfl
def Qrm7 (Z : State)  (p1 : Int32) (h0 : Heap) (v : Option Value) (h : Heap) (L : List Loc) : Prop := ∃ (r : Int32), v = some (.int r) ∧ Fr Z.heap.size L ∧ h = h0
set_option maxRecDepth 65536 in
set_option maxHeartbeats 40000000 in
theorem rm7 (l : Launch) (Z : State) (a0 : Array Value) (hw : ∀ d ∈ tables_1, d.before a0 Z = true)   (ws : List Jvm.Cond) (p1 : Int32) (h0 : Heap) (O0 : Ext Z.heap h0) :
    MetFree l (⟨"java/lang/Integer", "numberOfLeadingZeros", "(I)I"⟩ : MethodName) (head1 (Jvm.Cond.code (⟨"java/lang/Integer", "numberOfLeadingZeros", "(I)I"⟩ : MethodName) jdk_33_method_47_code 2 (some .int) :: ws) RMrm7) (fun a U => a = #[(.int p1)] ∧ Z.Warmed39 U.vm ∧ U.heap = h0) (fun _ _ _ _ _ => True) (fun _ U o U' => ∃ v L, o = .returned v ∧ Qrm7 Z p1 h0 v U'.heap L ∧ FrameEnd U o U' L RMrm7.cells RMrm7.slots) := by
  refine MetFree.of_bodySF (plainFor_of_name pn_java_lang_Integer) hisR ?_
  intro p e s m args below meth c s₁ Bd hml0 hP hK
  obtain ⟨rfl, hZ, hh⟩ := hP
  have hx := Bd.exec
  have hby := Bd.bytes
  have hlk : meth.locks = false := BodyLoose.notSynchronized Bd
  have hret := Bd.returns
  have hml : c.maxLocals = 2 := hml0
  have hown : s.vm.findClass "java/lang/Integer" = some m.cls := findClass_of_methodNamed Bd.named
  have hnm := (name_of_methodNamed Bd.named Bd.method).1
  have X0 : Stand p l e RMrm7 s m #[(.int p1)] below meth c s₁ [] 0 0 := Stand.of_body Bd
  have e0 : s₁.heap = h0 := by rw [← hh, Bd.state]; rfl
  have N0 := Fr.nil Z.heap.size
  show OEnd p e below (GN s (Qrm7 Z p1 h0) RMrm7.cells RMrm7.slots) _
  refine OEnd.of (fun t k => castTop (ef_rm7 m p1) k) ?_
  refine OEnd.of (fun t k => XS.iloadN X0.here hx rfl (hb hby d7_0) rfl k) ?_
  show OEnd p e below _ (s₁.setTop (mkF m 1 #[.val (.int p1), .unset] [(.int p1)]))
  by_cases hc10 : (0 : Int32) < p1
  · refine OEnd.of (fun t k => XS.ifYes X0.here hx rfl (pc0 := 1) (pc' := 15) rfl (hb hby d7_1) rfl ((if0 _ _).trans (tlt hc10).2.2.1) (by decide) (by decide) k) ?_
    show OEnd p e below _ (s₁.setTop (mkF m 15 #[.val (.int p1), .unset] []))
    have J11 : ∀ (T11 : State) (Lo11 : List Loc) (i : Int32) (n : Int32), Stand p l e RMrm7 s m #[(.int p1)] below meth c T11 Lo11 0 0 → T11.heap = h0 → Fr Z.heap.size Lo11 → OEnd p e below (GN s (Qrm7 Z p1 h0) RMrm7.cells RMrm7.slots) (T11.setTop (mkF m 73 #[.val (.int i), .val (.int n)] [])) := by
      rintro T11 Lo11 i n X11 e11 N11
      show OEnd p e below _ (T11.setTop (mkF m 73 #[.val (.int i), .val (.int n)] []))
      refine OEnd.of (fun t k => XS.iloadN X11.here hx rfl (hb hby d7_73) rfl k) ?_
      show OEnd p e below _ (T11.setTop (mkF m 74 #[.val (.int i), .val (.int n)] [(.int n)]))
      refine OEnd.of (fun t k => XS.iloadN X11.here hx rfl (hb hby d7_74) rfl k) ?_
      show OEnd p e below _ (T11.setTop (mkF m 75 #[.val (.int i), .val (.int n)] [(.int i), (.int n)]))
      refine OEnd.of (fun t k => XS.iconst X11.here hx rfl (hb hby d7_75) k) ?_
      show OEnd p e below _ (T11.setTop (mkF m 76 #[.val (.int i), .val (.int n)] [(.int (1 : Int32)), (.int i), (.int n)]))
      refine OEnd.of (fun t k => XS.iushr X11.here hx rfl (hb hby d7_76) rfl k) ?_
      show OEnd p e below _ (T11.setTop (mkF m 77 #[.val (.int i), .val (.int n)] [(.int ((i.toUInt32 >>> ((1 : Int32) &&& 31).toUInt32).toInt32)), (.int n)]))
      refine OEnd.of (fun t k => XS.isub X11.here hx rfl (hb hby d7_77) rfl k) ?_
      show OEnd p e below _ (T11.setTop (mkF m 78 #[.val (.int i), .val (.int n)] [(.int (n - ((i.toUInt32 >>> ((1 : Int32) &&& 31).toUInt32).toInt32)))]))
      exact OEnd.retI X11 hx hlk e11 hret (hb hby d7_78) ⟨_, rfl, N11, rfl⟩ (by decide) (by decide)
    have J12 : ∀ (T12 : State) (Lo12 : List Loc) (i : Int32) (n : Int32), Stand p l e RMrm7 s m #[(.int p1)] below meth c T12 Lo12 0 0 → T12.heap = h0 → Fr Z.heap.size Lo12 → OEnd p e below (GN s (Qrm7 Z p1 h0) RMrm7.cells RMrm7.slots) (T12.setTop (mkF m 61 #[.val (.int i), .val (.int n)] [])) := by
      rintro T12 Lo12 i n X12 e12 N12
      show OEnd p e below _ (T12.setTop (mkF m 61 #[.val (.int i), .val (.int n)] []))
      refine OEnd.of (fun t k => XS.iloadN X12.here hx rfl (hb hby d7_61) rfl k) ?_
      show OEnd p e below _ (T12.setTop (mkF m 62 #[.val (.int i), .val (.int n)] [(.int i)]))
      refine OEnd.of (fun t k => XS.iconst X12.here hx rfl (hb hby d7_62) k) ?_
      show OEnd p e below _ (T12.setTop (mkF m 63 #[.val (.int i), .val (.int n)] [(.int (4 : Int32)), (.int i)]))
      by_cases hc13 : i < (4 : Int32)
      · refine OEnd.of (fun t k => XS.icmpYes X12.here hx rfl (pc0 := 63) (pc' := 73) rfl (hb hby d7_63) rfl (tlt hc13).1 (by decide) (by decide) k) ?_
        show OEnd p e below _ (T12.setTop (mkF m 73 #[.val (.int i), .val (.int n)] []))
        exact J11 T12 _ i n X12 e12 N12
      · refine OEnd.of (fun t k => XS.icmpNo X12.here hx rfl (hb hby d7_63) rfl (flt hc13).1 k) ?_
        show OEnd p e below _ (T12.setTop (mkF m 66 #[.val (.int i), .val (.int n)] []))
        refine OEnd.of (fun t k => XS.iinc X12.here hx rfl (hb hby d7_66) rfl (l' := #[.val (.int i), .val (.int (n + (-2 : Int32)))]) rfl k) ?_
        show OEnd p e below _ (T12.setTop (mkF m 69 #[.val (.int i), .val (.int (n + (-2 : Int32)))] []))
        refine OEnd.of (fun t k => XS.iloadN X12.here hx rfl (hb hby d7_69) rfl k) ?_
        show OEnd p e below _ (T12.setTop (mkF m 70 #[.val (.int i), .val (.int (n + (-2 : Int32)))] [(.int i)]))
        refine OEnd.of (fun t k => XS.iconst X12.here hx rfl (hb hby d7_70) k) ?_
        show OEnd p e below _ (T12.setTop (mkF m 71 #[.val (.int i), .val (.int (n + (-2 : Int32)))] [(.int (2 : Int32)), (.int i)]))
        refine OEnd.of (fun t k => XS.iushr X12.here hx rfl (hb hby d7_71) rfl k) ?_
        show OEnd p e below _ (T12.setTop (mkF m 72 #[.val (.int i), .val (.int (n + (-2 : Int32)))] [(.int ((i.toUInt32 >>> ((2 : Int32) &&& 31).toUInt32).toInt32))]))
        refine OEnd.of (fun t k => XS.istoreN X12.here hx rfl (hb hby d7_72) rfl (l' := #[.val (.int ((i.toUInt32 >>> ((2 : Int32) &&& 31).toUInt32).toInt32)), .val (.int (n + (-2 : Int32)))]) rfl k) ?_
        show OEnd p e below _ (T12.setTop (mkF m 73 #[.val (.int ((i.toUInt32 >>> ((2 : Int32) &&& 31).toUInt32).toInt32)), .val (.int (n + (-2 : Int32)))] []))
        exact J11 T12 _ ((i.toUInt32 >>> ((2 : Int32) &&& 31).toUInt32).toInt32) (n + (-2 : Int32)) X12 e12 N12
    have J14 : ∀ (T14 : State) (Lo14 : List Loc) (i : Int32) (n : Int32), Stand p l e RMrm7 s m #[(.int p1)] below meth c T14 Lo14 0 0 → T14.heap = h0 → Fr Z.heap.size Lo14 → OEnd p e below (GN s (Qrm7 Z p1 h0) RMrm7.cells RMrm7.slots) (T14.setTop (mkF m 48 #[.val (.int i), .val (.int n)] [])) := by
      rintro T14 Lo14 i n X14 e14 N14
      show OEnd p e below _ (T14.setTop (mkF m 48 #[.val (.int i), .val (.int n)] []))
      refine OEnd.of (fun t k => XS.iloadN X14.here hx rfl (hb hby d7_48) rfl k) ?_
      show OEnd p e below _ (T14.setTop (mkF m 49 #[.val (.int i), .val (.int n)] [(.int i)]))
      refine OEnd.of (fun t k => XS.bipush X14.here hx rfl (hb hby d7_49) k) ?_
      show OEnd p e below _ (T14.setTop (mkF m 51 #[.val (.int i), .val (.int n)] [(.int (16 : Int32)), (.int i)]))
      by_cases hc15 : i < (16 : Int32)
      · refine OEnd.of (fun t k => XS.icmpYes X14.here hx rfl (pc0 := 51) (pc' := 61) rfl (hb hby d7_51) rfl (tlt hc15).1 (by decide) (by decide) k) ?_
        show OEnd p e below _ (T14.setTop (mkF m 61 #[.val (.int i), .val (.int n)] []))
        exact J12 T14 _ i n X14 e14 N14
      · refine OEnd.of (fun t k => XS.icmpNo X14.here hx rfl (hb hby d7_51) rfl (flt hc15).1 k) ?_
        show OEnd p e below _ (T14.setTop (mkF m 54 #[.val (.int i), .val (.int n)] []))
        refine OEnd.of (fun t k => XS.iinc X14.here hx rfl (hb hby d7_54) rfl (l' := #[.val (.int i), .val (.int (n + (-4 : Int32)))]) rfl k) ?_
        show OEnd p e below _ (T14.setTop (mkF m 57 #[.val (.int i), .val (.int (n + (-4 : Int32)))] []))
        refine OEnd.of (fun t k => XS.iloadN X14.here hx rfl (hb hby d7_57) rfl k) ?_
        show OEnd p e below _ (T14.setTop (mkF m 58 #[.val (.int i), .val (.int (n + (-4 : Int32)))] [(.int i)]))
        refine OEnd.of (fun t k => XS.iconst X14.here hx rfl (hb hby d7_58) k) ?_
        show OEnd p e below _ (T14.setTop (mkF m 59 #[.val (.int i), .val (.int (n + (-4 : Int32)))] [(.int (4 : Int32)), (.int i)]))
        refine OEnd.of (fun t k => XS.iushr X14.here hx rfl (hb hby d7_59) rfl k) ?_
        show OEnd p e below _ (T14.setTop (mkF m 60 #[.val (.int i), .val (.int (n + (-4 : Int32)))] [(.int ((i.toUInt32 >>> ((4 : Int32) &&& 31).toUInt32).toInt32))]))
        refine OEnd.of (fun t k => XS.istoreN X14.here hx rfl (hb hby d7_60) rfl (l' := #[.val (.int ((i.toUInt32 >>> ((4 : Int32) &&& 31).toUInt32).toInt32)), .val (.int (n + (-4 : Int32)))]) rfl k) ?_
        show OEnd p e below _ (T14.setTop (mkF m 61 #[.val (.int ((i.toUInt32 >>> ((4 : Int32) &&& 31).toUInt32).toInt32)), .val (.int (n + (-4 : Int32)))] []))
        exact J12 T14 _ ((i.toUInt32 >>> ((4 : Int32) &&& 31).toUInt32).toInt32) (n + (-4 : Int32)) X14 e14 N14
    have J16 : ∀ (T16 : State) (Lo16 : List Loc) (i : Int32) (n : Int32), Stand p l e RMrm7 s m #[(.int p1)] below meth c T16 Lo16 0 0 → T16.heap = h0 → Fr Z.heap.size Lo16 → OEnd p e below (GN s (Qrm7 Z p1 h0) RMrm7.cells RMrm7.slots) (T16.setTop (mkF m 33 #[.val (.int i), .val (.int n)] [])) := by
      rintro T16 Lo16 i n X16 e16 N16
      show OEnd p e below _ (T16.setTop (mkF m 33 #[.val (.int i), .val (.int n)] []))
      refine OEnd.of (fun t k => XS.iloadN X16.here hx rfl (hb hby d7_33) rfl k) ?_
      show OEnd p e below _ (T16.setTop (mkF m 34 #[.val (.int i), .val (.int n)] [(.int i)]))
      refine OEnd.of (fun t k => XS.sipush X16.here hx rfl (hb hby d7_34) k) ?_
      show OEnd p e below _ (T16.setTop (mkF m 37 #[.val (.int i), .val (.int n)] [(.int (256 : Int32)), (.int i)]))
      by_cases hc17 : i < (256 : Int32)
      · refine OEnd.of (fun t k => XS.icmpYes X16.here hx rfl (pc0 := 37) (pc' := 48) rfl (hb hby d7_37) rfl (tlt hc17).1 (by decide) (by decide) k) ?_
        show OEnd p e below _ (T16.setTop (mkF m 48 #[.val (.int i), .val (.int n)] []))
        exact J14 T16 _ i n X16 e16 N16
      · refine OEnd.of (fun t k => XS.icmpNo X16.here hx rfl (hb hby d7_37) rfl (flt hc17).1 k) ?_
        show OEnd p e below _ (T16.setTop (mkF m 40 #[.val (.int i), .val (.int n)] []))
        refine OEnd.of (fun t k => XS.iinc X16.here hx rfl (hb hby d7_40) rfl (l' := #[.val (.int i), .val (.int (n + (-8 : Int32)))]) rfl k) ?_
        show OEnd p e below _ (T16.setTop (mkF m 43 #[.val (.int i), .val (.int (n + (-8 : Int32)))] []))
        refine OEnd.of (fun t k => XS.iloadN X16.here hx rfl (hb hby d7_43) rfl k) ?_
        show OEnd p e below _ (T16.setTop (mkF m 44 #[.val (.int i), .val (.int (n + (-8 : Int32)))] [(.int i)]))
        refine OEnd.of (fun t k => XS.bipush X16.here hx rfl (hb hby d7_44) k) ?_
        show OEnd p e below _ (T16.setTop (mkF m 46 #[.val (.int i), .val (.int (n + (-8 : Int32)))] [(.int (8 : Int32)), (.int i)]))
        refine OEnd.of (fun t k => XS.iushr X16.here hx rfl (hb hby d7_46) rfl k) ?_
        show OEnd p e below _ (T16.setTop (mkF m 47 #[.val (.int i), .val (.int (n + (-8 : Int32)))] [(.int ((i.toUInt32 >>> ((8 : Int32) &&& 31).toUInt32).toInt32))]))
        refine OEnd.of (fun t k => XS.istoreN X16.here hx rfl (hb hby d7_47) rfl (l' := #[.val (.int ((i.toUInt32 >>> ((8 : Int32) &&& 31).toUInt32).toInt32)), .val (.int (n + (-8 : Int32)))]) rfl k) ?_
        show OEnd p e below _ (T16.setTop (mkF m 48 #[.val (.int ((i.toUInt32 >>> ((8 : Int32) &&& 31).toUInt32).toInt32)), .val (.int (n + (-8 : Int32)))] []))
        exact J14 T16 _ ((i.toUInt32 >>> ((8 : Int32) &&& 31).toUInt32).toInt32) (n + (-8 : Int32)) X16 e16 N16
    refine OEnd.of (fun t k => XS.bipush X0.here hx rfl (hb hby d7_15) k) ?_
    show OEnd p e below _ (s₁.setTop (mkF m 17 #[.val (.int p1), .unset] [(.int (31 : Int32))]))
    refine OEnd.of (fun t k => XS.istoreN X0.here hx rfl (hb hby d7_17) rfl (l' := #[.val (.int p1), .val (.int (31 : Int32))]) rfl k) ?_
    show OEnd p e below _ (s₁.setTop (mkF m 18 #[.val (.int p1), .val (.int (31 : Int32))] []))
    refine OEnd.of (fun t k => XS.iloadN X0.here hx rfl (hb hby d7_18) rfl k) ?_
    show OEnd p e below _ (s₁.setTop (mkF m 19 #[.val (.int p1), .val (.int (31 : Int32))] [(.int p1)]))
    refine OEnd.of (X0.ldcwInt hx hown (mvT hZ (hw _ (List.mem_of_getElem? (i := 40) rfl))) (g := (mkF m 19 #[.val (.int p1), .val (.int (31 : Int32))] [(.int p1)])) rfl (hb hby d7_19)) ?_
    show OEnd p e below _ (s₁.setTop (mkF m 22 #[.val (.int p1), .val (.int (31 : Int32))] [(.int (65536 : Int32)), (.int p1)]))
    by_cases hc18 : p1 < (65536 : Int32)
    · refine OEnd.of (fun t k => XS.icmpYes X0.here hx rfl (pc0 := 22) (pc' := 33) rfl (hb hby d7_22) rfl (tlt hc18).1 (by decide) (by decide) k) ?_
      show OEnd p e below _ (s₁.setTop (mkF m 33 #[.val (.int p1), .val (.int (31 : Int32))] []))
      exact J16 s₁ _ p1 (31 : Int32) X0 e0 N0
    · refine OEnd.of (fun t k => XS.icmpNo X0.here hx rfl (hb hby d7_22) rfl (flt hc18).1 k) ?_
      show OEnd p e below _ (s₁.setTop (mkF m 25 #[.val (.int p1), .val (.int (31 : Int32))] []))
      refine OEnd.of (fun t k => XS.iinc X0.here hx rfl (hb hby d7_25) rfl (l' := #[.val (.int p1), .val (.int ((31 : Int32) + (-16 : Int32)))]) rfl k) ?_
      show OEnd p e below _ (s₁.setTop (mkF m 28 #[.val (.int p1), .val (.int ((31 : Int32) + (-16 : Int32)))] []))
      refine OEnd.of (fun t k => XS.iloadN X0.here hx rfl (hb hby d7_28) rfl k) ?_
      show OEnd p e below _ (s₁.setTop (mkF m 29 #[.val (.int p1), .val (.int ((31 : Int32) + (-16 : Int32)))] [(.int p1)]))
      refine OEnd.of (fun t k => XS.bipush X0.here hx rfl (hb hby d7_29) k) ?_
      show OEnd p e below _ (s₁.setTop (mkF m 31 #[.val (.int p1), .val (.int ((31 : Int32) + (-16 : Int32)))] [(.int (16 : Int32)), (.int p1)]))
      refine OEnd.of (fun t k => XS.iushr X0.here hx rfl (hb hby d7_31) rfl k) ?_
      show OEnd p e below _ (s₁.setTop (mkF m 32 #[.val (.int p1), .val (.int ((31 : Int32) + (-16 : Int32)))] [(.int ((p1.toUInt32 >>> ((16 : Int32) &&& 31).toUInt32).toInt32))]))
      refine OEnd.of (fun t k => XS.istoreN X0.here hx rfl (hb hby d7_32) rfl (l' := #[.val (.int ((p1.toUInt32 >>> ((16 : Int32) &&& 31).toUInt32).toInt32)), .val (.int ((31 : Int32) + (-16 : Int32)))]) rfl k) ?_
      show OEnd p e below _ (s₁.setTop (mkF m 33 #[.val (.int ((p1.toUInt32 >>> ((16 : Int32) &&& 31).toUInt32).toInt32)), .val (.int ((31 : Int32) + (-16 : Int32)))] []))
      exact J16 s₁ _ ((p1.toUInt32 >>> ((16 : Int32) &&& 31).toUInt32).toInt32) ((31 : Int32) + (-16 : Int32)) X0 e0 N0
  · refine OEnd.of (fun t k => XS.ifNo X0.here hx rfl (hb hby d7_1) rfl ((if0 _ _).trans (flt hc10).2.2.1) k) ?_
    show OEnd p e below _ (s₁.setTop (mkF m 4 #[.val (.int p1), .unset] []))
    refine OEnd.of (fun t k => XS.iloadN X0.here hx rfl (hb hby d7_4) rfl k) ?_
    show OEnd p e below _ (s₁.setTop (mkF m 5 #[.val (.int p1), .unset] [(.int p1)]))
    by_cases hc19 : p1 = (0 : Int32)
    · refine OEnd.of (fun t k => XS.ifNo X0.here hx rfl (hb hby d7_5) rfl ((if0 _ _).trans (teq hc19).2) k) ?_
      show OEnd p e below _ (s₁.setTop (mkF m 8 #[.val (.int p1), .unset] []))
      refine OEnd.of (fun t k => XS.bipush X0.here hx rfl (hb hby d7_8) k) ?_
      show OEnd p e below _ (s₁.setTop (mkF m 10 #[.val (.int p1), .unset] [(.int (32 : Int32))]))
      refine OEnd.of (fun t k => XS.goto X0.here hx rfl (pc0 := 10) (pc' := 14) rfl (hb hby d7_10) (by decide) (by decide) k) ?_
      show OEnd p e below _ (s₁.setTop (mkF m 14 #[.val (.int p1), .unset] [(.int (32 : Int32))]))
      exact OEnd.retI X0 hx hlk e0 hret (hb hby d7_14) ⟨_, rfl, N0, rfl⟩ (by decide) (by decide)
    · refine OEnd.of (fun t k => XS.ifYes X0.here hx rfl (pc0 := 5) (pc' := 13) rfl (hb hby d7_5) rfl ((if0 _ _).trans (feq hc19).2) (by decide) (by decide) k) ?_
      show OEnd p e below _ (s₁.setTop (mkF m 13 #[.val (.int p1), .unset] []))
      refine OEnd.of (fun t k => XS.iconst X0.here hx rfl (hb hby d7_13) k) ?_
      show OEnd p e below _ (s₁.setTop (mkF m 14 #[.val (.int p1), .unset] [(.int (0 : Int32))]))
      exact OEnd.retI X0 hx hlk e0 hret (hb hby d7_14) ⟨_, rfl, N0, rfl⟩ (by decide) (by decide)
theorem pd_28I29I : parseMethodDescriptor "(I)I" = some ⟨[.int], some .int⟩ := by decide +kernel
theorem d6_0 : decode jdk_35_method_48_code 0 = .ok (.lload_n 0, 1) := by decide +kernel
theorem d6_1 : decode jdk_35_method_48_code 1 = .ok (.bipush 32, 2) := by decide +kernel
theorem d6_3 : decode jdk_35_method_48_code 3 = .ok (.lushr, 1) := by decide +kernel
theorem d6_4 : decode jdk_35_method_48_code 4 = .ok (.l2i, 1) := by decide +kernel
theorem d6_5 : decode jdk_35_method_48_code 5 = .ok (.istore_n 2, 1) := by decide +kernel
theorem d6_6 : decode jdk_35_method_48_code 6 = .ok (.iload_n 2, 1) := by decide +kernel
theorem d6_7 : decode jdk_35_method_48_code 7 = .ok (.ifCond .ne 14, 3) := by decide +kernel
theorem d6_10 : decode jdk_35_method_48_code 10 = .ok (.bipush 32, 2) := by decide +kernel
theorem d6_12 : decode jdk_35_method_48_code 12 = .ok (.lload_n 0, 1) := by decide +kernel
theorem d6_13 : decode jdk_35_method_48_code 13 = .ok (.l2i, 1) := by decide +kernel
theorem d6_14 : decode jdk_35_method_48_code 14 = .ok (.invokestatic 308, 3) := by decide +kernel
theorem d6_17 : decode jdk_35_method_48_code 17 = .ok (.iadd, 1) := by decide +kernel
theorem d6_18 : decode jdk_35_method_48_code 18 = .ok (.goto 7, 3) := by decide +kernel
theorem d6_21 : decode jdk_35_method_48_code 21 = .ok (.iload_n 2, 1) := by decide +kernel
theorem d6_22 : decode jdk_35_method_48_code 22 = .ok (.invokestatic 308, 3) := by decide +kernel
theorem d6_25 : decode jdk_35_method_48_code 25 = .ok (.ireturn, 1) := by decide +kernel
theorem pn_java_lang_Long : plainName "java/lang/Long" = true := by first | (simp [plainName, overriddenIn]; done) | decide +kernel
abbrev RMrm6 : Room := { frames := 1, cells := 0, slots := 0, locals := 14 }
theorem ef_rm6 (m : MethodId) (q1 : Int64) : entryFrame m #[(.long q1)] 3 = mkF m 0 #[.val (.long q1), .second, .unset] [] := by first | (simp [entryFrame, mkF, argsToLocals, Value.category]; done) | rfl
def Qrm6 (Z : State)  (q1 : Int64) (h0 : Heap) (v : Option Value) (h : Heap) (L : List Loc) : Prop := ∃ (r : Int32), v = some (.int r) ∧ Fr Z.heap.size L ∧ h = h0
set_option maxRecDepth 65536 in
set_option maxHeartbeats 40000000 in
theorem rm6 (l : Launch) (Z : State) (a0 : Array Value) (hw : ∀ d ∈ tables_1, d.before a0 Z = true)   (ws : List Jvm.Cond) (q1 : Int64) (h0 : Heap) (O0 : Ext Z.heap h0) :
    MetFree l (⟨"java/lang/Long", "numberOfLeadingZeros", "(J)I"⟩ : MethodName) (head1 (Jvm.Cond.code (⟨"java/lang/Long", "numberOfLeadingZeros", "(J)I"⟩ : MethodName) jdk_35_method_48_code 3 (some .int) :: ws) RMrm6) (fun a U => a = #[(.long q1)] ∧ Z.Warmed39 U.vm ∧ U.heap = h0) (fun _ _ _ _ _ => True) (fun _ U o U' => ∃ v L, o = .returned v ∧ Qrm6 Z q1 h0 v U'.heap L ∧ FrameEnd U o U' L RMrm6.cells RMrm6.slots) := by
  refine MetFree.of_bodySF (plainFor_of_name pn_java_lang_Long) hisR ?_
  intro p e s m args below meth c s₁ Bd hml0 hP hK
  obtain ⟨rfl, hZ, hh⟩ := hP
  have hx := Bd.exec
  have hby := Bd.bytes
  have hlk : meth.locks = false := BodyLoose.notSynchronized Bd
  have hret := Bd.returns
  have hml : c.maxLocals = 3 := hml0
  have hown : s.vm.findClass "java/lang/Long" = some m.cls := findClass_of_methodNamed Bd.named
  have hnm := (name_of_methodNamed Bd.named Bd.method).1
  have X0 : Stand p l e RMrm6 s m #[(.long q1)] below meth c s₁ [] 0 0 := Stand.of_body Bd
  have e0 : s₁.heap = h0 := by rw [← hh, Bd.state]; rfl
  have N0 := Fr.nil Z.heap.size
  show OEnd p e below (GN s (Qrm6 Z q1 h0) RMrm6.cells RMrm6.slots) _
  refine OEnd.of (fun t k => castTop (ef_rm6 m q1) k) ?_
  refine OEnd.of (fun t k => XS.lloadN X0.here hx rfl (hb hby d6_0) rfl k) ?_
  show OEnd p e below _ (s₁.setTop (mkF m 1 #[.val (.long q1), .second, .unset] [(.long q1)]))
  refine OEnd.of (fun t k => XS.bipush X0.here hx rfl (hb hby d6_1) k) ?_
  show OEnd p e below _ (s₁.setTop (mkF m 3 #[.val (.long q1), .second, .unset] [(.int (32 : Int32)), (.long q1)]))
  refine OEnd.of (fun t k => XS.lushr X0.here hx rfl (hb hby d6_3) rfl k) ?_
  show OEnd p e below _ (s₁.setTop (mkF m 4 #[.val (.long q1), .second, .unset] [(.long ((q1.toUInt64 >>> ((32 : Int32) &&& 0x3f).toInt64.toUInt64).toInt64))]))
  refine OEnd.of (fun t k => XS.l2i X0.here hx rfl (hb hby d6_4) rfl k) ?_
  show OEnd p e below _ (s₁.setTop (mkF m 5 #[.val (.long q1), .second, .unset] [(.int (((q1.toUInt64 >>> ((32 : Int32) &&& 0x3f).toInt64.toUInt64).toInt64).toInt32))]))
  refine OEnd.of (fun t k => XS.istoreN X0.here hx rfl (hb hby d6_5) rfl (l' := #[.val (.long q1), .second, .val (.int (((q1.toUInt64 >>> ((32 : Int32) &&& 0x3f).toInt64.toUInt64).toInt64).toInt32))]) rfl k) ?_
  show OEnd p e below _ (s₁.setTop (mkF m 6 #[.val (.long q1), .second, .val (.int (((q1.toUInt64 >>> ((32 : Int32) &&& 0x3f).toInt64.toUInt64).toInt64).toInt32))] []))
  refine OEnd.of (fun t k => XS.iloadN X0.here hx rfl (hb hby d6_6) rfl k) ?_
  show OEnd p e below _ (s₁.setTop (mkF m 7 #[.val (.long q1), .second, .val (.int (((q1.toUInt64 >>> ((32 : Int32) &&& 0x3f).toInt64.toUInt64).toInt64).toInt32))] [(.int (((q1.toUInt64 >>> ((32 : Int32) &&& 0x3f).toInt64.toUInt64).toInt64).toInt32))]))
  by_cases hc20 : (((q1.toUInt64 >>> ((32 : Int32) &&& 0x3f).toInt64.toUInt64).toInt64).toInt32) = (0 : Int32)
  · refine OEnd.of (fun t k => XS.ifNo X0.here hx rfl (hb hby d6_7) rfl ((if0 _ _).trans (teq hc20).2) k) ?_
    show OEnd p e below _ (s₁.setTop (mkF m 10 #[.val (.long q1), .second, .val (.int (((q1.toUInt64 >>> ((32 : Int32) &&& 0x3f).toInt64.toUInt64).toInt64).toInt32))] []))
    refine OEnd.of (fun t k => XS.bipush X0.here hx rfl (hb hby d6_10) k) ?_
    show OEnd p e below _ (s₁.setTop (mkF m 12 #[.val (.long q1), .second, .val (.int (((q1.toUInt64 >>> ((32 : Int32) &&& 0x3f).toInt64.toUInt64).toInt64).toInt32))] [(.int (32 : Int32))]))
    refine OEnd.of (fun t k => XS.lloadN X0.here hx rfl (hb hby d6_12) rfl k) ?_
    show OEnd p e below _ (s₁.setTop (mkF m 13 #[.val (.long q1), .second, .val (.int (((q1.toUInt64 >>> ((32 : Int32) &&& 0x3f).toInt64.toUInt64).toInt64).toInt32))] [(.long q1), (.int (32 : Int32))]))
    refine OEnd.of (fun t k => XS.l2i X0.here hx rfl (hb hby d6_13) rfl k) ?_
    show OEnd p e below _ (s₁.setTop (mkF m 14 #[.val (.long q1), .second, .val (.int (((q1.toUInt64 >>> ((32 : Int32) &&& 0x3f).toInt64.toUInt64).toInt64).toInt32))] [(.int (q1.toInt32)), (.int (32 : Int32))]))
    obtain ⟨_, _, ⟨T21, L21, k21, n21⟩, -, X21, ⟨Lc21, hQ21, l21, y21, z21⟩, st21⟩ := Jvm.LawKit.callS X0 hx (y := (⟨"java/lang/Integer", "numberOfLeadingZeros", "(I)I"⟩ : MethodName)) hown (mvT hZ (hw _ (List.mem_of_getElem? (i := 36) rfl))) (mvT hZ (hw _ (List.mem_of_getElem? (i := 37) rfl))) (mvT hZ (hw _ (List.mem_of_getElem? (i := 38) rfl))) (mvT hZ (hw _ (List.mem_of_getElem? (i := 39) rfl))) (by decide) (backOf (W := 1) (rm7 l Z a0 hw  [] (q1.toInt32) h0 O0 ) hZ (hw _ (List.mem_of_getElem? (i := 39) rfl)) (hw _ (List.mem_of_getElem? (i := 38) rfl)) (by decide) (by decide)) (g := (mkF m 14 #[.val (.long q1), .second, .val (.int (((q1.toUInt64 >>> ((32 : Int32) &&& 0x3f).toInt64.toUInt64).toInt64).toInt32))] [(.int (q1.toInt32)), (.int (32 : Int32))])) rfl (by rw [hml]; rfl) (argsL := [(.int (q1.toInt32))]) (rest := [(.int (32 : Int32))]) (lenOf pd_28I29I rfl) rfl (by show 2 * 0 + _ ≤ _; exact Nat.le_of_eq rfl) (hb hby d6_14) (fun _ _ => ⟨rfl, e0, (by decide : 0 + 0 ≤ _), (by decide : 0 + 0 ≤ _)⟩)
    dsimp only [Pt.U, Pt.locs, Pt.cells, Pt.slots] at X21 l21 y21 z21 st21 hQ21
    subst l21 y21 z21
    obtain ⟨r_22, rfl, Nq21, e21⟩ := hQ21
    have N23 := Fr.app N0 Nq21
    refine OEnd.of st21 ?_
    show OEnd p e below _ (T21.setTop (mkF m 17 #[.val (.long q1), .second, .val (.int (((q1.toUInt64 >>> ((32 : Int32) &&& 0x3f).toInt64.toUInt64).toInt64).toInt32))] [(.int r_22), (.int (32 : Int32))]))
    refine OEnd.of (fun t k => XS.iadd X21.here hx rfl (hb hby d6_17) rfl k) ?_
    show OEnd p e below _ (T21.setTop (mkF m 18 #[.val (.long q1), .second, .val (.int (((q1.toUInt64 >>> ((32 : Int32) &&& 0x3f).toInt64.toUInt64).toInt64).toInt32))] [(.int ((32 : Int32) + r_22))]))
    refine OEnd.of (fun t k => XS.goto X21.here hx rfl (pc0 := 18) (pc' := 25) rfl (hb hby d6_18) (by decide) (by decide) k) ?_
    show OEnd p e below _ (T21.setTop (mkF m 25 #[.val (.long q1), .second, .val (.int (((q1.toUInt64 >>> ((32 : Int32) &&& 0x3f).toInt64.toUInt64).toInt64).toInt32))] [(.int ((32 : Int32) + r_22))]))
    exact OEnd.retI X21 hx hlk e21 hret (hb hby d6_25) ⟨_, rfl, N23, rfl⟩ (by decide) (by decide)
  · refine OEnd.of (fun t k => XS.ifYes X0.here hx rfl (pc0 := 7) (pc' := 21) rfl (hb hby d6_7) rfl ((if0 _ _).trans (feq hc20).2) (by decide) (by decide) k) ?_
    show OEnd p e below _ (s₁.setTop (mkF m 21 #[.val (.long q1), .second, .val (.int (((q1.toUInt64 >>> ((32 : Int32) &&& 0x3f).toInt64.toUInt64).toInt64).toInt32))] []))
    refine OEnd.of (fun t k => XS.iloadN X0.here hx rfl (hb hby d6_21) rfl k) ?_
    show OEnd p e below _ (s₁.setTop (mkF m 22 #[.val (.long q1), .second, .val (.int (((q1.toUInt64 >>> ((32 : Int32) &&& 0x3f).toInt64.toUInt64).toInt64).toInt32))] [(.int (((q1.toUInt64 >>> ((32 : Int32) &&& 0x3f).toInt64.toUInt64).toInt64).toInt32))]))
    obtain ⟨_, _, ⟨T24, L24, k24, n24⟩, -, X24, ⟨Lc24, hQ24, l24, y24, z24⟩, st24⟩ := Jvm.LawKit.callS X0 hx (y := (⟨"java/lang/Integer", "numberOfLeadingZeros", "(I)I"⟩ : MethodName)) hown (mvT hZ (hw _ (List.mem_of_getElem? (i := 36) rfl))) (mvT hZ (hw _ (List.mem_of_getElem? (i := 37) rfl))) (mvT hZ (hw _ (List.mem_of_getElem? (i := 38) rfl))) (mvT hZ (hw _ (List.mem_of_getElem? (i := 39) rfl))) (by decide) (backOf (W := 0) (rm7 l Z a0 hw  [] (((q1.toUInt64 >>> ((32 : Int32) &&& 0x3f).toInt64.toUInt64).toInt64).toInt32) h0 O0 ) hZ (hw _ (List.mem_of_getElem? (i := 39) rfl)) (hw _ (List.mem_of_getElem? (i := 38) rfl)) (by decide) (by decide)) (g := (mkF m 22 #[.val (.long q1), .second, .val (.int (((q1.toUInt64 >>> ((32 : Int32) &&& 0x3f).toInt64.toUInt64).toInt64).toInt32))] [(.int (((q1.toUInt64 >>> ((32 : Int32) &&& 0x3f).toInt64.toUInt64).toInt64).toInt32))])) rfl (by rw [hml]; rfl) (argsL := [(.int (((q1.toUInt64 >>> ((32 : Int32) &&& 0x3f).toInt64.toUInt64).toInt64).toInt32))]) (rest := []) (lenOf pd_28I29I rfl) rfl (by show 2 * 0 + _ ≤ _; exact Nat.le_of_eq rfl) (hb hby d6_22) (fun _ _ => ⟨rfl, e0, (by decide : 0 + 0 ≤ _), (by decide : 0 + 0 ≤ _)⟩)
    dsimp only [Pt.U, Pt.locs, Pt.cells, Pt.slots] at X24 l24 y24 z24 st24 hQ24
    subst l24 y24 z24
    obtain ⟨r_25, rfl, Nq24, e24⟩ := hQ24
    have N26 := Fr.app N0 Nq24
    refine OEnd.of st24 ?_
    show OEnd p e below _ (T24.setTop (mkF m 25 #[.val (.long q1), .second, .val (.int (((q1.toUInt64 >>> ((32 : Int32) &&& 0x3f).toInt64.toUInt64).toInt64).toInt32))] [(.int r_25)]))
    exact OEnd.retI X24 hx hlk e24 hret (hb hby d6_25) ⟨_, rfl, N26, rfl⟩ (by decide) (by decide)
theorem pd_28JJ29J : parseMethodDescriptor "(JJ)J" = some ⟨[.long, .long], some .long⟩ := by decide +kernel
theorem d4_0 : decode prog_25_method_7_code 0 = .ok (.lload_n 1, 1) := by decide +kernel
theorem d4_1 : decode prog_25_method_7_code 1 = .ok (.aload_n 0, 1) := by decide +kernel
theorem d4_2 : decode prog_25_method_7_code 2 = .ok (.getfield 16, 3) := by decide +kernel
theorem d4_5 : decode prog_25_method_7_code 5 = .ok (.invokestatic 41, 3) := by decide +kernel
theorem d4_8 : decode prog_25_method_7_code 8 = .ok (.lconst 0, 1) := by decide +kernel
theorem d4_9 : decode prog_25_method_7_code 9 = .ok (.lcmp, 1) := by decide +kernel
theorem d4_10 : decode prog_25_method_7_code 10 = .ok (.ifCond .ne 12, 3) := by decide +kernel
theorem d4_13 : decode prog_25_method_7_code 13 = .ok (.lload_n 1, 1) := by decide +kernel
theorem d4_14 : decode prog_25_method_7_code 14 = .ok (.aload_n 0, 1) := by decide +kernel
theorem d4_15 : decode prog_25_method_7_code 15 = .ok (.getfield 16, 3) := by decide +kernel
theorem d4_18 : decode prog_25_method_7_code 18 = .ok (.lmul, 1) := by decide +kernel
theorem d4_19 : decode prog_25_method_7_code 19 = .ok (.goto 6, 3) := by decide +kernel
theorem d4_22 : decode prog_25_method_7_code 22 = .ok (.ldc2_w 47, 3) := by decide +kernel
theorem d4_25 : decode prog_25_method_7_code 25 = .ok (.lreturn, 1) := by decide +kernel
theorem pn_com_example_metr_metr_Parts : plainName "com/example/metr/metr/Parts" = true := by first | (simp [plainName, overriddenIn]; done) | decide +kernel
abbrev RMrm4 : Room := { frames := 1, cells := 0, slots := 0, locals := 31 }
theorem ef_rm4 (m : MethodId) (a1 : Addr) (q2 : Int64) : entryFrame m #[(.ref a1), (.long q2)] 3 = mkF m 0 #[.val (.ref a1), .val (.long q2), .second] [] := by first | (simp [entryFrame, mkF, argsToLocals, Value.category]; done) | rfl
def Qrm4 (Z : State)  (a1 : Addr) (q2 : Int64) (w3 : Int64) (h0 : Heap) (v : Option Value) (h : Heap) (L : List Loc) : Prop := ∃ (r : Int64), v = some (.long r) ∧ Fr Z.heap.size L ∧ h = h0
set_option maxRecDepth 65536 in
set_option maxHeartbeats 40000000 in
theorem rm4 (l : Launch) (Z : State) (a0 : Array Value) (hw : ∀ d ∈ tables_1, d.before a0 Z = true)   (ws : List Jvm.Cond) (a1 : Addr) (q2 : Int64) (w3 : Int64) (h0 : Heap) (O0 : Ext Z.heap h0) (Fp : Fld Z h0 a1 "com/example/metr/metr/Parts" "refillPeriod" "J" (.long w3)) :
    MetFree l (⟨"com/example/metr/metr/Parts", "parts", "(J)J"⟩ : MethodName) (head1 (Jvm.Cond.code (⟨"com/example/metr/metr/Parts", "parts", "(J)J"⟩ : MethodName) prog_25_method_7_code 3 (some .long) :: ws) RMrm4) (fun a U => a = #[(.ref a1), (.long q2)] ∧ Z.Warmed39 U.vm ∧ U.heap = h0) (fun _ _ _ _ _ => True) (fun _ U o U' => ∃ v L, o = .returned v ∧ Qrm4 Z a1 q2 w3 h0 v U'.heap L ∧ FrameEnd U o U' L RMrm4.cells RMrm4.slots) := by
  refine MetFree.of_bodySF (plainFor_of_name pn_com_example_metr_metr_Parts) hisR ?_
  intro p e s m args below meth c s₁ Bd hml0 hP hK
  obtain ⟨rfl, hZ, hh⟩ := hP
  have hx := Bd.exec
  have hby := Bd.bytes
  have hlk : meth.locks = false := BodyLoose.notSynchronized Bd
  have hret := Bd.returns
  have hml : c.maxLocals = 3 := hml0
  have hown : s.vm.findClass "com/example/metr/metr/Parts" = some m.cls := findClass_of_methodNamed Bd.named
  have hnm := (name_of_methodNamed Bd.named Bd.method).1
  have X0 : Stand p l e RMrm4 s m #[(.ref a1), (.long q2)] below meth c s₁ [] 0 0 := Stand.of_body Bd
  have e0 : s₁.heap = h0 := by rw [← hh, Bd.state]; rfl
  have N0 := Fr.nil Z.heap.size
  show OEnd p e below (GN s (Qrm4 Z a1 q2 w3 h0) RMrm4.cells RMrm4.slots) _
  refine OEnd.of (fun t k => castTop (ef_rm4 m a1 q2) k) ?_
  refine OEnd.of (fun t k => XS.lloadN X0.here hx rfl (hb hby d4_0) rfl k) ?_
  show OEnd p e below _ (s₁.setTop (mkF m 1 #[.val (.ref a1), .val (.long q2), .second] [(.long q2)]))
  refine OEnd.of (fun t k => XS.aloadN X0.here hx rfl (hb hby d4_1) rfl rfl k) ?_
  show OEnd p e below _ (s₁.setTop (mkF m 2 #[.val (.ref a1), .val (.long q2), .second] [(.ref a1), (.long q2)]))
  obtain ⟨T27, X27, e27, st27⟩ := getF X0 hx hZ hown (host := "") (Or.inl (hw _ (List.mem_of_getElem? (i := 19) rfl))) Via.refl e0 Fp (g := (mkF m 2 #[.val (.ref a1), .val (.long q2), .second] [(.ref a1), (.long q2)])) rfl rfl (hb hby d4_2)
  refine OEnd.of st27 ?_
  show OEnd p e below _ (T27.setTop (mkF m 5 #[.val (.ref a1), .val (.long q2), .second] [(.long w3), (.long q2)]))
  obtain ⟨_, _, ⟨T28, L28, k28, n28⟩, -, X28, ⟨Lc28, hQ28, l28, y28, z28⟩, st28⟩ := Jvm.LawKit.callS X27 hx (y := (⟨"java/lang/Math", "multiplyHigh", "(JJ)J"⟩ : MethodName)) hown (mvT hZ (hw _ (List.mem_of_getElem? (i := 26) rfl))) (mvT hZ (hw _ (List.mem_of_getElem? (i := 27) rfl))) (mvT hZ (hw _ (List.mem_of_getElem? (i := 3) rfl))) (mvT hZ (hw _ (List.mem_of_getElem? (i := 28) rfl))) (by decide) (backOf (W := 0) (rm5 l Z a0 hw  [] q2 w3 h0 O0 ) hZ (hw _ (List.mem_of_getElem? (i := 28) rfl)) (hw _ (List.mem_of_getElem? (i := 3) rfl)) (by decide) (by decide)) (g := (mkF m 5 #[.val (.ref a1), .val (.long q2), .second] [(.long w3), (.long q2)])) rfl (by rw [hml]; rfl) (argsL := [(.long q2), (.long w3)]) (rest := []) (lenOf pd_28JJ29J rfl) rfl (by show 2 * 0 + _ ≤ _; exact Nat.le_of_eq rfl) (hb hby d4_5) (fun _ _ => ⟨rfl, e27, (by decide : 0 + 0 ≤ _), (by decide : 0 + 0 ≤ _)⟩)
  dsimp only [Pt.U, Pt.locs, Pt.cells, Pt.slots] at X28 l28 y28 z28 st28 hQ28
  subst l28 y28 z28
  obtain ⟨r_29, rfl, Nq28, e28⟩ := hQ28
  have N30 := Fr.app N0 Nq28
  refine OEnd.of st28 ?_
  show OEnd p e below _ (T28.setTop (mkF m 8 #[.val (.ref a1), .val (.long q2), .second] [(.long r_29)]))
  refine OEnd.of (fun t k => XS.lconst X28.here hx rfl (hb hby d4_8) k) ?_
  show OEnd p e below _ (T28.setTop (mkF m 9 #[.val (.ref a1), .val (.long q2), .second] [(.long (0 : Int64)), (.long r_29)]))
  refine OEnd.of (fun t k => XS.lcmp X28.here hx rfl (hb hby d4_9) rfl k) ?_
  show OEnd p e below _ (T28.setTop (mkF m 10 #[.val (.ref a1), .val (.long q2), .second] [(.int (lcmpW r_29 (0 : Int64)))]))
  by_cases hc31 : r_29 = (0 : Int64)
  · refine OEnd.of (fun t k => XS.ifNo X28.here hx rfl (hb hby d4_10) rfl ((if0 _ _).trans (teq ((lw_eq _ _).mpr hc31)).2) k) ?_
    show OEnd p e below _ (T28.setTop (mkF m 13 #[.val (.ref a1), .val (.long q2), .second] []))
    refine OEnd.of (fun t k => XS.lloadN X28.here hx rfl (hb hby d4_13) rfl k) ?_
    show OEnd p e below _ (T28.setTop (mkF m 14 #[.val (.ref a1), .val (.long q2), .second] [(.long q2)]))
    refine OEnd.of (fun t k => XS.aloadN X28.here hx rfl (hb hby d4_14) rfl rfl k) ?_
    show OEnd p e below _ (T28.setTop (mkF m 15 #[.val (.ref a1), .val (.long q2), .second] [(.ref a1), (.long q2)]))
    obtain ⟨T32, X32, e32, st32⟩ := getF X28 hx hZ hown (host := "") (Or.inl (hw _ (List.mem_of_getElem? (i := 19) rfl))) Via.refl e28 Fp (g := (mkF m 15 #[.val (.ref a1), .val (.long q2), .second] [(.ref a1), (.long q2)])) rfl rfl (hb hby d4_15)
    refine OEnd.of st32 ?_
    show OEnd p e below _ (T32.setTop (mkF m 18 #[.val (.ref a1), .val (.long q2), .second] [(.long w3), (.long q2)]))
    refine OEnd.of (fun t k => XS.lmul X32.here hx rfl (hb hby d4_18) rfl k) ?_
    show OEnd p e below _ (T32.setTop (mkF m 19 #[.val (.ref a1), .val (.long q2), .second] [(.long (q2 * w3))]))
    refine OEnd.of (fun t k => XS.goto X32.here hx rfl (pc0 := 19) (pc' := 25) rfl (hb hby d4_19) (by decide) (by decide) k) ?_
    show OEnd p e below _ (T32.setTop (mkF m 25 #[.val (.ref a1), .val (.long q2), .second] [(.long (q2 * w3))]))
    exact OEnd.retJ X32 hx hlk e32 hret (hb hby d4_25) ⟨_, rfl, N30, rfl⟩ (by decide) (by decide)
  · refine OEnd.of (fun t k => XS.ifYes X28.here hx rfl (pc0 := 10) (pc' := 22) rfl (hb hby d4_10) rfl ((if0 _ _).trans (feq (fun z => hc31 ((lw_eq _ _).mp z))).2) (by decide) (by decide) k) ?_
    show OEnd p e below _ (T28.setTop (mkF m 22 #[.val (.ref a1), .val (.long q2), .second] []))
    refine OEnd.of (X28.ldc2Long hx hown (mvT hZ (hw _ (List.mem_of_getElem? (i := 51) rfl))) (g := (mkF m 22 #[.val (.ref a1), .val (.long q2), .second] [])) rfl (hb hby d4_22)) ?_
    show OEnd p e below _ (T28.setTop (mkF m 25 #[.val (.ref a1), .val (.long q2), .second] [(.long (-1 : Int64))]))
    exact OEnd.retJ X28 hx hlk e28 hret (hb hby d4_25) ⟨_, rfl, N30, rfl⟩ (by decide) (by decide)
theorem pd_28J29J : parseMethodDescriptor "(J)J" = some ⟨[.long], some .long⟩ := by decide +kernel
theorem pd_28J29I : parseMethodDescriptor "(J)I" = some ⟨[.long], some .int⟩ := by decide +kernel
theorem d2_0 : decode prog_25_method_1_code 0 = .ok (.aload_n 0, 1) := by decide +kernel
theorem d2_1 : decode prog_25_method_1_code 1 = .ok (.invokespecial 1, 3) := by decide +kernel
theorem d2_4 : decode prog_25_method_1_code 4 = .ok (.aload_n 0, 1) := by decide +kernel
theorem d2_5 : decode prog_25_method_1_code 5 = .ok (.lload_n 1, 1) := by decide +kernel
theorem d2_6 : decode prog_25_method_1_code 6 = .ok (.putfield 7, 3) := by decide +kernel
theorem d2_9 : decode prog_25_method_1_code 9 = .ok (.aload_n 0, 1) := by decide +kernel
theorem d2_10 : decode prog_25_method_1_code 10 = .ok (.lload_n 3, 1) := by decide +kernel
theorem d2_11 : decode prog_25_method_1_code 11 = .ok (.putfield 13, 3) := by decide +kernel
theorem d2_14 : decode prog_25_method_1_code 14 = .ok (.aload_n 0, 1) := by decide +kernel
theorem d2_15 : decode prog_25_method_1_code 15 = .ok (.lload 5, 2) := by decide +kernel
theorem d2_17 : decode prog_25_method_1_code 17 = .ok (.putfield 16, 3) := by decide +kernel
theorem d2_20 : decode prog_25_method_1_code 20 = .ok (.aload_n 0, 1) := by decide +kernel
theorem d2_21 : decode prog_25_method_1_code 21 = .ok (.aload_n 0, 1) := by decide +kernel
theorem d2_22 : decode prog_25_method_1_code 22 = .ok (.lload_n 1, 1) := by decide +kernel
theorem d2_23 : decode prog_25_method_1_code 23 = .ok (.invokevirtual 19, 3) := by decide +kernel
theorem d2_26 : decode prog_25_method_1_code 26 = .ok (.putfield 23, 3) := by decide +kernel
theorem d2_29 : decode prog_25_method_1_code 29 = .ok (.aload_n 0, 1) := by decide +kernel
theorem d2_30 : decode prog_25_method_1_code 30 = .ok (.aload_n 0, 1) := by decide +kernel
theorem d2_31 : decode prog_25_method_1_code 31 = .ok (.getfield 23, 3) := by decide +kernel
theorem d2_34 : decode prog_25_method_1_code 34 = .ok (.lconst 0, 1) := by decide +kernel
theorem d2_35 : decode prog_25_method_1_code 35 = .ok (.lcmp, 1) := by decide +kernel
theorem d2_36 : decode prog_25_method_1_code 36 = .ok (.ifCond .ge 7, 3) := by decide +kernel
theorem d2_39 : decode prog_25_method_1_code 39 = .ok (.iconst 0, 1) := by decide +kernel
theorem d2_40 : decode prog_25_method_1_code 40 = .ok (.goto 13, 3) := by decide +kernel
theorem d2_43 : decode prog_25_method_1_code 43 = .ok (.bipush 64, 2) := by decide +kernel
theorem d2_45 : decode prog_25_method_1_code 45 = .ok (.aload_n 0, 1) := by decide +kernel
theorem d2_46 : decode prog_25_method_1_code 46 = .ok (.getfield 23, 3) := by decide +kernel
theorem d2_49 : decode prog_25_method_1_code 49 = .ok (.invokestatic 28, 3) := by decide +kernel
theorem d2_52 : decode prog_25_method_1_code 52 = .ok (.isub, 1) := by decide +kernel
theorem d2_53 : decode prog_25_method_1_code 53 = .ok (.putfield 32, 3) := by decide +kernel
theorem d2_56 : decode prog_25_method_1_code 56 = .ok (.aload_n 0, 1) := by decide +kernel
theorem d2_57 : decode prog_25_method_1_code 57 = .ok (.ldc2_w 36, 3) := by decide +kernel
theorem d2_60 : decode prog_25_method_1_code 60 = .ok (.lload_n 3, 1) := by decide +kernel
theorem d2_61 : decode prog_25_method_1_code 61 = .ok (.ldiv, 1) := by decide +kernel
theorem d2_62 : decode prog_25_method_1_code 62 = .ok (.putfield 38, 3) := by decide +kernel
theorem d2_65 : decode prog_25_method_1_code 65 = .ok (.return_, 1) := by decide +kernel
abbrev RMrm2 : Room := { frames := 2, cells := 0, slots := 0, locals := 46 }
theorem ef_rm2 (m : MethodId) (a1 : Addr) (q2 : Int64) (q3 : Int64) (q4 : Int64) : entryFrame m #[(.ref a1), (.long q2), (.long q3), (.long q4)] 7 = mkF m 0 #[.val (.ref a1), .val (.long q2), .second, .val (.long q3), .second, .val (.long q4), .second] [] := by first | (simp [entryFrame, mkF, argsToLocals, Value.category]; done) | rfl
def Qrm2 (Z : State)  (a1 : Addr) (q2 : Int64) (q3 : Int64) (q4 : Int64) (h0 : Heap) (v : Option Value) (h : Heap) (L : List Loc) : Prop := v = none ∧ Fr Z.heap.size L ∧ Keep h0 h [a1] ∧ Exa Z h a1 "com/example/metr/metr/Parts" ∧ Fld Z h a1 "com/example/metr/metr/Parts" "capacity" "J" (.long q2) ∧ Fld Z h a1 "com/example/metr/metr/Parts" "refillTokens" "J" (.long q3) ∧ Fld Z h a1 "com/example/metr/metr/Parts" "refillPeriod" "J" (.long q4) ∧ Fld Z h a1 "com/example/metr/metr/Parts" "mostElapsed" "J" (.long ((9223372036854775807 : Int64) / q3))
set_option maxRecDepth 65536 in
set_option maxHeartbeats 40000000 in
theorem rm2 (l : Launch) (Z : State) (a0 : Array Value) (hw : ∀ d ∈ tables_1, d.before a0 Z = true)   (ws : List Jvm.Cond) (a1 : Addr) (q2 : Int64) (q3 : Int64) (q4 : Int64) (h0 : Heap) (O0 : Ext Z.heap h0) (E1 : Exa Z h0 a1 "com/example/metr/metr/Parts") (F_capacity : Fld Z h0 a1 "com/example/metr/metr/Parts" "capacity" "J" (.long (0 : Int64))) (F_refillTokens : Fld Z h0 a1 "com/example/metr/metr/Parts" "refillTokens" "J" (.long (0 : Int64))) (F_refillPeriod : Fld Z h0 a1 "com/example/metr/metr/Parts" "refillPeriod" "J" (.long (0 : Int64))) (F_capacityParts : Fld Z h0 a1 "com/example/metr/metr/Parts" "capacityParts" "J" (.long (0 : Int64))) (F_deficitBits : Fld Z h0 a1 "com/example/metr/metr/Parts" "deficitBits" "I" (.int (0 : Int32))) (F_mostElapsed : Fld Z h0 a1 "com/example/metr/metr/Parts" "mostElapsed" "J" (.long (0 : Int64))) (g1 : Z.heap.size ≤ a1) (ht : q3 ≠ 0) :
    MetFree l (⟨"com/example/metr/metr/Parts", "<init>", "(JJJ)V"⟩ : MethodName) (head1 (Jvm.Cond.code (⟨"com/example/metr/metr/Parts", "<init>", "(JJJ)V"⟩ : MethodName) prog_25_method_1_code 7 none :: ws) RMrm2) (fun a U => a = #[(.ref a1), (.long q2), (.long q3), (.long q4)] ∧ Z.Warmed39 U.vm ∧ U.heap = h0) (fun _ _ _ _ _ => True) (fun _ U o U' => ∃ v L, o = .returned v ∧ Qrm2 Z a1 q2 q3 q4 h0 v U'.heap L ∧ FrameEnd U o U' L RMrm2.cells RMrm2.slots) := by
  refine MetFree.of_bodySF (plainFor_of_name pn_com_example_metr_metr_Parts) hisR ?_
  intro p e s m args below meth c s₁ Bd hml0 hP hK
  obtain ⟨rfl, hZ, hh⟩ := hP
  have hx := Bd.exec
  have hby := Bd.bytes
  have hlk : meth.locks = false := BodyLoose.notSynchronized Bd
  have hret := Bd.returns
  have hml : c.maxLocals = 7 := hml0
  have hown : s.vm.findClass "com/example/metr/metr/Parts" = some m.cls := findClass_of_methodNamed Bd.named
  have hnm := (name_of_methodNamed Bd.named Bd.method).1
  have X0 : Stand p l e RMrm2 s m #[(.ref a1), (.long q2), (.long q3), (.long q4)] below meth c s₁ [] 0 0 := Stand.of_body Bd
  have e0 : s₁.heap = h0 := by rw [← hh, Bd.state]; rfl
  have N0 := Fr.nil Z.heap.size
  show OEnd p e below (GN s (Qrm2 Z a1 q2 q3 q4 h0) RMrm2.cells RMrm2.slots) _
  refine OEnd.of (fun t k => castTop (ef_rm2 m a1 q2 q3 q4) k) ?_
  refine OEnd.of (fun t k => XS.aloadN X0.here hx rfl (hb hby d2_0) rfl rfl k) ?_
  show OEnd p e below _ (s₁.setTop (mkF m 1 #[.val (.ref a1), .val (.long q2), .second, .val (.long q3), .second, .val (.long q4), .second] [(.ref a1)]))
  obtain ⟨T33, X33, e33, st33⟩ := initO X0 hx hZ hown (hw _ (List.mem_of_getElem? (i := 12) rfl)) (hw _ (List.mem_of_getElem? (i := 13) rfl)) (hw _ (List.mem_of_getElem? (i := 14) rfl)) e0 (g := (mkF m 1 #[.val (.ref a1), .val (.long q2), .second, .val (.long q3), .second, .val (.long q4), .second] [(.ref a1)])) rfl (by rw [hml]; rfl) rfl (hb hby d2_1) (by decide) (W := 0) (by show 2 * 0 + _ ≤ _; exact Nat.le_of_eq rfl) (by decide)
  refine OEnd.of st33 ?_
  show OEnd p e below _ (T33.setTop (mkF m 4 #[.val (.ref a1), .val (.long q2), .second, .val (.long q3), .second, .val (.long q4), .second] []))
  refine OEnd.of (fun t k => XS.aloadN X33.here hx rfl (hb hby d2_4) rfl rfl k) ?_
  show OEnd p e below _ (T33.setTop (mkF m 5 #[.val (.ref a1), .val (.long q2), .second, .val (.long q3), .second, .val (.long q4), .second] [(.ref a1)]))
  refine OEnd.of (fun t k => XS.lloadN X33.here hx rfl (hb hby d2_5) rfl k) ?_
  show OEnd p e below _ (T33.setTop (mkF m 6 #[.val (.ref a1), .val (.long q2), .second, .val (.long q3), .second, .val (.long q4), .second] [(.long q2), (.ref a1)]))
  obtain ⟨T34, h34, X34, e34, W34, st34⟩ := putF X33 hx hZ hown (host := "") (Or.inl (hw _ (List.mem_of_getElem? (i := 15) rfl))) Via.refl e33 F_capacity E1 (Or.inr ⟨(hw _ (List.mem_of_getElem? (i := 16) rfl)), rfl, hnm⟩) (hw _ (List.mem_of_getElem? (i := 7) rfl)) (ty := .long) (by decide) rfl rfl (g := (mkF m 6 #[.val (.ref a1), .val (.long q2), .second, .val (.long q3), .second, .val (.long q4), .second] [(.long q2), (.ref a1)])) rfl rfl (hb hby d2_6)
  refine OEnd.of st34 ?_
  have F35 : Fld Z h34 a1 "com/example/metr/metr/Parts" "capacity" "J" (.long q2) := Fld.same W34 F_capacity
  have E36 : Exa Z h34 a1 "com/example/metr/metr/Parts" := E1.wr W34
  have F37 : Fld Z h34 a1 "com/example/metr/metr/Parts" "refillTokens" "J" (.long (0 : Int64)) := F_refillTokens.other W34 (Or.inr (slot_ne (Or.inr (hw _ (List.mem_of_getElem? (i := 18) rfl))) (Or.inr (hw _ (List.mem_of_getElem? (i := 16) rfl))) (by decide) (t := .long) (t' := .long) (by decide) (by decide)))
  have F38 : Fld Z h34 a1 "com/example/metr/metr/Parts" "refillPeriod" "J" (.long (0 : Int64)) := F_refillPeriod.other W34 (Or.inr (slot_ne (Or.inr (hw _ (List.mem_of_getElem? (i := 20) rfl))) (Or.inr (hw _ (List.mem_of_getElem? (i := 16) rfl))) (by decide) (t := .long) (t' := .long) (by decide) (by decide)))
  have F39 : Fld Z h34 a1 "com/example/metr/metr/Parts" "capacityParts" "J" (.long (0 : Int64)) := F_capacityParts.other W34 (Or.inr (slot_ne (Or.inr (hw _ (List.mem_of_getElem? (i := 31) rfl))) (Or.inr (hw _ (List.mem_of_getElem? (i := 16) rfl))) (by decide) (t := .long) (t' := .long) (by decide) (by decide)))
  have F40 : Fld Z h34 a1 "com/example/metr/metr/Parts" "deficitBits" "I" (.int (0 : Int32)) := F_deficitBits.other W34 (Or.inr (slot_ne (Or.inr (hw _ (List.mem_of_getElem? (i := 42) rfl))) (Or.inr (hw _ (List.mem_of_getElem? (i := 16) rfl))) (by decide) (t := .int) (t' := .long) (by decide) (by decide)))
  have F41 : Fld Z h34 a1 "com/example/metr/metr/Parts" "mostElapsed" "J" (.long (0 : Int64)) := F_mostElapsed.other W34 (Or.inr (slot_ne (Or.inr (hw _ (List.mem_of_getElem? (i := 45) rfl))) (Or.inr (hw _ (List.mem_of_getElem? (i := 16) rfl))) (by decide) (t := .long) (t' := .long) (by decide) (by decide)))
  have N42 := Fr.snoc X34 N0 g1
  show OEnd p e below _ (T34.setTop (mkF m 9 #[.val (.ref a1), .val (.long q2), .second, .val (.long q3), .second, .val (.long q4), .second] []))
  refine OEnd.of (fun t k => XS.aloadN X34.here hx rfl (hb hby d2_9) rfl rfl k) ?_
  show OEnd p e below _ (T34.setTop (mkF m 10 #[.val (.ref a1), .val (.long q2), .second, .val (.long q3), .second, .val (.long q4), .second] [(.ref a1)]))
  refine OEnd.of (fun t k => XS.lloadN X34.here hx rfl (hb hby d2_10) rfl k) ?_
  show OEnd p e below _ (T34.setTop (mkF m 11 #[.val (.ref a1), .val (.long q2), .second, .val (.long q3), .second, .val (.long q4), .second] [(.long q3), (.ref a1)]))
  obtain ⟨T43, h43, X43, e43, W43, st43⟩ := putF X34 hx hZ hown (host := "") (Or.inl (hw _ (List.mem_of_getElem? (i := 17) rfl))) Via.refl e34 F37 E36 (Or.inr ⟨(hw _ (List.mem_of_getElem? (i := 18) rfl)), rfl, hnm⟩) (hw _ (List.mem_of_getElem? (i := 7) rfl)) (ty := .long) (by decide) rfl rfl (g := (mkF m 11 #[.val (.ref a1), .val (.long q2), .second, .val (.long q3), .second, .val (.long q4), .second] [(.long q3), (.ref a1)])) rfl rfl (hb hby d2_11)
  refine OEnd.of st43 ?_
  have F44 : Fld Z h43 a1 "com/example/metr/metr/Parts" "refillTokens" "J" (.long q3) := Fld.same W43 F37
  have E45 : Exa Z h43 a1 "com/example/metr/metr/Parts" := E36.wr W43
  have F46 : Fld Z h43 a1 "com/example/metr/metr/Parts" "refillPeriod" "J" (.long (0 : Int64)) := F38.other W43 (Or.inr (slot_ne (Or.inr (hw _ (List.mem_of_getElem? (i := 20) rfl))) (Or.inr (hw _ (List.mem_of_getElem? (i := 18) rfl))) (by decide) (t := .long) (t' := .long) (by decide) (by decide)))
  have F47 : Fld Z h43 a1 "com/example/metr/metr/Parts" "capacityParts" "J" (.long (0 : Int64)) := F39.other W43 (Or.inr (slot_ne (Or.inr (hw _ (List.mem_of_getElem? (i := 31) rfl))) (Or.inr (hw _ (List.mem_of_getElem? (i := 18) rfl))) (by decide) (t := .long) (t' := .long) (by decide) (by decide)))
  have F48 : Fld Z h43 a1 "com/example/metr/metr/Parts" "deficitBits" "I" (.int (0 : Int32)) := F40.other W43 (Or.inr (slot_ne (Or.inr (hw _ (List.mem_of_getElem? (i := 42) rfl))) (Or.inr (hw _ (List.mem_of_getElem? (i := 18) rfl))) (by decide) (t := .int) (t' := .long) (by decide) (by decide)))
  have F49 : Fld Z h43 a1 "com/example/metr/metr/Parts" "mostElapsed" "J" (.long (0 : Int64)) := F41.other W43 (Or.inr (slot_ne (Or.inr (hw _ (List.mem_of_getElem? (i := 45) rfl))) (Or.inr (hw _ (List.mem_of_getElem? (i := 18) rfl))) (by decide) (t := .long) (t' := .long) (by decide) (by decide)))
  have F50 : Fld Z h43 a1 "com/example/metr/metr/Parts" "capacity" "J" (.long q2) := F35.other W43 (Or.inr (slot_ne (Or.inr (hw _ (List.mem_of_getElem? (i := 16) rfl))) (Or.inr (hw _ (List.mem_of_getElem? (i := 18) rfl))) (by decide) (t := .long) (t' := .long) (by decide) (by decide)))
  have N51 := Fr.snoc X43 N42 g1
  show OEnd p e below _ (T43.setTop (mkF m 14 #[.val (.ref a1), .val (.long q2), .second, .val (.long q3), .second, .val (.long q4), .second] []))
  refine OEnd.of (fun t k => XS.aloadN X43.here hx rfl (hb hby d2_14) rfl rfl k) ?_
  show OEnd p e below _ (T43.setTop (mkF m 15 #[.val (.ref a1), .val (.long q2), .second, .val (.long q3), .second, .val (.long q4), .second] [(.ref a1)]))
  refine OEnd.of (fun t k => XS.lload X43.here hx rfl (hb hby d2_15) rfl k) ?_
  show OEnd p e below _ (T43.setTop (mkF m 17 #[.val (.ref a1), .val (.long q2), .second, .val (.long q3), .second, .val (.long q4), .second] [(.long q4), (.ref a1)]))
  obtain ⟨T52, h52, X52, e52, W52, st52⟩ := putF X43 hx hZ hown (host := "") (Or.inl (hw _ (List.mem_of_getElem? (i := 19) rfl))) Via.refl e43 F46 E45 (Or.inr ⟨(hw _ (List.mem_of_getElem? (i := 20) rfl)), rfl, hnm⟩) (hw _ (List.mem_of_getElem? (i := 7) rfl)) (ty := .long) (by decide) rfl rfl (g := (mkF m 17 #[.val (.ref a1), .val (.long q2), .second, .val (.long q3), .second, .val (.long q4), .second] [(.long q4), (.ref a1)])) rfl rfl (hb hby d2_17)
  refine OEnd.of st52 ?_
  have F53 : Fld Z h52 a1 "com/example/metr/metr/Parts" "refillPeriod" "J" (.long q4) := Fld.same W52 F46
  have E54 : Exa Z h52 a1 "com/example/metr/metr/Parts" := E45.wr W52
  have F55 : Fld Z h52 a1 "com/example/metr/metr/Parts" "capacityParts" "J" (.long (0 : Int64)) := F47.other W52 (Or.inr (slot_ne (Or.inr (hw _ (List.mem_of_getElem? (i := 31) rfl))) (Or.inr (hw _ (List.mem_of_getElem? (i := 20) rfl))) (by decide) (t := .long) (t' := .long) (by decide) (by decide)))
  have F56 : Fld Z h52 a1 "com/example/metr/metr/Parts" "deficitBits" "I" (.int (0 : Int32)) := F48.other W52 (Or.inr (slot_ne (Or.inr (hw _ (List.mem_of_getElem? (i := 42) rfl))) (Or.inr (hw _ (List.mem_of_getElem? (i := 20) rfl))) (by decide) (t := .int) (t' := .long) (by decide) (by decide)))
  have F57 : Fld Z h52 a1 "com/example/metr/metr/Parts" "mostElapsed" "J" (.long (0 : Int64)) := F49.other W52 (Or.inr (slot_ne (Or.inr (hw _ (List.mem_of_getElem? (i := 45) rfl))) (Or.inr (hw _ (List.mem_of_getElem? (i := 20) rfl))) (by decide) (t := .long) (t' := .long) (by decide) (by decide)))
  have F58 : Fld Z h52 a1 "com/example/metr/metr/Parts" "capacity" "J" (.long q2) := F50.other W52 (Or.inr (slot_ne (Or.inr (hw _ (List.mem_of_getElem? (i := 16) rfl))) (Or.inr (hw _ (List.mem_of_getElem? (i := 20) rfl))) (by decide) (t := .long) (t' := .long) (by decide) (by decide)))
  have F59 : Fld Z h52 a1 "com/example/metr/metr/Parts" "refillTokens" "J" (.long q3) := F44.other W52 (Or.inr (slot_ne (Or.inr (hw _ (List.mem_of_getElem? (i := 18) rfl))) (Or.inr (hw _ (List.mem_of_getElem? (i := 20) rfl))) (by decide) (t := .long) (t' := .long) (by decide) (by decide)))
  have N60 := Fr.snoc X52 N51 g1
  show OEnd p e below _ (T52.setTop (mkF m 20 #[.val (.ref a1), .val (.long q2), .second, .val (.long q3), .second, .val (.long q4), .second] []))
  refine OEnd.of (fun t k => XS.aloadN X52.here hx rfl (hb hby d2_20) rfl rfl k) ?_
  show OEnd p e below _ (T52.setTop (mkF m 21 #[.val (.ref a1), .val (.long q2), .second, .val (.long q3), .second, .val (.long q4), .second] [(.ref a1)]))
  refine OEnd.of (fun t k => XS.aloadN X52.here hx rfl (hb hby d2_21) rfl rfl k) ?_
  show OEnd p e below _ (T52.setTop (mkF m 22 #[.val (.ref a1), .val (.long q2), .second, .val (.long q3), .second, .val (.long q4), .second] [(.ref a1), (.ref a1)]))
  refine OEnd.of (fun t k => XS.lloadN X52.here hx rfl (hb hby d2_22) rfl k) ?_
  show OEnd p e below _ (T52.setTop (mkF m 23 #[.val (.ref a1), .val (.long q2), .second, .val (.long q3), .second, .val (.long q4), .second] [(.long q2), (.ref a1), (.ref a1)]))
  have K62 : Keep h0 h52 [a1] := ((((Keep.refl h0 [a1]).wr W34 (Or.inl (List.mem_of_getElem? (i := 0) rfl))).wr W43 (Or.inl (List.mem_of_getElem? (i := 0) rfl))).wr W52 (Or.inl (List.mem_of_getElem? (i := 0) rfl)))
  have O63 : Ext Z.heap h52 := own_extKeep O0 K62 (allS g1 all0)
  obtain ⟨cq61, kq61, q61a, q61b, q61c⟩ := isOf hZ e52 E54
  obtain ⟨_, _, ⟨T61, L61, k61, n61⟩, -, X61, ⟨Lc61, hQ61, l61, y61, z61⟩, st61⟩ := X52.virtualBack hx (y := (⟨"com/example/metr/metr/Parts", "parts", "(J)J"⟩ : MethodName)) (z := (⟨"com/example/metr/metr/Parts", "parts", "(J)J"⟩ : MethodName)) hown (mvT hZ (hw _ (List.mem_of_getElem? (i := 21) rfl))) (mvT hZ (hw _ (List.mem_of_getElem? (i := 22) rfl))) (notFace_of_selects (args := #[]) (mvT hZ (hw _ (List.mem_of_getElem? (i := 24) rfl)))) (mvT hZ (hw _ (List.mem_of_getElem? (i := 24) rfl))) (mvT hZ (hw _ (List.mem_of_getElem? (i := 23) rfl))) (by decide) (backOf (W := 1) (rm4 l Z a0 hw  [] a1 q2 q4 h52 O63 F53) hZ (hw _ (List.mem_of_getElem? (i := 25) rfl)) (hw _ (List.mem_of_getElem? (i := 8) rfl)) (by decide) (by decide)) q61a q61c (g := (mkF m 23 #[.val (.ref a1), .val (.long q2), .second, .val (.long q3), .second, .val (.long q4), .second] [(.long q2), (.ref a1), (.ref a1)])) rfl (by rw [hml]; rfl) (Steps.refl _) (argsL := [(.long q2)]) (rest := [(.ref a1)]) (lenOf pd_28J29J rfl) rfl (by show 2 * 0 + _ ≤ _; exact Nat.le_of_eq rfl) (hb hby d2_23) (fun _ _ => ⟨rfl, e52, (by decide : 0 + 0 ≤ _), (by decide : 0 + 0 ≤ _)⟩)
  dsimp only [Pt.U, Pt.locs, Pt.cells, Pt.slots] at X61 l61 y61 z61 st61 hQ61
  subst l61 y61 z61
  obtain ⟨r_64, rfl, Nq61, e61⟩ := hQ61
  have N65 := Fr.app N60 Nq61
  refine OEnd.of (fun t k => st61.trans k) ?_
  show OEnd p e below _ (T61.setTop (mkF m 26 #[.val (.ref a1), .val (.long q2), .second, .val (.long q3), .second, .val (.long q4), .second] [(.long r_64), (.ref a1)]))
  obtain ⟨T66, h66, X66, e66, W66, st66⟩ := putF X61 hx hZ hown (host := "") (Or.inl (hw _ (List.mem_of_getElem? (i := 30) rfl))) Via.refl e61 F55 E54 (Or.inr ⟨(hw _ (List.mem_of_getElem? (i := 31) rfl)), rfl, hnm⟩) (hw _ (List.mem_of_getElem? (i := 7) rfl)) (ty := .long) (by decide) rfl rfl (g := (mkF m 26 #[.val (.ref a1), .val (.long q2), .second, .val (.long q3), .second, .val (.long q4), .second] [(.long r_64), (.ref a1)])) rfl rfl (hb hby d2_26)
  refine OEnd.of st66 ?_
  have F67 : Fld Z h66 a1 "com/example/metr/metr/Parts" "capacityParts" "J" (.long r_64) := Fld.same W66 F55
  have E68 : Exa Z h66 a1 "com/example/metr/metr/Parts" := E54.wr W66
  have F69 : Fld Z h66 a1 "com/example/metr/metr/Parts" "deficitBits" "I" (.int (0 : Int32)) := F56.other W66 (Or.inr (slot_ne (Or.inr (hw _ (List.mem_of_getElem? (i := 42) rfl))) (Or.inr (hw _ (List.mem_of_getElem? (i := 31) rfl))) (by decide) (t := .int) (t' := .long) (by decide) (by decide)))
  have F70 : Fld Z h66 a1 "com/example/metr/metr/Parts" "mostElapsed" "J" (.long (0 : Int64)) := F57.other W66 (Or.inr (slot_ne (Or.inr (hw _ (List.mem_of_getElem? (i := 45) rfl))) (Or.inr (hw _ (List.mem_of_getElem? (i := 31) rfl))) (by decide) (t := .long) (t' := .long) (by decide) (by decide)))
  have F71 : Fld Z h66 a1 "com/example/metr/metr/Parts" "capacity" "J" (.long q2) := F58.other W66 (Or.inr (slot_ne (Or.inr (hw _ (List.mem_of_getElem? (i := 16) rfl))) (Or.inr (hw _ (List.mem_of_getElem? (i := 31) rfl))) (by decide) (t := .long) (t' := .long) (by decide) (by decide)))
  have F72 : Fld Z h66 a1 "com/example/metr/metr/Parts" "refillTokens" "J" (.long q3) := F59.other W66 (Or.inr (slot_ne (Or.inr (hw _ (List.mem_of_getElem? (i := 18) rfl))) (Or.inr (hw _ (List.mem_of_getElem? (i := 31) rfl))) (by decide) (t := .long) (t' := .long) (by decide) (by decide)))
  have F73 : Fld Z h66 a1 "com/example/metr/metr/Parts" "refillPeriod" "J" (.long q4) := F53.other W66 (Or.inr (slot_ne (Or.inr (hw _ (List.mem_of_getElem? (i := 20) rfl))) (Or.inr (hw _ (List.mem_of_getElem? (i := 31) rfl))) (by decide) (t := .long) (t' := .long) (by decide) (by decide)))
  have N74 := Fr.snoc X66 N65 g1
  show OEnd p e below _ (T66.setTop (mkF m 29 #[.val (.ref a1), .val (.long q2), .second, .val (.long q3), .second, .val (.long q4), .second] []))
  refine OEnd.of (fun t k => XS.aloadN X66.here hx rfl (hb hby d2_29) rfl rfl k) ?_
  show OEnd p e below _ (T66.setTop (mkF m 30 #[.val (.ref a1), .val (.long q2), .second, .val (.long q3), .second, .val (.long q4), .second] [(.ref a1)]))
  refine OEnd.of (fun t k => XS.aloadN X66.here hx rfl (hb hby d2_30) rfl rfl k) ?_
  show OEnd p e below _ (T66.setTop (mkF m 31 #[.val (.ref a1), .val (.long q2), .second, .val (.long q3), .second, .val (.long q4), .second] [(.ref a1), (.ref a1)]))
  obtain ⟨T75, X75, e75, st75⟩ := getF X66 hx hZ hown (host := "") (Or.inl (hw _ (List.mem_of_getElem? (i := 30) rfl))) Via.refl e66 F67 (g := (mkF m 31 #[.val (.ref a1), .val (.long q2), .second, .val (.long q3), .second, .val (.long q4), .second] [(.ref a1), (.ref a1)])) rfl rfl (hb hby d2_31)
  refine OEnd.of st75 ?_
  show OEnd p e below _ (T75.setTop (mkF m 34 #[.val (.ref a1), .val (.long q2), .second, .val (.long q3), .second, .val (.long q4), .second] [(.long r_64), (.ref a1)]))
  refine OEnd.of (fun t k => XS.lconst X75.here hx rfl (hb hby d2_34) k) ?_
  show OEnd p e below _ (T75.setTop (mkF m 35 #[.val (.ref a1), .val (.long q2), .second, .val (.long q3), .second, .val (.long q4), .second] [(.long (0 : Int64)), (.long r_64), (.ref a1)]))
  refine OEnd.of (fun t k => XS.lcmp X75.here hx rfl (hb hby d2_35) rfl k) ?_
  show OEnd p e below _ (T75.setTop (mkF m 36 #[.val (.ref a1), .val (.long q2), .second, .val (.long q3), .second, .val (.long q4), .second] [(.int (lcmpW r_64 (0 : Int64))), (.ref a1)]))
  have J76 : ∀ (T76 : State) (Lo76 : List Loc) (n53 : Int32), Stand p l e RMrm2 s m #[(.ref a1), (.long q2), (.long q3), (.long q4)] below meth c T76 Lo76 0 0 → T76.heap = h66 → Fr Z.heap.size Lo76 → OEnd p e below (GN s (Qrm2 Z a1 q2 q3 q4 h0) RMrm2.cells RMrm2.slots) (T76.setTop (mkF m 53 #[.val (.ref a1), .val (.long q2), .second, .val (.long q3), .second, .val (.long q4), .second] [(.int n53), (.ref a1)])) := by
    rintro T76 Lo76 n53 X76 e76 N76
    show OEnd p e below _ (T76.setTop (mkF m 53 #[.val (.ref a1), .val (.long q2), .second, .val (.long q3), .second, .val (.long q4), .second] [(.int n53), (.ref a1)]))
    obtain ⟨T77, h77, X77, e77, W77, st77⟩ := putF X76 hx hZ hown (host := "") (Or.inl (hw _ (List.mem_of_getElem? (i := 41) rfl))) Via.refl e76 F69 E68 (Or.inr ⟨(hw _ (List.mem_of_getElem? (i := 42) rfl)), rfl, hnm⟩) (hw _ (List.mem_of_getElem? (i := 7) rfl)) (ty := .int) (by decide) rfl rfl (g := (mkF m 53 #[.val (.ref a1), .val (.long q2), .second, .val (.long q3), .second, .val (.long q4), .second] [(.int n53), (.ref a1)])) rfl rfl (hb hby d2_53)
    refine OEnd.of st77 ?_
    have F78 : Fld Z h77 a1 "com/example/metr/metr/Parts" "deficitBits" "I" (.int n53) := Fld.same W77 F69
    have E79 : Exa Z h77 a1 "com/example/metr/metr/Parts" := E68.wr W77
    have F80 : Fld Z h77 a1 "com/example/metr/metr/Parts" "mostElapsed" "J" (.long (0 : Int64)) := F70.other W77 (Or.inr (slot_ne (Or.inr (hw _ (List.mem_of_getElem? (i := 45) rfl))) (Or.inr (hw _ (List.mem_of_getElem? (i := 42) rfl))) (by decide) (t := .long) (t' := .int) (by decide) (by decide)))
    have F81 : Fld Z h77 a1 "com/example/metr/metr/Parts" "capacity" "J" (.long q2) := F71.other W77 (Or.inr (slot_ne (Or.inr (hw _ (List.mem_of_getElem? (i := 16) rfl))) (Or.inr (hw _ (List.mem_of_getElem? (i := 42) rfl))) (by decide) (t := .long) (t' := .int) (by decide) (by decide)))
    have F82 : Fld Z h77 a1 "com/example/metr/metr/Parts" "refillTokens" "J" (.long q3) := F72.other W77 (Or.inr (slot_ne (Or.inr (hw _ (List.mem_of_getElem? (i := 18) rfl))) (Or.inr (hw _ (List.mem_of_getElem? (i := 42) rfl))) (by decide) (t := .long) (t' := .int) (by decide) (by decide)))
    have F83 : Fld Z h77 a1 "com/example/metr/metr/Parts" "refillPeriod" "J" (.long q4) := F73.other W77 (Or.inr (slot_ne (Or.inr (hw _ (List.mem_of_getElem? (i := 20) rfl))) (Or.inr (hw _ (List.mem_of_getElem? (i := 42) rfl))) (by decide) (t := .long) (t' := .int) (by decide) (by decide)))
    have F84 : Fld Z h77 a1 "com/example/metr/metr/Parts" "capacityParts" "J" (.long r_64) := F67.other W77 (Or.inr (slot_ne (Or.inr (hw _ (List.mem_of_getElem? (i := 31) rfl))) (Or.inr (hw _ (List.mem_of_getElem? (i := 42) rfl))) (by decide) (t := .long) (t' := .int) (by decide) (by decide)))
    have N85 := Fr.snoc X77 N76 g1
    show OEnd p e below _ (T77.setTop (mkF m 56 #[.val (.ref a1), .val (.long q2), .second, .val (.long q3), .second, .val (.long q4), .second] []))
    refine OEnd.of (fun t k => XS.aloadN X77.here hx rfl (hb hby d2_56) rfl rfl k) ?_
    show OEnd p e below _ (T77.setTop (mkF m 57 #[.val (.ref a1), .val (.long q2), .second, .val (.long q3), .second, .val (.long q4), .second] [(.ref a1)]))
    refine OEnd.of (X77.ldc2Long hx hown (mvT hZ (hw _ (List.mem_of_getElem? (i := 43) rfl))) (g := (mkF m 57 #[.val (.ref a1), .val (.long q2), .second, .val (.long q3), .second, .val (.long q4), .second] [(.ref a1)])) rfl (hb hby d2_57)) ?_
    show OEnd p e below _ (T77.setTop (mkF m 60 #[.val (.ref a1), .val (.long q2), .second, .val (.long q3), .second, .val (.long q4), .second] [(.long (9223372036854775807 : Int64)), (.ref a1)]))
    refine OEnd.of (fun t k => XS.lloadN X77.here hx rfl (hb hby d2_60) rfl k) ?_
    show OEnd p e below _ (T77.setTop (mkF m 61 #[.val (.ref a1), .val (.long q2), .second, .val (.long q3), .second, .val (.long q4), .second] [(.long q3), (.long (9223372036854775807 : Int64)), (.ref a1)]))
    refine OEnd.of (fun t k => XS.ldiv X77.here hx rfl (hb hby d2_61) rfl ht k) ?_
    show OEnd p e below _ (T77.setTop (mkF m 62 #[.val (.ref a1), .val (.long q2), .second, .val (.long q3), .second, .val (.long q4), .second] [(.long ((9223372036854775807 : Int64) / q3)), (.ref a1)]))
    obtain ⟨T86, h86, X86, e86, W86, st86⟩ := putF X77 hx hZ hown (host := "") (Or.inl (hw _ (List.mem_of_getElem? (i := 44) rfl))) Via.refl e77 F80 E79 (Or.inr ⟨(hw _ (List.mem_of_getElem? (i := 45) rfl)), rfl, hnm⟩) (hw _ (List.mem_of_getElem? (i := 7) rfl)) (ty := .long) (by decide) rfl rfl (g := (mkF m 62 #[.val (.ref a1), .val (.long q2), .second, .val (.long q3), .second, .val (.long q4), .second] [(.long ((9223372036854775807 : Int64) / q3)), (.ref a1)])) rfl rfl (hb hby d2_62)
    refine OEnd.of st86 ?_
    have F87 : Fld Z h86 a1 "com/example/metr/metr/Parts" "mostElapsed" "J" (.long ((9223372036854775807 : Int64) / q3)) := Fld.same W86 F80
    have E88 : Exa Z h86 a1 "com/example/metr/metr/Parts" := E79.wr W86
    have F89 : Fld Z h86 a1 "com/example/metr/metr/Parts" "capacity" "J" (.long q2) := F81.other W86 (Or.inr (slot_ne (Or.inr (hw _ (List.mem_of_getElem? (i := 16) rfl))) (Or.inr (hw _ (List.mem_of_getElem? (i := 45) rfl))) (by decide) (t := .long) (t' := .long) (by decide) (by decide)))
    have F90 : Fld Z h86 a1 "com/example/metr/metr/Parts" "refillTokens" "J" (.long q3) := F82.other W86 (Or.inr (slot_ne (Or.inr (hw _ (List.mem_of_getElem? (i := 18) rfl))) (Or.inr (hw _ (List.mem_of_getElem? (i := 45) rfl))) (by decide) (t := .long) (t' := .long) (by decide) (by decide)))
    have F91 : Fld Z h86 a1 "com/example/metr/metr/Parts" "refillPeriod" "J" (.long q4) := F83.other W86 (Or.inr (slot_ne (Or.inr (hw _ (List.mem_of_getElem? (i := 20) rfl))) (Or.inr (hw _ (List.mem_of_getElem? (i := 45) rfl))) (by decide) (t := .long) (t' := .long) (by decide) (by decide)))
    have F92 : Fld Z h86 a1 "com/example/metr/metr/Parts" "capacityParts" "J" (.long r_64) := F84.other W86 (Or.inr (slot_ne (Or.inr (hw _ (List.mem_of_getElem? (i := 31) rfl))) (Or.inr (hw _ (List.mem_of_getElem? (i := 45) rfl))) (by decide) (t := .long) (t' := .long) (by decide) (by decide)))
    have F93 : Fld Z h86 a1 "com/example/metr/metr/Parts" "deficitBits" "I" (.int n53) := F78.other W86 (Or.inr (slot_ne (Or.inr (hw _ (List.mem_of_getElem? (i := 42) rfl))) (Or.inr (hw _ (List.mem_of_getElem? (i := 45) rfl))) (by decide) (t := .int) (t' := .long) (by decide) (by decide)))
    have N94 := Fr.snoc X86 N85 g1
    show OEnd p e below _ (T86.setTop (mkF m 65 #[.val (.ref a1), .val (.long q2), .second, .val (.long q3), .second, .val (.long q4), .second] []))
    have K95 : Keep h0 h86 [a1] := (((K62.wr W66 (Or.inl (List.mem_of_getElem? (i := 0) rfl))).wr W77 (Or.inl (List.mem_of_getElem? (i := 0) rfl))).wr W86 (Or.inl (List.mem_of_getElem? (i := 0) rfl)))
    exact OEnd.retV X86 hx hlk e86 hret (hb hby d2_65) ⟨rfl, N94, K95, E88, F89, F90, F91, F87⟩ (by decide) (by decide)
  by_cases hc96 : r_64 < (0 : Int64)
  · refine OEnd.of (fun t k => XS.ifNo X75.here hx rfl (hb hby d2_36) rfl ((if0 _ _).trans (tlt ((lw_lt _ _).mpr hc96)).2.1) k) ?_
    show OEnd p e below _ (T75.setTop (mkF m 39 #[.val (.ref a1), .val (.long q2), .second, .val (.long q3), .second, .val (.long q4), .second] [(.ref a1)]))
    refine OEnd.of (fun t k => XS.iconst X75.here hx rfl (hb hby d2_39) k) ?_
    show OEnd p e below _ (T75.setTop (mkF m 40 #[.val (.ref a1), .val (.long q2), .second, .val (.long q3), .second, .val (.long q4), .second] [(.int (0 : Int32)), (.ref a1)]))
    refine OEnd.of (fun t k => XS.goto X75.here hx rfl (pc0 := 40) (pc' := 53) rfl (hb hby d2_40) (by decide) (by decide) k) ?_
    show OEnd p e below _ (T75.setTop (mkF m 53 #[.val (.ref a1), .val (.long q2), .second, .val (.long q3), .second, .val (.long q4), .second] [(.int (0 : Int32)), (.ref a1)]))
    exact J76 T75 _ (0 : Int32) X75 e75 N74
  · refine OEnd.of (fun t k => XS.ifYes X75.here hx rfl (pc0 := 36) (pc' := 43) rfl (hb hby d2_36) rfl ((if0 _ _).trans (flt (fun z => hc96 ((lw_lt _ _).mp z))).2.1) (by decide) (by decide) k) ?_
    show OEnd p e below _ (T75.setTop (mkF m 43 #[.val (.ref a1), .val (.long q2), .second, .val (.long q3), .second, .val (.long q4), .second] [(.ref a1)]))
    refine OEnd.of (fun t k => XS.bipush X75.here hx rfl (hb hby d2_43) k) ?_
    show OEnd p e below _ (T75.setTop (mkF m 45 #[.val (.ref a1), .val (.long q2), .second, .val (.long q3), .second, .val (.long q4), .second] [(.int (64 : Int32)), (.ref a1)]))
    refine OEnd.of (fun t k => XS.aloadN X75.here hx rfl (hb hby d2_45) rfl rfl k) ?_
    show OEnd p e below _ (T75.setTop (mkF m 46 #[.val (.ref a1), .val (.long q2), .second, .val (.long q3), .second, .val (.long q4), .second] [(.ref a1), (.int (64 : Int32)), (.ref a1)]))
    obtain ⟨T97, X97, e97, st97⟩ := getF X75 hx hZ hown (host := "") (Or.inl (hw _ (List.mem_of_getElem? (i := 30) rfl))) Via.refl e75 F67 (g := (mkF m 46 #[.val (.ref a1), .val (.long q2), .second, .val (.long q3), .second, .val (.long q4), .second] [(.ref a1), (.int (64 : Int32)), (.ref a1)])) rfl rfl (hb hby d2_46)
    refine OEnd.of st97 ?_
    show OEnd p e below _ (T97.setTop (mkF m 49 #[.val (.ref a1), .val (.long q2), .second, .val (.long q3), .second, .val (.long q4), .second] [(.long r_64), (.int (64 : Int32)), (.ref a1)]))
    have K99 : Keep h52 h66 [a1] := ((Keep.refl h52 [a1]).wr W66 (Or.inl (List.mem_of_getElem? (i := 0) rfl)))
    have O100 : Ext Z.heap h66 := own_extKeep O63 K99 (allS g1 all0)
    obtain ⟨_, _, ⟨T98, L98, k98, n98⟩, -, X98, ⟨Lc98, hQ98, l98, y98, z98⟩, st98⟩ := Jvm.LawKit.callS X97 hx (y := (⟨"java/lang/Long", "numberOfLeadingZeros", "(J)I"⟩ : MethodName)) hown (mvT hZ (hw _ (List.mem_of_getElem? (i := 32) rfl))) (mvT hZ (hw _ (List.mem_of_getElem? (i := 33) rfl))) (mvT hZ (hw _ (List.mem_of_getElem? (i := 34) rfl))) (mvT hZ (hw _ (List.mem_of_getElem? (i := 35) rfl))) (by decide) (backOf (W := 2) (rm6 l Z a0 hw  [] r_64 h66 O100 ) hZ (hw _ (List.mem_of_getElem? (i := 35) rfl)) (hw _ (List.mem_of_getElem? (i := 34) rfl)) (by decide) (by decide)) (g := (mkF m 49 #[.val (.ref a1), .val (.long q2), .second, .val (.long q3), .second, .val (.long q4), .second] [(.long r_64), (.int (64 : Int32)), (.ref a1)])) rfl (by rw [hml]; rfl) (argsL := [(.long r_64)]) (rest := [(.int (64 : Int32)), (.ref a1)]) (lenOf pd_28J29I rfl) rfl (by show 2 * 0 + _ ≤ _; exact Nat.le_of_eq rfl) (hb hby d2_49) (fun _ _ => ⟨rfl, e97, (by decide : 0 + 0 ≤ _), (by decide : 0 + 0 ≤ _)⟩)
    dsimp only [Pt.U, Pt.locs, Pt.cells, Pt.slots] at X98 l98 y98 z98 st98 hQ98
    subst l98 y98 z98
    obtain ⟨r_101, rfl, Nq98, e98⟩ := hQ98
    have N102 := Fr.app N74 Nq98
    refine OEnd.of st98 ?_
    show OEnd p e below _ (T98.setTop (mkF m 52 #[.val (.ref a1), .val (.long q2), .second, .val (.long q3), .second, .val (.long q4), .second] [(.int r_101), (.int (64 : Int32)), (.ref a1)]))
    refine OEnd.of (fun t k => XS.isub X98.here hx rfl (hb hby d2_52) rfl k) ?_
    show OEnd p e below _ (T98.setTop (mkF m 53 #[.val (.ref a1), .val (.long q2), .second, .val (.long q3), .second, .val (.long q4), .second] [(.int ((64 : Int32) - r_101)), (.ref a1)]))
    exact J76 T98 _ ((64 : Int32) - r_101) X98 e98 N102
theorem own_ne0 {p : Int64} (h : 0 < p.toInt) : p ≠ 0 := fun q => by subst q; exact absurd h (by decide)
theorem own_mask (x : Int64) : (x &&& 9223372036854775807).toInt = x.toInt % 9223372036854775808 := by
  have e := Jvm.Kit.i64_mask x 9223372036854775807 (k := 63) (by decide) (by decide)
  exact e
theorem own_mask63 (x : Int64) : (x &&& 63).toInt = x.toInt % 64 := by
  have e := Jvm.Kit.i64_mask x 63 (k := 6) (by decide) (by decide)
  exact e
theorem own_mask15 (x : Int64) : (x &&& 15).toInt = x.toInt % 16 := by
  have e := Jvm.Kit.i64_mask x 15 (k := 4) (by decide) (by decide)
  exact e
def own_nte (a t g : Int64) : Int64 := if (9223372036854775807 : Int64) - g < a / t + (if a % t = 0 then 0 else 1) then 9223372036854775807 else a / t + (if a % t = 0 then 0 else 1) + g
theorem own_m1max {x r : Int64} (h : (r = (x &&& 9223372036854775807) ∧ (1 : Int64) < (x &&& 9223372036854775807)) ∨ (r = 1 ∧ ¬ (1 : Int64) < (x &&& 9223372036854775807))) : 0 < r.toInt := by
  rcases h with ⟨rfl, h⟩ | ⟨rfl, -⟩
  · have := Int64.lt_iff_toInt_lt.mp h
    have o1 : (1 : Int64).toInt = 1 := rfl
    omega
  · decide
theorem own_m1t (x : Int64) : 0 < ((x &&& 15) + 1).toInt := by
  have e := own_mask15 x
  have o1 : (1 : Int64).toInt = 1 := rfl
  rw [Jvm.Kit.i64_add (by rw [o1]; omega) (by rw [o1]; omega), o1]
  omega
theorem own_m1p (x : Int64) : 0 < ((x &&& 63) + 1).toInt := by
  have e := own_mask63 x
  have o1 : (1 : Int64).toInt = 1 := rfl
  rw [Jvm.Kit.i64_add (by rw [o1]; omega) (by rw [o1]; omega), o1]
  omega
theorem own_m1g (x : Int64) : 0 ≤ (x &&& 9223372036854775807).toInt := by
  have e := own_mask x
  omega
theorem own_m1g2 (x : Int64) : 0 ≤ (x &&& 63).toInt := by
  have e := own_mask63 x
  omega
theorem own_m1g3 (x : Int64) : 0 ≤ ((9223372036854775807 : Int64) - (x &&& 63)).toInt := by
  have e := own_mask63 x
  have o1 : (9223372036854775807 : Int64).toInt = 9223372036854775807 := rfl
  rw [Jvm.Kit.i64_sub (by rw [o1]; omega) (by rw [o1]; omega), o1]
  omega
/-- the rounded-up quotient, both ways -/
theorem own_m1e {a t : Int64} (ht : 0 < t.toInt) (ha : 0 < a.toInt) : a / t + (if a % t = 0 then 0 else 1) = (a - 1) / t + 1 ∧ ((a - 1) / t + 1).toInt = (a.toInt - 1) / t.toInt + 1 ∧ 1 ≤ (a.toInt - 1) / t.toInt + 1 ∧ (a.toInt - 1) / t.toInt + 1 ≤ a.toInt := by
  have z : (0 : Int64).toInt = 0 := rfl
  have o1 : (1 : Int64).toInt = 1 := rfl
  have ra := rng64 a
  have e1 : (a - 1).toInt = a.toInt - 1 := by rw [Jvm.Kit.i64_sub (by rw [o1]; omega) (by rw [o1]; omega), o1]
  have e2 : ((a - 1) / t).toInt = (a.toInt - 1) / t.toInt := by rw [Jvm.Kit.i64_div (by intro q; have := q.2; omega), e1, Int.tdiv_eq_ediv_of_nonneg (by omega)]
  have q0 : 0 ≤ (a.toInt - 1) / t.toInt := Int.ediv_nonneg (by omega) (by omega)
  have q1 : (a.toInt - 1) / t.toInt ≤ a.toInt - 1 := Int.ediv_le_self _ (by omega)
  have e3 : ((a - 1) / t + 1).toInt = (a.toInt - 1) / t.toInt + 1 := by rw [Jvm.Kit.i64_add (by rw [e2, o1]; omega) (by rw [e2, o1]; omega), e2, o1]
  have f1 : (a / t).toInt = a.toInt / t.toInt := by rw [Jvm.Kit.i64_div (by intro q; have := q.2; omega), Int.tdiv_eq_ediv_of_nonneg (by omega)]
  have f2 : (a % t).toInt = a.toInt % t.toInt := by rw [Int64.toInt_mod, Int.tmod_eq_emod_of_nonneg (by omega)]
  have dv := Int.emod_add_mul_ediv a.toInt t.toInt
  have m0 := Int.emod_nonneg a.toInt (show t.toInt ≠ 0 by omega)
  have m1 := Int.emod_lt_of_pos a.toInt ht
  have p0 : 0 ≤ a.toInt / t.toInt := Int.ediv_nonneg (by omega) (by omega)
  have p1 : a.toInt / t.toInt ≤ a.toInt := Int.ediv_le_self _ (by omega)
  refine ⟨?_, e3, by omega, by omega⟩
  by_cases hz : a % t = 0
  · rw [if_pos hz, Int64.add_zero]
    apply Int64.toInt_inj.mp
    rw [e3, f1]
    have hm : a.toInt % t.toInt = 0 := by rw [← f2, hz, z]
    have hs : a.toInt - 1 = (t.toInt - 1) + (a.toInt / t.toInt - 1) * t.toInt := by
      rw [Int.sub_mul, Int.mul_comm (a.toInt / t.toInt)]; omega
    rw [hs, Int.add_mul_ediv_right _ _ (by omega), Int.ediv_eq_zero_of_lt (a := t.toInt - 1) (b := t.toInt) (by omega) (by omega)]
    omega
  · rw [if_neg hz]
    have hm : a.toInt % t.toInt ≠ 0 := fun q => hz (Int64.toInt_inj.mp (by rw [f2, q]; rfl))
    have hs : a.toInt - 1 = (a.toInt % t.toInt - 1) + (a.toInt / t.toInt) * t.toInt := by
      rw [Int.mul_comm (a.toInt / t.toInt)]; omega
    have hq : (a.toInt - 1) / t.toInt = a.toInt / t.toInt := by
      rw [hs, Int.add_mul_ediv_right _ _ (by omega), Int.ediv_eq_zero_of_lt (by omega) (by omega), Int.zero_add]
    have : a / t = (a - 1) / t := Int64.toInt_inj.mp (by rw [f1, e2, hq])
    rw [this]
theorem own_m1s {a t g : Int64} (ht : 0 < t.toInt) (ha : 0 < a.toInt) (hg : 0 ≤ g.toInt) : ((9223372036854775807 : Int64) - g < a / t + (if a % t = 0 then 0 else 1)) ↔ (a - 1) / t + 1 + g < 0 := by
  obtain ⟨e1, e2, e3, e4⟩ := own_m1e ht ha
  have z : (0 : Int64).toInt = 0 := rfl
  have om : (9223372036854775807 : Int64).toInt = 9223372036854775807 := rfl
  have ra := rng64 a
  have rg := rng64 g
  have s1 : ((9223372036854775807 : Int64) - g).toInt = 9223372036854775807 - g.toInt := by rw [Jvm.Kit.i64_sub (by rw [om]; omega) (by rw [om]; omega), om]
  have s2 := c_ladd ((a - 1) / t + 1) g
  have s3 := rng64 ((a - 1) / t + 1 + g)
  rw [e1, Int64.lt_iff_toInt_lt, Int64.lt_iff_toInt_lt, s1, z]
  rw [e2] at s2 ⊢
  omega
theorem own_m1a {a t g x : Int64} (ht : 0 < t.toInt) (ha : 0 < a.toInt) (hg : 0 ≤ g.toInt) (hx : (a - 1) / t + 1 + g = x) (h : x < 0) : own_nte a t g = 9223372036854775807 := by
  unfold own_nte
  rw [if_pos ((own_m1s ht ha hg).mpr (hx ▸ h))]
theorem own_m1b {a t g x : Int64} (ht : 0 < t.toInt) (ha : 0 < a.toInt) (hg : 0 ≤ g.toInt) (hx : (a - 1) / t + 1 + g = x) (h : ¬ x < 0) : own_nte a t g = x := by
  unfold own_nte
  rw [if_neg (fun q => h (hx ▸ (own_m1s ht ha hg).mp q)), (own_m1e ht ha).1, hx]

theorem d1_0 : decode jdk_29_method_66_code 0 = .ok (.lload_n 0, 1) := by decide +kernel
theorem d1_1 : decode jdk_29_method_66_code 1 = .ok (.lload_n 2, 1) := by decide +kernel
theorem d1_2 : decode jdk_29_method_66_code 2 = .ok (.lcmp, 1) := by decide +kernel
theorem d1_3 : decode jdk_29_method_66_code 3 = .ok (.ifCond .lt 7, 3) := by decide +kernel
theorem d1_6 : decode jdk_29_method_66_code 6 = .ok (.lload_n 0, 1) := by decide +kernel
theorem d1_7 : decode jdk_29_method_66_code 7 = .ok (.goto 4, 3) := by decide +kernel
theorem d1_10 : decode jdk_29_method_66_code 10 = .ok (.lload_n 2, 1) := by decide +kernel
theorem d1_11 : decode jdk_29_method_66_code 11 = .ok (.lreturn, 1) := by decide +kernel
abbrev RMrm1 : Room := { frames := 0, cells := 0, slots := 0, locals := 0 }
theorem ef_rm1 (m : MethodId) (q1 : Int64) (q2 : Int64) : entryFrame m #[(.long q1), (.long q2)] 4 = mkF m 0 #[.val (.long q1), .second, .val (.long q2), .second] [] := by first | (simp [entryFrame, mkF, argsToLocals, Value.category]; done) | rfl
def Qrm1 (Z : State)  (q1 : Int64) (q2 : Int64) (h0 : Heap) (v : Option Value) (h : Heap) (L : List Loc) : Prop := ∃ (r : Int64), v = some (.long r) ∧ Fr Z.heap.size L ∧ h = h0 ∧ ((r = q2 ∧ q1 < q2) ∨ (r = q1 ∧ ¬ q1 < q2))
set_option maxRecDepth 65536 in
set_option maxHeartbeats 40000000 in
theorem rm1 (l : Launch) (Z : State) (a0 : Array Value) (hw : ∀ d ∈ tables_1, d.before a0 Z = true)   (ws : List Jvm.Cond) (q1 : Int64) (q2 : Int64) (h0 : Heap) (O0 : Ext Z.heap h0) :
    MetFree l (⟨"java/lang/Math", "max", "(JJ)J"⟩ : MethodName) (head1 (Jvm.Cond.code (⟨"java/lang/Math", "max", "(JJ)J"⟩ : MethodName) jdk_29_method_66_code 4 (some .long) :: ws) RMrm1) (fun a U => a = #[(.long q1), (.long q2)] ∧ Z.Warmed39 U.vm ∧ U.heap = h0) (fun _ _ _ _ _ => True) (fun _ U o U' => ∃ v L, o = .returned v ∧ Qrm1 Z q1 q2 h0 v U'.heap L ∧ FrameEnd U o U' L RMrm1.cells RMrm1.slots) := by
  refine MetFree.of_bodySF (Jvm.Free.JP.mathPlain rfl (by decide +kernel)) hisR ?_
  intro p e s m args below meth c s₁ Bd hml0 hP hK
  obtain ⟨rfl, hZ, hh⟩ := hP
  have hx := Bd.exec
  have hby := Bd.bytes
  have hlk : meth.locks = false := BodyLoose.notSynchronized Bd
  have hret := Bd.returns
  have hml : c.maxLocals = 4 := hml0
  have hown : s.vm.findClass "java/lang/Math" = some m.cls := findClass_of_methodNamed Bd.named
  have hnm := (name_of_methodNamed Bd.named Bd.method).1
  have X0 : Stand p l e RMrm1 s m #[(.long q1), (.long q2)] below meth c s₁ [] 0 0 := Stand.of_body Bd
  have e0 : s₁.heap = h0 := by rw [← hh, Bd.state]; rfl
  have N0 := Fr.nil Z.heap.size
  show OEnd p e below (GN s (Qrm1 Z q1 q2 h0) RMrm1.cells RMrm1.slots) _
  refine OEnd.of (fun t k => castTop (ef_rm1 m q1 q2) k) ?_
  refine OEnd.of (fun t k => XS.lloadN X0.here hx rfl (hb hby d1_0) rfl k) ?_
  show OEnd p e below _ (s₁.setTop (mkF m 1 #[.val (.long q1), .second, .val (.long q2), .second] [(.long q1)]))
  refine OEnd.of (fun t k => XS.lloadN X0.here hx rfl (hb hby d1_1) rfl k) ?_
  show OEnd p e below _ (s₁.setTop (mkF m 2 #[.val (.long q1), .second, .val (.long q2), .second] [(.long q2), (.long q1)]))
  refine OEnd.of (fun t k => XS.lcmp X0.here hx rfl (hb hby d1_2) rfl k) ?_
  show OEnd p e below _ (s₁.setTop (mkF m 3 #[.val (.long q1), .second, .val (.long q2), .second] [(.int (lcmpW q1 q2))]))
  by_cases hc103 : q1 < q2
  · refine OEnd.of (fun t k => XS.ifYes X0.here hx rfl (pc0 := 3) (pc' := 10) rfl (hb hby d1_3) rfl ((if0 _ _).trans (tlt ((lw_lt _ _).mpr hc103)).1) (by decide) (by decide) k) ?_
    show OEnd p e below _ (s₁.setTop (mkF m 10 #[.val (.long q1), .second, .val (.long q2), .second] []))
    refine OEnd.of (fun t k => XS.lloadN X0.here hx rfl (hb hby d1_10) rfl k) ?_
    show OEnd p e below _ (s₁.setTop (mkF m 11 #[.val (.long q1), .second, .val (.long q2), .second] [(.long q2)]))
    exact OEnd.retJ X0 hx hlk e0 hret (hb hby d1_11) ⟨_, rfl, N0, rfl, (by first | (left; exact ⟨rfl, hc103⟩) | (right; exact ⟨rfl, hc103⟩))⟩ (by decide) (by decide)
  · refine OEnd.of (fun t k => XS.ifNo X0.here hx rfl (hb hby d1_3) rfl ((if0 _ _).trans (flt (fun z => hc103 ((lw_lt _ _).mp z))).1) k) ?_
    show OEnd p e below _ (s₁.setTop (mkF m 6 #[.val (.long q1), .second, .val (.long q2), .second] []))
    refine OEnd.of (fun t k => XS.lloadN X0.here hx rfl (hb hby d1_6) rfl k) ?_
    show OEnd p e below _ (s₁.setTop (mkF m 7 #[.val (.long q1), .second, .val (.long q2), .second] [(.long q1)]))
    refine OEnd.of (fun t k => XS.goto X0.here hx rfl (pc0 := 7) (pc' := 11) rfl (hb hby d1_7) (by decide) (by decide) k) ?_
    show OEnd p e below _ (s₁.setTop (mkF m 11 #[.val (.long q1), .second, .val (.long q2), .second] [(.long q1)]))
    exact OEnd.retJ X0 hx hlk e0 hret (hb hby d1_11) ⟨_, rfl, N0, rfl, (by first | (left; exact ⟨rfl, hc103⟩) | (right; exact ⟨rfl, hc103⟩))⟩ (by decide) (by decide)
theorem d8_0 : decode prog_25_method_11_code 0 = .ok (.lload_n 1, 1) := by decide +kernel
theorem d8_1 : decode prog_25_method_11_code 1 = .ok (.aload_n 0, 1) := by decide +kernel
theorem d8_2 : decode prog_25_method_11_code 2 = .ok (.getfield 13, 3) := by decide +kernel
theorem d8_5 : decode prog_25_method_11_code 5 = .ok (.ldiv, 1) := by decide +kernel
theorem d8_6 : decode prog_25_method_11_code 6 = .ok (.lload_n 1, 1) := by decide +kernel
theorem d8_7 : decode prog_25_method_11_code 7 = .ok (.aload_n 0, 1) := by decide +kernel
theorem d8_8 : decode prog_25_method_11_code 8 = .ok (.getfield 13, 3) := by decide +kernel
theorem d8_11 : decode prog_25_method_11_code 11 = .ok (.lrem, 1) := by decide +kernel
theorem d8_12 : decode prog_25_method_11_code 12 = .ok (.lconst 0, 1) := by decide +kernel
theorem d8_13 : decode prog_25_method_11_code 13 = .ok (.lcmp, 1) := by decide +kernel
theorem d8_14 : decode prog_25_method_11_code 14 = .ok (.ifCond .ne 7, 3) := by decide +kernel
theorem d8_17 : decode prog_25_method_11_code 17 = .ok (.iconst 0, 1) := by decide +kernel
theorem d8_18 : decode prog_25_method_11_code 18 = .ok (.goto 4, 3) := by decide +kernel
theorem d8_21 : decode prog_25_method_11_code 21 = .ok (.iconst 1, 1) := by decide +kernel
theorem d8_22 : decode prog_25_method_11_code 22 = .ok (.i2l, 1) := by decide +kernel
theorem d8_23 : decode prog_25_method_11_code 23 = .ok (.ladd, 1) := by decide +kernel
theorem d8_24 : decode prog_25_method_11_code 24 = .ok (.lstore 5, 2) := by decide +kernel
theorem d8_26 : decode prog_25_method_11_code 26 = .ok (.lload 5, 2) := by decide +kernel
theorem d8_28 : decode prog_25_method_11_code 28 = .ok (.ldc2_w 36, 3) := by decide +kernel
theorem d8_31 : decode prog_25_method_11_code 31 = .ok (.lload_n 3, 1) := by decide +kernel
theorem d8_32 : decode prog_25_method_11_code 32 = .ok (.lsub, 1) := by decide +kernel
theorem d8_33 : decode prog_25_method_11_code 33 = .ok (.lcmp, 1) := by decide +kernel
theorem d8_34 : decode prog_25_method_11_code 34 = .ok (.ifCond .le 9, 3) := by decide +kernel
theorem d8_37 : decode prog_25_method_11_code 37 = .ok (.ldc2_w 36, 3) := by decide +kernel
theorem d8_40 : decode prog_25_method_11_code 40 = .ok (.goto 7, 3) := by decide +kernel
theorem d8_43 : decode prog_25_method_11_code 43 = .ok (.lload 5, 2) := by decide +kernel
theorem d8_45 : decode prog_25_method_11_code 45 = .ok (.lload_n 3, 1) := by decide +kernel
theorem d8_46 : decode prog_25_method_11_code 46 = .ok (.ladd, 1) := by decide +kernel
theorem d8_47 : decode prog_25_method_11_code 47 = .ok (.lreturn, 1) := by decide +kernel
abbrev RMrm8 : Room := { frames := 0, cells := 0, slots := 0, locals := 0 }
theorem ef_rm8 (m : MethodId) (a1 : Addr) (q2 : Int64) (q3 : Int64) : entryFrame m #[(.ref a1), (.long q2), (.long q3)] 7 = mkF m 0 #[.val (.ref a1), .val (.long q2), .second, .val (.long q3), .second, .unset, .unset] [] := by first | (simp [entryFrame, mkF, argsToLocals, Value.category]; done) | rfl
def Qrm8 (Z : State)  (a1 : Addr) (q2 : Int64) (q3 : Int64) (tt : Int64) (h0 : Heap) (v : Option Value) (h : Heap) (L : List Loc) : Prop := ∃ (r : Int64), v = some (.long r) ∧ Fr Z.heap.size L ∧ h = h0 ∧ (r = own_nte q2 tt q3)
set_option maxRecDepth 65536 in
set_option maxHeartbeats 40000000 in
theorem rm8 (l : Launch) (Z : State) (a0 : Array Value) (hw : ∀ d ∈ tables_1, d.before a0 Z = true)   (ws : List Jvm.Cond) (a1 : Addr) (q2 : Int64) (q3 : Int64) (tt : Int64) (h0 : Heap) (O0 : Ext Z.heap h0) (Ft : Fld Z h0 a1 "com/example/metr/metr/Parts" "refillTokens" "J" (.long tt)) (ht : tt ≠ 0) :
    MetFree l (⟨"com/example/metr/metr/Parts", "nanosToEarn", "(JJ)J"⟩ : MethodName) (head1 (Jvm.Cond.code (⟨"com/example/metr/metr/Parts", "nanosToEarn", "(JJ)J"⟩ : MethodName) prog_25_method_11_code 7 (some .long) :: ws) RMrm8) (fun a U => a = #[(.ref a1), (.long q2), (.long q3)] ∧ Z.Warmed39 U.vm ∧ U.heap = h0) (fun _ _ _ _ _ => True) (fun _ U o U' => ∃ v L, o = .returned v ∧ Qrm8 Z a1 q2 q3 tt h0 v U'.heap L ∧ FrameEnd U o U' L RMrm8.cells RMrm8.slots) := by
  refine MetFree.of_bodySF (plainFor_of_name pn_com_example_metr_metr_Parts) hisR ?_
  intro p e s m args below meth c s₁ Bd hml0 hP hK
  obtain ⟨rfl, hZ, hh⟩ := hP
  have hx := Bd.exec
  have hby := Bd.bytes
  have hlk : meth.locks = false := BodyLoose.notSynchronized Bd
  have hret := Bd.returns
  have hml : c.maxLocals = 7 := hml0
  have hown : s.vm.findClass "com/example/metr/metr/Parts" = some m.cls := findClass_of_methodNamed Bd.named
  have hnm := (name_of_methodNamed Bd.named Bd.method).1
  have X0 : Stand p l e RMrm8 s m #[(.ref a1), (.long q2), (.long q3)] below meth c s₁ [] 0 0 := Stand.of_body Bd
  have e0 : s₁.heap = h0 := by rw [← hh, Bd.state]; rfl
  have N0 := Fr.nil Z.heap.size
  show OEnd p e below (GN s (Qrm8 Z a1 q2 q3 tt h0) RMrm8.cells RMrm8.slots) _
  refine OEnd.of (fun t k => castTop (ef_rm8 m a1 q2 q3) k) ?_
  refine OEnd.of (fun t k => XS.lloadN X0.here hx rfl (hb hby d8_0) rfl k) ?_
  show OEnd p e below _ (s₁.setTop (mkF m 1 #[.val (.ref a1), .val (.long q2), .second, .val (.long q3), .second, .unset, .unset] [(.long q2)]))
  refine OEnd.of (fun t k => XS.aloadN X0.here hx rfl (hb hby d8_1) rfl rfl k) ?_
  show OEnd p e below _ (s₁.setTop (mkF m 2 #[.val (.ref a1), .val (.long q2), .second, .val (.long q3), .second, .unset, .unset] [(.ref a1), (.long q2)]))
  obtain ⟨T104, X104, e104, st104⟩ := getF X0 hx hZ hown (host := "") (Or.inl (hw _ (List.mem_of_getElem? (i := 17) rfl))) Via.refl e0 Ft (g := (mkF m 2 #[.val (.ref a1), .val (.long q2), .second, .val (.long q3), .second, .unset, .unset] [(.ref a1), (.long q2)])) rfl rfl (hb hby d8_2)
  refine OEnd.of st104 ?_
  show OEnd p e below _ (T104.setTop (mkF m 5 #[.val (.ref a1), .val (.long q2), .second, .val (.long q3), .second, .unset, .unset] [(.long tt), (.long q2)]))
  refine OEnd.of (fun t k => XS.ldiv X104.here hx rfl (hb hby d8_5) rfl ht k) ?_
  show OEnd p e below _ (T104.setTop (mkF m 6 #[.val (.ref a1), .val (.long q2), .second, .val (.long q3), .second, .unset, .unset] [(.long (q2 / tt))]))
  refine OEnd.of (fun t k => XS.lloadN X104.here hx rfl (hb hby d8_6) rfl k) ?_
  show OEnd p e below _ (T104.setTop (mkF m 7 #[.val (.ref a1), .val (.long q2), .second, .val (.long q3), .second, .unset, .unset] [(.long q2), (.long (q2 / tt))]))
  refine OEnd.of (fun t k => XS.aloadN X104.here hx rfl (hb hby d8_7) rfl rfl k) ?_
  show OEnd p e below _ (T104.setTop (mkF m 8 #[.val (.ref a1), .val (.long q2), .second, .val (.long q3), .second, .unset, .unset] [(.ref a1), (.long q2), (.long (q2 / tt))]))
  obtain ⟨T105, X105, e105, st105⟩ := getF X104 hx hZ hown (host := "") (Or.inl (hw _ (List.mem_of_getElem? (i := 17) rfl))) Via.refl e104 Ft (g := (mkF m 8 #[.val (.ref a1), .val (.long q2), .second, .val (.long q3), .second, .unset, .unset] [(.ref a1), (.long q2), (.long (q2 / tt))])) rfl rfl (hb hby d8_8)
  refine OEnd.of st105 ?_
  show OEnd p e below _ (T105.setTop (mkF m 11 #[.val (.ref a1), .val (.long q2), .second, .val (.long q3), .second, .unset, .unset] [(.long tt), (.long q2), (.long (q2 / tt))]))
  refine OEnd.of (fun t k => XS.lrem X105.here hx rfl (hb hby d8_11) rfl ht k) ?_
  rw [lrem_mod]
  show OEnd p e below _ (T105.setTop (mkF m 12 #[.val (.ref a1), .val (.long q2), .second, .val (.long q3), .second, .unset, .unset] [(.long (q2 % tt)), (.long (q2 / tt))]))
  refine OEnd.of (fun t k => XS.lconst X105.here hx rfl (hb hby d8_12) k) ?_
  show OEnd p e below _ (T105.setTop (mkF m 13 #[.val (.ref a1), .val (.long q2), .second, .val (.long q3), .second, .unset, .unset] [(.long (0 : Int64)), (.long (q2 % tt)), (.long (q2 / tt))]))
  refine OEnd.of (fun t k => XS.lcmp X105.here hx rfl (hb hby d8_13) rfl k) ?_
  show OEnd p e below _ (T105.setTop (mkF m 14 #[.val (.ref a1), .val (.long q2), .second, .val (.long q3), .second, .unset, .unset] [(.int (lcmpW (q2 % tt) (0 : Int64))), (.long (q2 / tt))]))
  have J106 : ∀ (T106 : State) (Lo106 : List Loc) (en : Int64), Stand p l e RMrm8 s m #[(.ref a1), (.long q2), (.long q3)] below meth c T106 Lo106 0 0 → T106.heap = h0 → Fr Z.heap.size Lo106 → (en = q2 / tt + (if q2 % tt = 0 then 0 else 1)) → OEnd p e below (GN s (Qrm8 Z a1 q2 q3 tt h0) RMrm8.cells RMrm8.slots) (T106.setTop (mkF m 26 #[.val (.ref a1), .val (.long q2), .second, .val (.long q3), .second, .val (.long en), .second] [])) := by
    rintro T106 Lo106 en X106 e106 N106 hen
    show OEnd p e below _ (T106.setTop (mkF m 26 #[.val (.ref a1), .val (.long q2), .second, .val (.long q3), .second, .val (.long en), .second] []))
    refine OEnd.of (fun t k => XS.lload X106.here hx rfl (hb hby d8_26) rfl k) ?_
    show OEnd p e below _ (T106.setTop (mkF m 28 #[.val (.ref a1), .val (.long q2), .second, .val (.long q3), .second, .val (.long en), .second] [(.long en)]))
    refine OEnd.of (X106.ldc2Long hx hown (mvT hZ (hw _ (List.mem_of_getElem? (i := 43) rfl))) (g := (mkF m 28 #[.val (.ref a1), .val (.long q2), .second, .val (.long q3), .second, .val (.long en), .second] [(.long en)])) rfl (hb hby d8_28)) ?_
    show OEnd p e below _ (T106.setTop (mkF m 31 #[.val (.ref a1), .val (.long q2), .second, .val (.long q3), .second, .val (.long en), .second] [(.long (9223372036854775807 : Int64)), (.long en)]))
    refine OEnd.of (fun t k => XS.lloadN X106.here hx rfl (hb hby d8_31) rfl k) ?_
    show OEnd p e below _ (T106.setTop (mkF m 32 #[.val (.ref a1), .val (.long q2), .second, .val (.long q3), .second, .val (.long en), .second] [(.long q3), (.long (9223372036854775807 : Int64)), (.long en)]))
    refine OEnd.of (fun t k => XS.lsub X106.here hx rfl (hb hby d8_32) rfl k) ?_
    show OEnd p e below _ (T106.setTop (mkF m 33 #[.val (.ref a1), .val (.long q2), .second, .val (.long q3), .second, .val (.long en), .second] [(.long ((9223372036854775807 : Int64) - q3)), (.long en)]))
    refine OEnd.of (fun t k => XS.lcmp X106.here hx rfl (hb hby d8_33) rfl k) ?_
    show OEnd p e below _ (T106.setTop (mkF m 34 #[.val (.ref a1), .val (.long q2), .second, .val (.long q3), .second, .val (.long en), .second] [(.int (lcmpW en ((9223372036854775807 : Int64) - q3)))]))
    by_cases hc107 : ((9223372036854775807 : Int64) - q3) < en
    · refine OEnd.of (fun t k => XS.ifNo X106.here hx rfl (hb hby d8_34) rfl ((if0 _ _).trans (tlt ((lw_gt _ _).mpr hc107)).2.2.2) k) ?_
      show OEnd p e below _ (T106.setTop (mkF m 37 #[.val (.ref a1), .val (.long q2), .second, .val (.long q3), .second, .val (.long en), .second] []))
      refine OEnd.of (X106.ldc2Long hx hown (mvT hZ (hw _ (List.mem_of_getElem? (i := 43) rfl))) (g := (mkF m 37 #[.val (.ref a1), .val (.long q2), .second, .val (.long q3), .second, .val (.long en), .second] [])) rfl (hb hby d8_37)) ?_
      show OEnd p e below _ (T106.setTop (mkF m 40 #[.val (.ref a1), .val (.long q2), .second, .val (.long q3), .second, .val (.long en), .second] [(.long (9223372036854775807 : Int64))]))
      refine OEnd.of (fun t k => XS.goto X106.here hx rfl (pc0 := 40) (pc' := 47) rfl (hb hby d8_40) (by decide) (by decide) k) ?_
      show OEnd p e below _ (T106.setTop (mkF m 47 #[.val (.ref a1), .val (.long q2), .second, .val (.long q3), .second, .val (.long en), .second] [(.long (9223372036854775807 : Int64))]))
      exact OEnd.retJ X106 hx hlk e106 hret (hb hby d8_47) ⟨_, rfl, N106, rfl, (by unfold own_nte; rw [← hen, if_pos hc107])⟩ (by decide) (by decide)
    · refine OEnd.of (fun t k => XS.ifYes X106.here hx rfl (pc0 := 34) (pc' := 43) rfl (hb hby d8_34) rfl ((if0 _ _).trans (flt (fun z => hc107 ((lw_gt _ _).mp z))).2.2.2) (by decide) (by decide) k) ?_
      show OEnd p e below _ (T106.setTop (mkF m 43 #[.val (.ref a1), .val (.long q2), .second, .val (.long q3), .second, .val (.long en), .second] []))
      refine OEnd.of (fun t k => XS.lload X106.here hx rfl (hb hby d8_43) rfl k) ?_
      show OEnd p e below _ (T106.setTop (mkF m 45 #[.val (.ref a1), .val (.long q2), .second, .val (.long q3), .second, .val (.long en), .second] [(.long en)]))
      refine OEnd.of (fun t k => XS.lloadN X106.here hx rfl (hb hby d8_45) rfl k) ?_
      show OEnd p e below _ (T106.setTop (mkF m 46 #[.val (.ref a1), .val (.long q2), .second, .val (.long q3), .second, .val (.long en), .second] [(.long q3), (.long en)]))
      refine OEnd.of (fun t k => XS.ladd X106.here hx rfl (hb hby d8_46) rfl k) ?_
      show OEnd p e below _ (T106.setTop (mkF m 47 #[.val (.ref a1), .val (.long q2), .second, .val (.long q3), .second, .val (.long en), .second] [(.long (en + q3))]))
      exact OEnd.retJ X106 hx hlk e106 hret (hb hby d8_47) ⟨_, rfl, N106, rfl, (by unfold own_nte; rw [← hen, if_neg hc107])⟩ (by decide) (by decide)
  by_cases hc108 : (q2 % tt) = (0 : Int64)
  · refine OEnd.of (fun t k => XS.ifNo X105.here hx rfl (hb hby d8_14) rfl ((if0 _ _).trans (teq ((lw_eq _ _).mpr hc108)).2) k) ?_
    show OEnd p e below _ (T105.setTop (mkF m 17 #[.val (.ref a1), .val (.long q2), .second, .val (.long q3), .second, .unset, .unset] [(.long (q2 / tt))]))
    refine OEnd.of (fun t k => XS.iconst X105.here hx rfl (hb hby d8_17) k) ?_
    show OEnd p e below _ (T105.setTop (mkF m 18 #[.val (.ref a1), .val (.long q2), .second, .val (.long q3), .second, .unset, .unset] [(.int (0 : Int32)), (.long (q2 / tt))]))
    refine OEnd.of (fun t k => XS.goto X105.here hx rfl (pc0 := 18) (pc' := 22) rfl (hb hby d8_18) (by decide) (by decide) k) ?_
    show OEnd p e below _ (T105.setTop (mkF m 22 #[.val (.ref a1), .val (.long q2), .second, .val (.long q3), .second, .unset, .unset] [(.int (0 : Int32)), (.long (q2 / tt))]))
    refine OEnd.of (fun t k => XS.i2l X105.here hx rfl (hb hby d8_22) rfl k) ?_
    show OEnd p e below _ (T105.setTop (mkF m 23 #[.val (.ref a1), .val (.long q2), .second, .val (.long q3), .second, .unset, .unset] [(.long ((0 : Int32).toInt64)), (.long (q2 / tt))]))
    refine OEnd.of (fun t k => XS.ladd X105.here hx rfl (hb hby d8_23) rfl k) ?_
    show OEnd p e below _ (T105.setTop (mkF m 24 #[.val (.ref a1), .val (.long q2), .second, .val (.long q3), .second, .unset, .unset] [(.long ((q2 / tt) + ((0 : Int32).toInt64)))]))
    refine OEnd.of (fun t k => XS.lstore X105.here hx rfl (hb hby d8_24) rfl (l' := #[.val (.ref a1), .val (.long q2), .second, .val (.long q3), .second, .val (.long ((q2 / tt) + ((0 : Int32).toInt64))), .second]) rfl k) ?_
    show OEnd p e below _ (T105.setTop (mkF m 26 #[.val (.ref a1), .val (.long q2), .second, .val (.long q3), .second, .val (.long ((q2 / tt) + ((0 : Int32).toInt64))), .second] []))
    exact J106 T105 _ ((q2 / tt) + ((0 : Int32).toInt64)) X105 e105 N0 (by rw [if_pos hc108]; rfl)
  · refine OEnd.of (fun t k => XS.ifYes X105.here hx rfl (pc0 := 14) (pc' := 21) rfl (hb hby d8_14) rfl ((if0 _ _).trans (feq (fun z => hc108 ((lw_eq _ _).mp z))).2) (by decide) (by decide) k) ?_
    show OEnd p e below _ (T105.setTop (mkF m 21 #[.val (.ref a1), .val (.long q2), .second, .val (.long q3), .second, .unset, .unset] [(.long (q2 / tt))]))
    refine OEnd.of (fun t k => XS.iconst X105.here hx rfl (hb hby d8_21) k) ?_
    show OEnd p e below _ (T105.setTop (mkF m 22 #[.val (.ref a1), .val (.long q2), .second, .val (.long q3), .second, .unset, .unset] [(.int (1 : Int32)), (.long (q2 / tt))]))
    refine OEnd.of (fun t k => XS.i2l X105.here hx rfl (hb hby d8_22) rfl k) ?_
    show OEnd p e below _ (T105.setTop (mkF m 23 #[.val (.ref a1), .val (.long q2), .second, .val (.long q3), .second, .unset, .unset] [(.long ((1 : Int32).toInt64)), (.long (q2 / tt))]))
    refine OEnd.of (fun t k => XS.ladd X105.here hx rfl (hb hby d8_23) rfl k) ?_
    show OEnd p e below _ (T105.setTop (mkF m 24 #[.val (.ref a1), .val (.long q2), .second, .val (.long q3), .second, .unset, .unset] [(.long ((q2 / tt) + ((1 : Int32).toInt64)))]))
    refine OEnd.of (fun t k => XS.lstore X105.here hx rfl (hb hby d8_24) rfl (l' := #[.val (.ref a1), .val (.long q2), .second, .val (.long q3), .second, .val (.long ((q2 / tt) + ((1 : Int32).toInt64))), .second]) rfl k) ?_
    show OEnd p e below _ (T105.setTop (mkF m 26 #[.val (.ref a1), .val (.long q2), .second, .val (.long q3), .second, .val (.long ((q2 / tt) + ((1 : Int32).toInt64))), .second] []))
    exact J106 T105 _ ((q2 / tt) + ((1 : Int32).toInt64)) X105 e105 N0 (by rw [if_neg hc108]; rfl)
theorem pd_28JJJ29V : parseMethodDescriptor "(JJJ)V" = some ⟨[.long, .long, .long], none⟩ := by decide +kernel
theorem pn_com_example_metr_metr_PartsNanosToEarnPinLaw : plainName "com/example/metr/metr/PartsNanosToEarnPinLaw" = true := by first | (simp [plainName, overriddenIn]; done) | decide +kernel
theorem ef_rm0 (m : MethodId) (q0 : Int64) (q1 : Int64) (q2 : Int64) (q3 : Int64) (q4 : Int64) (p5 : Int32) : entryFrame m #[(.long q0), (.long q1), (.long q2), (.long q3), (.long q4), (.int p5)] maxLocals = mkF m 0 #[.val (.long q0), .second, .val (.long q1), .second, .val (.long q2), .second, .val (.long q3), .second, .val (.long q4), .second, .val (.int p5), .unset, .unset, .unset, .unset, .unset, .unset, .unset, .unset, .unset, .unset, .unset, .unset, .unset, .unset, .unset, .unset, .unset, .unset, .unset] [] := by first | (simp [entryFrame, mkF, argsToLocals, Value.category, maxLocals]; done) | rfl
def Qrm0 (Z : State)  (q0 : Int64) (q1 : Int64) (q2 : Int64) (q3 : Int64) (q4 : Int64) (p5 : Int32) (h0 : Heap) (v : Option Value) (h : Heap) (L : List Loc) : Prop := v = some (.int (1 : Int32)) ∧ Fr Z.heap.size L ∧ Keep h0 h []
set_option maxRecDepth 65536 in
set_option maxHeartbeats 40000000 in
theorem rm0 (l : Launch) (Z : State) (a0 : Array Value) (hw : ∀ d ∈ tables_1, d.before a0 Z = true)   (ws : List Jvm.Cond) (q0 : Int64) (q1 : Int64) (q2 : Int64) (q3 : Int64) (q4 : Int64) (p5 : Int32) (h0 : Heap) (O0 : Ext Z.heap h0) :
    MetFree l x (head1 (Jvm.Cond.code x code maxLocals ret :: ws) room_1) (fun a U => a = #[(.long q0), (.long q1), (.long q2), (.long q3), (.long q4), (.int p5)] ∧ Z.Warmed39 U.vm ∧ U.heap = h0) (fun _ _ _ _ _ => True) (fun _ U o U' => ∃ v L, o = .returned v ∧ Qrm0 Z q0 q1 q2 q3 q4 p5 h0 v U'.heap L ∧ FrameEnd U o U' L 16 128) := by
  refine MetFree.of_bodySF (plainFor_of_name pn_com_example_metr_metr_PartsNanosToEarnPinLaw) hisR ?_
  intro p e s m args below meth c s₁ Bd hml0 hP hK
  obtain ⟨rfl, hZ, hh⟩ := hP
  have hx := Bd.exec
  have hby := Bd.bytes
  have hlk : meth.locks = false := BodyLoose.notSynchronized Bd
  have hret := Bd.returns
  have hml : c.maxLocals = 30 := hml0
  have hown : s.vm.findClass "com/example/metr/metr/PartsNanosToEarnPinLaw" = some m.cls := findClass_of_methodNamed Bd.named
  have hnm := (name_of_methodNamed Bd.named Bd.method).1
  have X0 : Stand p l e room_1 s m #[(.long q0), (.long q1), (.long q2), (.long q3), (.long q4), (.int p5)] below meth c s₁ [] 0 0 := Stand.of_body Bd
  have e0 : s₁.heap = h0 := by rw [← hh, Bd.state]; rfl
  have N0 := Fr.nil Z.heap.size
  show OEnd p e below (GN s (Qrm0 Z q0 q1 q2 q3 q4 p5 h0) 16 128) _
  refine OEnd.of (fun t k => castTop (ef_rm0 m q0 q1 q2 q3 q4 p5) k) ?_
  refine OEnd.of (fun t k => XS.lconst X0.here hx rfl (hb hby at_0) k) ?_
  show OEnd p e below _ (s₁.setTop (mkF m 1 #[.val (.long q0), .second, .val (.long q1), .second, .val (.long q2), .second, .val (.long q3), .second, .val (.long q4), .second, .val (.int p5), .unset, .unset, .unset, .unset, .unset, .unset, .unset, .unset, .unset, .unset, .unset, .unset, .unset, .unset, .unset, .unset, .unset, .unset, .unset] [(.long (1 : Int64))]))
  refine OEnd.of (fun t k => XS.lloadN X0.here hx rfl (hb hby at_1) rfl k) ?_
  show OEnd p e below _ (s₁.setTop (mkF m 2 #[.val (.long q0), .second, .val (.long q1), .second, .val (.long q2), .second, .val (.long q3), .second, .val (.long q4), .second, .val (.int p5), .unset, .unset, .unset, .unset, .unset, .unset, .unset, .unset, .unset, .unset, .unset, .unset, .unset, .unset, .unset, .unset, .unset, .unset, .unset] [(.long q0), (.long (1 : Int64))]))
  refine OEnd.of (X0.ldc2Long hx hown (mvT hZ (hw _ (List.mem_of_getElem? (i := 0) rfl))) (g := (mkF m 2 #[.val (.long q0), .second, .val (.long q1), .second, .val (.long q2), .second, .val (.long q3), .second, .val (.long q4), .second, .val (.int p5), .unset, .unset, .unset, .unset, .unset, .unset, .unset, .unset, .unset, .unset, .unset, .unset, .unset, .unset, .unset, .unset, .unset, .unset, .unset] [(.long q0), (.long (1 : Int64))])) rfl (hb hby at_2)) ?_
  show OEnd p e below _ (s₁.setTop (mkF m 5 #[.val (.long q0), .second, .val (.long q1), .second, .val (.long q2), .second, .val (.long q3), .second, .val (.long q4), .second, .val (.int p5), .unset, .unset, .unset, .unset, .unset, .unset, .unset, .unset, .unset, .unset, .unset, .unset, .unset, .unset, .unset, .unset, .unset, .unset, .unset] [(.long (9223372036854775807 : Int64)), (.long q0), (.long (1 : Int64))]))
  refine OEnd.of (fun t k => XS.land X0.here hx rfl (hb hby at_5) rfl k) ?_
  show OEnd p e below _ (s₁.setTop (mkF m 6 #[.val (.long q0), .second, .val (.long q1), .second, .val (.long q2), .second, .val (.long q3), .second, .val (.long q4), .second, .val (.int p5), .unset, .unset, .unset, .unset, .unset, .unset, .unset, .unset, .unset, .unset, .unset, .unset, .unset, .unset, .unset, .unset, .unset, .unset, .unset] [(.long (q0 &&& (9223372036854775807 : Int64))), (.long (1 : Int64))]))
  obtain ⟨_, _, ⟨T109, L109, k109, n109⟩, -, X109, ⟨Lc109, hQ109, l109, y109, z109⟩, st109⟩ := Jvm.LawKit.callS X0 hx (y := (⟨"java/lang/Math", "max", "(JJ)J"⟩ : MethodName)) hown (mvT hZ (hw _ (List.mem_of_getElem? (i := 1) rfl))) (mvT hZ (hw _ (List.mem_of_getElem? (i := 2) rfl))) (mvT hZ (hw _ (List.mem_of_getElem? (i := 3) rfl))) (mvT hZ (hw _ (List.mem_of_getElem? (i := 4) rfl))) (by decide) (backOf (W := 0) (rm1 l Z a0 hw  [] (1 : Int64) (q0 &&& (9223372036854775807 : Int64)) h0 O0 ) hZ (hw _ (List.mem_of_getElem? (i := 4) rfl)) (hw _ (List.mem_of_getElem? (i := 3) rfl)) (by decide) (by decide)) (g := (mkF m 6 #[.val (.long q0), .second, .val (.long q1), .second, .val (.long q2), .second, .val (.long q3), .second, .val (.long q4), .second, .val (.int p5), .unset, .unset, .unset, .unset, .unset, .unset, .unset, .unset, .unset, .unset, .unset, .unset, .unset, .unset, .unset, .unset, .unset, .unset, .unset] [(.long (q0 &&& (9223372036854775807 : Int64))), (.long (1 : Int64))])) rfl (by rw [hml]; rfl) (argsL := [(.long (1 : Int64)), (.long (q0 &&& (9223372036854775807 : Int64)))]) (rest := []) (lenOf pd_28JJ29J rfl) rfl (by show 2 * 0 + _ ≤ _; exact Nat.le_of_eq rfl) (hb hby at_6) (fun _ _ => ⟨rfl, e0, (by decide : 0 + 0 ≤ _), (by decide : 0 + 0 ≤ _)⟩)
  dsimp only [Pt.U, Pt.locs, Pt.cells, Pt.slots] at X109 l109 y109 z109 st109 hQ109
  subst l109 y109 z109
  obtain ⟨r_110, rfl, Nq109, e109, hr_111⟩ := hQ109
  have N112 := Fr.app N0 Nq109
  refine OEnd.of st109 ?_
  show OEnd p e below _ (T109.setTop (mkF m 9 #[.val (.long q0), .second, .val (.long q1), .second, .val (.long q2), .second, .val (.long q3), .second, .val (.long q4), .second, .val (.int p5), .unset, .unset, .unset, .unset, .unset, .unset, .unset, .unset, .unset, .unset, .unset, .unset, .unset, .unset, .unset, .unset, .unset, .unset, .unset] [(.long r_110)]))
  refine OEnd.of (fun t k => XS.lstore X109.here hx rfl (hb hby at_9) rfl (l' := #[.val (.long q0), .second, .val (.long q1), .second, .val (.long q2), .second, .val (.long q3), .second, .val (.long q4), .second, .val (.int p5), .val (.long r_110), .second, .unset, .unset, .unset, .unset, .unset, .unset, .unset, .unset, .unset, .unset, .unset, .unset, .unset, .unset, .unset, .unset, .unset]) rfl k) ?_
  show OEnd p e below _ (T109.setTop (mkF m 11 #[.val (.long q0), .second, .val (.long q1), .second, .val (.long q2), .second, .val (.long q3), .second, .val (.long q4), .second, .val (.int p5), .val (.long r_110), .second, .unset, .unset, .unset, .unset, .unset, .unset, .unset, .unset, .unset, .unset, .unset, .unset, .unset, .unset, .unset, .unset, .unset] []))
  refine OEnd.of (fun t k => XS.lconst X109.here hx rfl (hb hby at_11) k) ?_
  show OEnd p e below _ (T109.setTop (mkF m 12 #[.val (.long q0), .second, .val (.long q1), .second, .val (.long q2), .second, .val (.long q3), .second, .val (.long q4), .second, .val (.int p5), .val (.long r_110), .second, .unset, .unset, .unset, .unset, .unset, .unset, .unset, .unset, .unset, .unset, .unset, .unset, .unset, .unset, .unset, .unset, .unset] [(.long (1 : Int64))]))
  refine OEnd.of (fun t k => XS.lload X109.here hx rfl (hb hby at_12) rfl k) ?_
  show OEnd p e below _ (T109.setTop (mkF m 14 #[.val (.long q0), .second, .val (.long q1), .second, .val (.long q2), .second, .val (.long q3), .second, .val (.long q4), .second, .val (.int p5), .val (.long r_110), .second, .unset, .unset, .unset, .unset, .unset, .unset, .unset, .unset, .unset, .unset, .unset, .unset, .unset, .unset, .unset, .unset, .unset] [(.long q2), (.long (1 : Int64))]))
  refine OEnd.of (X109.ldc2Long hx hown (mvT hZ (hw _ (List.mem_of_getElem? (i := 0) rfl))) (g := (mkF m 14 #[.val (.long q0), .second, .val (.long q1), .second, .val (.long q2), .second, .val (.long q3), .second, .val (.long q4), .second, .val (.int p5), .val (.long r_110), .second, .unset, .unset, .unset, .unset, .unset, .unset, .unset, .unset, .unset, .unset, .unset, .unset, .unset, .unset, .unset, .unset, .unset] [(.long q2), (.long (1 : Int64))])) rfl (hb hby at_14)) ?_
  show OEnd p e below _ (T109.setTop (mkF m 17 #[.val (.long q0), .second, .val (.long q1), .second, .val (.long q2), .second, .val (.long q3), .second, .val (.long q4), .second, .val (.int p5), .val (.long r_110), .second, .unset, .unset, .unset, .unset, .unset, .unset, .unset, .unset, .unset, .unset, .unset, .unset, .unset, .unset, .unset, .unset, .unset] [(.long (9223372036854775807 : Int64)), (.long q2), (.long (1 : Int64))]))
  refine OEnd.of (fun t k => XS.land X109.here hx rfl (hb hby at_17) rfl k) ?_
  show OEnd p e below _ (T109.setTop (mkF m 18 #[.val (.long q0), .second, .val (.long q1), .second, .val (.long q2), .second, .val (.long q3), .second, .val (.long q4), .second, .val (.int p5), .val (.long r_110), .second, .unset, .unset, .unset, .unset, .unset, .unset, .unset, .unset, .unset, .unset, .unset, .unset, .unset, .unset, .unset, .unset, .unset] [(.long (q2 &&& (9223372036854775807 : Int64))), (.long (1 : Int64))]))
  obtain ⟨_, _, ⟨T113, L113, k113, n113⟩, -, X113, ⟨Lc113, hQ113, l113, y113, z113⟩, st113⟩ := Jvm.LawKit.callS X109 hx (y := (⟨"java/lang/Math", "max", "(JJ)J"⟩ : MethodName)) hown (mvT hZ (hw _ (List.mem_of_getElem? (i := 1) rfl))) (mvT hZ (hw _ (List.mem_of_getElem? (i := 2) rfl))) (mvT hZ (hw _ (List.mem_of_getElem? (i := 3) rfl))) (mvT hZ (hw _ (List.mem_of_getElem? (i := 4) rfl))) (by decide) (backOf (W := 0) (rm1 l Z a0 hw  [] (1 : Int64) (q2 &&& (9223372036854775807 : Int64)) h0 O0 ) hZ (hw _ (List.mem_of_getElem? (i := 4) rfl)) (hw _ (List.mem_of_getElem? (i := 3) rfl)) (by decide) (by decide)) (g := (mkF m 18 #[.val (.long q0), .second, .val (.long q1), .second, .val (.long q2), .second, .val (.long q3), .second, .val (.long q4), .second, .val (.int p5), .val (.long r_110), .second, .unset, .unset, .unset, .unset, .unset, .unset, .unset, .unset, .unset, .unset, .unset, .unset, .unset, .unset, .unset, .unset, .unset] [(.long (q2 &&& (9223372036854775807 : Int64))), (.long (1 : Int64))])) rfl (by rw [hml]; rfl) (argsL := [(.long (1 : Int64)), (.long (q2 &&& (9223372036854775807 : Int64)))]) (rest := []) (lenOf pd_28JJ29J rfl) rfl (by show 2 * 0 + _ ≤ _; exact Nat.le_of_eq rfl) (hb hby at_18) (fun _ _ => ⟨rfl, e109, (by decide : 0 + 0 ≤ _), (by decide : 0 + 0 ≤ _)⟩)
  dsimp only [Pt.U, Pt.locs, Pt.cells, Pt.slots] at X113 l113 y113 z113 st113 hQ113
  subst l113 y113 z113
  obtain ⟨r_114, rfl, Nq113, e113, hr_115⟩ := hQ113
  have N116 := Fr.app N112 Nq113
  refine OEnd.of st113 ?_
  show OEnd p e below _ (T113.setTop (mkF m 21 #[.val (.long q0), .second, .val (.long q1), .second, .val (.long q2), .second, .val (.long q3), .second, .val (.long q4), .second, .val (.int p5), .val (.long r_110), .second, .unset, .unset, .unset, .unset, .unset, .unset, .unset, .unset, .unset, .unset, .unset, .unset, .unset, .unset, .unset, .unset, .unset] [(.long r_114)]))
  refine OEnd.of (fun t k => XS.lstore X113.here hx rfl (hb hby at_21) rfl (l' := #[.val (.long q0), .second, .val (.long q1), .second, .val (.long q2), .second, .val (.long q3), .second, .val (.long q4), .second, .val (.int p5), .val (.long r_110), .second, .val (.long r_114), .second, .unset, .unset, .unset, .unset, .unset, .unset, .unset, .unset, .unset, .unset, .unset, .unset, .unset, .unset, .unset]) rfl k) ?_
  show OEnd p e below _ (T113.setTop (mkF m 23 #[.val (.long q0), .second, .val (.long q1), .second, .val (.long q2), .second, .val (.long q3), .second, .val (.long q4), .second, .val (.int p5), .val (.long r_110), .second, .val (.long r_114), .second, .unset, .unset, .unset, .unset, .unset, .unset, .unset, .unset, .unset, .unset, .unset, .unset, .unset, .unset, .unset] []))
  refine OEnd.of (fun t k => XS.iload X113.here hx rfl (hb hby at_23) rfl k) ?_
  show OEnd p e below _ (T113.setTop (mkF m 25 #[.val (.long q0), .second, .val (.long q1), .second, .val (.long q2), .second, .val (.long q3), .second, .val (.long q4), .second, .val (.int p5), .val (.long r_110), .second, .val (.long r_114), .second, .unset, .unset, .unset, .unset, .unset, .unset, .unset, .unset, .unset, .unset, .unset, .unset, .unset, .unset, .unset] [(.int p5)]))
  refine OEnd.of (fun t k => XS.iconst X113.here hx rfl (hb hby at_25) k) ?_
  show OEnd p e below _ (T113.setTop (mkF m 26 #[.val (.long q0), .second, .val (.long q1), .second, .val (.long q2), .second, .val (.long q3), .second, .val (.long q4), .second, .val (.int p5), .val (.long r_110), .second, .val (.long r_114), .second, .unset, .unset, .unset, .unset, .unset, .unset, .unset, .unset, .unset, .unset, .unset, .unset, .unset, .unset, .unset] [(.int (1 : Int32)), (.int p5)]))
  refine OEnd.of (fun t k => XS.iand X113.here hx rfl (hb hby at_26) rfl k) ?_
  show OEnd p e below _ (T113.setTop (mkF m 27 #[.val (.long q0), .second, .val (.long q1), .second, .val (.long q2), .second, .val (.long q3), .second, .val (.long q4), .second, .val (.int p5), .val (.long r_110), .second, .val (.long r_114), .second, .unset, .unset, .unset, .unset, .unset, .unset, .unset, .unset, .unset, .unset, .unset, .unset, .unset, .unset, .unset] [(.int (p5 &&& (1 : Int32)))]))
  have J117 : ∀ (T117 : State) (Lo117 : List Loc) (t15 : Int64), Stand p l e room_1 s m #[(.long q0), (.long q1), (.long q2), (.long q3), (.long q4), (.int p5)] below meth c T117 Lo117 0 0 → T117.heap = h0 → Fr Z.heap.size Lo117 → (0 < t15.toInt) → OEnd p e below (GN s (Qrm0 Z q0 q1 q2 q3 q4 p5 h0) 16 128) (T117.setTop (mkF m 53 #[.val (.long q0), .second, .val (.long q1), .second, .val (.long q2), .second, .val (.long q3), .second, .val (.long q4), .second, .val (.int p5), .val (.long r_110), .second, .val (.long r_114), .second, .val (.long t15), .second, .unset, .unset, .unset, .unset, .unset, .unset, .unset, .unset, .unset, .unset, .unset, .unset, .unset] [])) := by
    rintro T117 Lo117 t15 X117 e117 N117 ht15
    show OEnd p e below _ (T117.setTop (mkF m 53 #[.val (.long q0), .second, .val (.long q1), .second, .val (.long q2), .second, .val (.long q3), .second, .val (.long q4), .second, .val (.int p5), .val (.long r_110), .second, .val (.long r_114), .second, .val (.long t15), .second, .unset, .unset, .unset, .unset, .unset, .unset, .unset, .unset, .unset, .unset, .unset, .unset, .unset] []))
    refine OEnd.of (fun t k => XS.iload X117.here hx rfl (hb hby at_53) rfl k) ?_
    show OEnd p e below _ (T117.setTop (mkF m 55 #[.val (.long q0), .second, .val (.long q1), .second, .val (.long q2), .second, .val (.long q3), .second, .val (.long q4), .second, .val (.int p5), .val (.long r_110), .second, .val (.long r_114), .second, .val (.long t15), .second, .unset, .unset, .unset, .unset, .unset, .unset, .unset, .unset, .unset, .unset, .unset, .unset, .unset] [(.int p5)]))
    refine OEnd.of (fun t k => XS.iconst X117.here hx rfl (hb hby at_55) k) ?_
    show OEnd p e below _ (T117.setTop (mkF m 56 #[.val (.long q0), .second, .val (.long q1), .second, .val (.long q2), .second, .val (.long q3), .second, .val (.long q4), .second, .val (.int p5), .val (.long r_110), .second, .val (.long r_114), .second, .val (.long t15), .second, .unset, .unset, .unset, .unset, .unset, .unset, .unset, .unset, .unset, .unset, .unset, .unset, .unset] [(.int (2 : Int32)), (.int p5)]))
    refine OEnd.of (fun t k => XS.iand X117.here hx rfl (hb hby at_56) rfl k) ?_
    show OEnd p e below _ (T117.setTop (mkF m 57 #[.val (.long q0), .second, .val (.long q1), .second, .val (.long q2), .second, .val (.long q3), .second, .val (.long q4), .second, .val (.int p5), .val (.long r_110), .second, .val (.long r_114), .second, .val (.long t15), .second, .unset, .unset, .unset, .unset, .unset, .unset, .unset, .unset, .unset, .unset, .unset, .unset, .unset] [(.int (p5 &&& (2 : Int32)))]))
    have J118 : ∀ (T118 : State) (Lo118 : List Loc) (p17 : Int64), Stand p l e room_1 s m #[(.long q0), (.long q1), (.long q2), (.long q3), (.long q4), (.int p5)] below meth c T118 Lo118 0 0 → T118.heap = h0 → Fr Z.heap.size Lo118 → (0 < p17.toInt) → OEnd p e below (GN s (Qrm0 Z q0 q1 q2 q3 q4 p5 h0) 16 128) (T118.setTop (mkF m 85 #[.val (.long q0), .second, .val (.long q1), .second, .val (.long q2), .second, .val (.long q3), .second, .val (.long q4), .second, .val (.int p5), .val (.long r_110), .second, .val (.long r_114), .second, .val (.long t15), .second, .val (.long p17), .second, .unset, .unset, .unset, .unset, .unset, .unset, .unset, .unset, .unset, .unset, .unset] [])) := by
      rintro T118 Lo118 p17 X118 e118 N118 hp17
      show OEnd p e below _ (T118.setTop (mkF m 85 #[.val (.long q0), .second, .val (.long q1), .second, .val (.long q2), .second, .val (.long q3), .second, .val (.long q4), .second, .val (.int p5), .val (.long r_110), .second, .val (.long r_114), .second, .val (.long t15), .second, .val (.long p17), .second, .unset, .unset, .unset, .unset, .unset, .unset, .unset, .unset, .unset, .unset, .unset] []))
      refine OEnd.of (fun t k => XS.iload X118.here hx rfl (hb hby at_85) rfl k) ?_
      show OEnd p e below _ (T118.setTop (mkF m 87 #[.val (.long q0), .second, .val (.long q1), .second, .val (.long q2), .second, .val (.long q3), .second, .val (.long q4), .second, .val (.int p5), .val (.long r_110), .second, .val (.long r_114), .second, .val (.long t15), .second, .val (.long p17), .second, .unset, .unset, .unset, .unset, .unset, .unset, .unset, .unset, .unset, .unset, .unset] [(.int p5)]))
      refine OEnd.of (fun t k => XS.iconst X118.here hx rfl (hb hby at_87) k) ?_
      show OEnd p e below _ (T118.setTop (mkF m 88 #[.val (.long q0), .second, .val (.long q1), .second, .val (.long q2), .second, .val (.long q3), .second, .val (.long q4), .second, .val (.int p5), .val (.long r_110), .second, .val (.long r_114), .second, .val (.long t15), .second, .val (.long p17), .second, .unset, .unset, .unset, .unset, .unset, .unset, .unset, .unset, .unset, .unset, .unset] [(.int (4 : Int32)), (.int p5)]))
      refine OEnd.of (fun t k => XS.iand X118.here hx rfl (hb hby at_88) rfl k) ?_
      show OEnd p e below _ (T118.setTop (mkF m 89 #[.val (.long q0), .second, .val (.long q1), .second, .val (.long q2), .second, .val (.long q3), .second, .val (.long q4), .second, .val (.int p5), .val (.long r_110), .second, .val (.long r_114), .second, .val (.long t15), .second, .val (.long p17), .second, .unset, .unset, .unset, .unset, .unset, .unset, .unset, .unset, .unset, .unset, .unset] [(.int (p5 &&& (4 : Int32)))]))
      have J119 : ∀ (T119 : State) (Lo119 : List Loc) (g19 : Int64), Stand p l e room_1 s m #[(.long q0), (.long q1), (.long q2), (.long q3), (.long q4), (.int p5)] below meth c T119 Lo119 0 0 → T119.heap = h0 → Fr Z.heap.size Lo119 → (0 ≤ g19.toInt) → OEnd p e below (GN s (Qrm0 Z q0 q1 q2 q3 q4 p5 h0) 16 128) (T119.setTop (mkF m 134 #[.val (.long q0), .second, .val (.long q1), .second, .val (.long q2), .second, .val (.long q3), .second, .val (.long q4), .second, .val (.int p5), .val (.long r_110), .second, .val (.long r_114), .second, .val (.long t15), .second, .val (.long p17), .second, .val (.long g19), .second, .unset, .unset, .unset, .unset, .unset, .unset, .unset, .unset, .unset] [])) := by
        rintro T119 Lo119 g19 X119 e119 N119 hg19
        show OEnd p e below _ (T119.setTop (mkF m 134 #[.val (.long q0), .second, .val (.long q1), .second, .val (.long q2), .second, .val (.long q3), .second, .val (.long q4), .second, .val (.int p5), .val (.long r_110), .second, .val (.long r_114), .second, .val (.long t15), .second, .val (.long p17), .second, .val (.long g19), .second, .unset, .unset, .unset, .unset, .unset, .unset, .unset, .unset, .unset] []))
        have htnz : t15 ≠ 0 := own_ne0 ht15
        obtain ⟨T120, h120, X120, e120, E120, A120, D120, -, st120⟩ := newO X119 hx hZ hown (hw _ (List.mem_of_getElem? (i := 6) rfl)) (hw _ (List.mem_of_getElem? (i := 7) rfl)) (hw _ (List.mem_of_getElem? (i := 8) rfl)) e119 (g := (mkF m 134 #[.val (.long q0), .second, .val (.long q1), .second, .val (.long q2), .second, .val (.long q3), .second, .val (.long q4), .second, .val (.int p5), .val (.long r_110), .second, .val (.long r_114), .second, .val (.long t15), .second, .val (.long p17), .second, .val (.long g19), .second, .unset, .unset, .unset, .unset, .unset, .unset, .unset, .unset, .unset] [])) rfl (hb hby at_134) (by decide) (by decide)
        obtain ⟨b120, g120⟩ : ∃ z, z = h0.size := ⟨_, rfl⟩
        rw [← g120] at A120 D120 st120
        refine OEnd.of st120 ?_
        have f120 : Z.heap.size ≤ b120 := Nat.le_trans O0.1 (Nat.le_of_eq g120.symm)
        have F121 : Fld Z h120 b120 "com/example/metr/metr/Parts" "capacity" "J" (.long (0 : Int64)) := D120 (Or.inr (hw _ (List.mem_of_getElem? (i := 16) rfl))) (ty := .long) (by decide)
        have F122 : Fld Z h120 b120 "com/example/metr/metr/Parts" "refillTokens" "J" (.long (0 : Int64)) := D120 (Or.inr (hw _ (List.mem_of_getElem? (i := 18) rfl))) (ty := .long) (by decide)
        have F123 : Fld Z h120 b120 "com/example/metr/metr/Parts" "refillPeriod" "J" (.long (0 : Int64)) := D120 (Or.inr (hw _ (List.mem_of_getElem? (i := 20) rfl))) (ty := .long) (by decide)
        have F124 : Fld Z h120 b120 "com/example/metr/metr/Parts" "capacityParts" "J" (.long (0 : Int64)) := D120 (Or.inr (hw _ (List.mem_of_getElem? (i := 31) rfl))) (ty := .long) (by decide)
        have F125 : Fld Z h120 b120 "com/example/metr/metr/Parts" "deficitBits" "I" (.int (0 : Int32)) := D120 (Or.inr (hw _ (List.mem_of_getElem? (i := 42) rfl))) (ty := .int) (by decide)
        have F126 : Fld Z h120 b120 "com/example/metr/metr/Parts" "mostElapsed" "J" (.long (0 : Int64)) := D120 (Or.inr (hw _ (List.mem_of_getElem? (i := 45) rfl))) (ty := .long) (by decide)
        show OEnd p e below _ (T120.setTop (mkF m 137 #[.val (.long q0), .second, .val (.long q1), .second, .val (.long q2), .second, .val (.long q3), .second, .val (.long q4), .second, .val (.int p5), .val (.long r_110), .second, .val (.long r_114), .second, .val (.long t15), .second, .val (.long p17), .second, .val (.long g19), .second, .unset, .unset, .unset, .unset, .unset, .unset, .unset, .unset, .unset] [(.ref b120)]))
        refine OEnd.of (fun t k => XS.dup X120.here hx rfl (hb hby at_137) rfl rfl k) ?_
        show OEnd p e below _ (T120.setTop (mkF m 138 #[.val (.long q0), .second, .val (.long q1), .second, .val (.long q2), .second, .val (.long q3), .second, .val (.long q4), .second, .val (.int p5), .val (.long r_110), .second, .val (.long r_114), .second, .val (.long t15), .second, .val (.long p17), .second, .val (.long g19), .second, .unset, .unset, .unset, .unset, .unset, .unset, .unset, .unset, .unset] [(.ref b120), (.ref b120)]))
        refine OEnd.of (fun t k => XS.lload X120.here hx rfl (hb hby at_138) rfl k) ?_
        show OEnd p e below _ (T120.setTop (mkF m 140 #[.val (.long q0), .second, .val (.long q1), .second, .val (.long q2), .second, .val (.long q3), .second, .val (.long q4), .second, .val (.int p5), .val (.long r_110), .second, .val (.long r_114), .second, .val (.long t15), .second, .val (.long p17), .second, .val (.long g19), .second, .unset, .unset, .unset, .unset, .unset, .unset, .unset, .unset, .unset] [(.long r_110), (.ref b120), (.ref b120)]))
        refine OEnd.of (fun t k => XS.lload X120.here hx rfl (hb hby at_140) rfl k) ?_
        show OEnd p e below _ (T120.setTop (mkF m 142 #[.val (.long q0), .second, .val (.long q1), .second, .val (.long q2), .second, .val (.long q3), .second, .val (.long q4), .second, .val (.int p5), .val (.long r_110), .second, .val (.long r_114), .second, .val (.long t15), .second, .val (.long p17), .second, .val (.long g19), .second, .unset, .unset, .unset, .unset, .unset, .unset, .unset, .unset, .unset] [(.long t15), (.long r_110), (.ref b120), (.ref b120)]))
        refine OEnd.of (fun t k => XS.lload X120.here hx rfl (hb hby at_142) rfl k) ?_
        show OEnd p e below _ (T120.setTop (mkF m 144 #[.val (.long q0), .second, .val (.long q1), .second, .val (.long q2), .second, .val (.long q3), .second, .val (.long q4), .second, .val (.int p5), .val (.long r_110), .second, .val (.long r_114), .second, .val (.long t15), .second, .val (.long p17), .second, .val (.long g19), .second, .unset, .unset, .unset, .unset, .unset, .unset, .unset, .unset, .unset] [(.long r_114), (.long t15), (.long r_110), (.ref b120), (.ref b120)]))
        have K128 : Keep h0 h120 [] := ((Keep.refl h0 []).ext E120)
        have O129 : Ext Z.heap h120 := own_extKeep O0 K128 all0
        obtain ⟨_, _, ⟨T127, L127, k127, n127⟩, -, X127, ⟨Lc127, hQ127, l127, y127, z127⟩, st127⟩ := X120.specialBack hx (y := (⟨"com/example/metr/metr/Parts", "<init>", "(JJJ)V"⟩ : MethodName)) rfl hown (mvT hZ (hw _ (List.mem_of_getElem? (i := 9) rfl))) (mvT hZ (hw _ (List.mem_of_getElem? (i := 10) rfl))) (mvT hZ (hw _ (List.mem_of_getElem? (i := 11) rfl))) (by decide) (backOf (W := 1) (rm2 l Z a0 hw  [] b120 r_110 t15 r_114 h120 O129 A120 F121 F122 F123 F124 F125 F126 f120 htnz) hZ (hw _ (List.mem_of_getElem? (i := 11) rfl)) (hw _ (List.mem_of_getElem? (i := 8) rfl)) (by decide) (by decide)) (g := (mkF m 144 #[.val (.long q0), .second, .val (.long q1), .second, .val (.long q2), .second, .val (.long q3), .second, .val (.long q4), .second, .val (.int p5), .val (.long r_110), .second, .val (.long r_114), .second, .val (.long t15), .second, .val (.long p17), .second, .val (.long g19), .second, .unset, .unset, .unset, .unset, .unset, .unset, .unset, .unset, .unset] [(.long r_114), (.long t15), (.long r_110), (.ref b120), (.ref b120)])) rfl (by rw [hml]; rfl) (Steps.refl _) (a := b120) (argsL := [(.long r_110), (.long t15), (.long r_114)]) (rest := [(.ref b120)]) (lenOf pd_28JJJ29V rfl) rfl (by show 2 * 0 + _ ≤ _; exact Nat.le_of_eq rfl) (hb hby at_144) (fun _ _ => ⟨rfl, e120, (by decide : 1 + 0 ≤ _), (by decide : 6 + 0 ≤ _)⟩)
        dsimp only [Pt.U, Pt.locs, Pt.cells, Pt.slots] at X127 l127 y127 z127 st127 hQ127
        subst l127 y127 z127
        obtain ⟨h127, e127⟩ : ∃ z, T127.heap = z := ⟨_, rfl⟩
        rw [e127] at hQ127
        obtain ⟨rfl, Nq127, Kq127, E_130, Fc_131, Ft_132, Fp_133, Fm_134⟩ := hQ127
        have N135 := Fr.app N119 Nq127
        refine OEnd.of (fun t k => st127.trans k) ?_
        show OEnd p e below _ (T127.setTop (mkF m 147 #[.val (.long q0), .second, .val (.long q1), .second, .val (.long q2), .second, .val (.long q3), .second, .val (.long q4), .second, .val (.int p5), .val (.long r_110), .second, .val (.long r_114), .second, .val (.long t15), .second, .val (.long p17), .second, .val (.long g19), .second, .unset, .unset, .unset, .unset, .unset, .unset, .unset, .unset, .unset] [(.ref b120)]))
        refine OEnd.of (fun t k => XS.astore X127.here hx rfl (hb hby at_147) rfl rfl (l' := #[.val (.long q0), .second, .val (.long q1), .second, .val (.long q2), .second, .val (.long q3), .second, .val (.long q4), .second, .val (.int p5), .val (.long r_110), .second, .val (.long r_114), .second, .val (.long t15), .second, .val (.long p17), .second, .val (.long g19), .second, .val (.ref b120), .unset, .unset, .unset, .unset, .unset, .unset, .unset, .unset]) rfl k) ?_
        show OEnd p e below _ (T127.setTop (mkF m 149 #[.val (.long q0), .second, .val (.long q1), .second, .val (.long q2), .second, .val (.long q3), .second, .val (.long q4), .second, .val (.int p5), .val (.long r_110), .second, .val (.long r_114), .second, .val (.long t15), .second, .val (.long p17), .second, .val (.long g19), .second, .val (.ref b120), .unset, .unset, .unset, .unset, .unset, .unset, .unset, .unset] []))
        refine OEnd.of (fun t k => XS.aload X127.here hx rfl (hb hby at_149) rfl rfl k) ?_
        show OEnd p e below _ (T127.setTop (mkF m 151 #[.val (.long q0), .second, .val (.long q1), .second, .val (.long q2), .second, .val (.long q3), .second, .val (.long q4), .second, .val (.int p5), .val (.long r_110), .second, .val (.long r_114), .second, .val (.long t15), .second, .val (.long p17), .second, .val (.long g19), .second, .val (.ref b120), .unset, .unset, .unset, .unset, .unset, .unset, .unset, .unset] [(.ref b120)]))
        refine OEnd.of (fun t k => XS.lload X127.here hx rfl (hb hby at_151) rfl k) ?_
        show OEnd p e below _ (T127.setTop (mkF m 153 #[.val (.long q0), .second, .val (.long q1), .second, .val (.long q2), .second, .val (.long q3), .second, .val (.long q4), .second, .val (.int p5), .val (.long r_110), .second, .val (.long r_114), .second, .val (.long t15), .second, .val (.long p17), .second, .val (.long g19), .second, .val (.ref b120), .unset, .unset, .unset, .unset, .unset, .unset, .unset, .unset] [(.long p17), (.ref b120)]))
        refine OEnd.of (fun t k => XS.lload X127.here hx rfl (hb hby at_153) rfl k) ?_
        show OEnd p e below _ (T127.setTop (mkF m 155 #[.val (.long q0), .second, .val (.long q1), .second, .val (.long q2), .second, .val (.long q3), .second, .val (.long q4), .second, .val (.int p5), .val (.long r_110), .second, .val (.long r_114), .second, .val (.long t15), .second, .val (.long p17), .second, .val (.long g19), .second, .val (.ref b120), .unset, .unset, .unset, .unset, .unset, .unset, .unset, .unset] [(.long g19), (.long p17), (.ref b120)]))
        have K137 : Keep h120 h127 [b120] := ((Keep.refl h120 [b120]).trans Kq127 (allS (Or.inl (List.mem_of_getElem? (i := 0) rfl)) all0))
        have O138 : Ext Z.heap h127 := own_extKeep O129 K137 (allS f120 all0)
        obtain ⟨cq136, kq136, q136a, q136b, q136c⟩ := isOf hZ e127 E_130
        obtain ⟨_, _, ⟨T136, L136, k136, n136⟩, -, X136, ⟨Lc136, hQ136, l136, y136, z136⟩, st136⟩ := X127.virtualBack hx (y := (⟨"com/example/metr/metr/Parts", "nanosToEarn", "(JJ)J"⟩ : MethodName)) (z := (⟨"com/example/metr/metr/Parts", "nanosToEarn", "(JJ)J"⟩ : MethodName)) hown (mvT hZ (hw _ (List.mem_of_getElem? (i := 46) rfl))) (mvT hZ (hw _ (List.mem_of_getElem? (i := 47) rfl))) (notFace_of_selects (args := #[]) (mvT hZ (hw _ (List.mem_of_getElem? (i := 49) rfl)))) (mvT hZ (hw _ (List.mem_of_getElem? (i := 49) rfl))) (mvT hZ (hw _ (List.mem_of_getElem? (i := 48) rfl))) (by decide) (backOf (W := 0) (rm8 l Z a0 hw  [] b120 p17 g19 t15 h127 O138 Ft_132 htnz) hZ (hw _ (List.mem_of_getElem? (i := 50) rfl)) (hw _ (List.mem_of_getElem? (i := 8) rfl)) (by decide) (by decide)) q136a q136c (g := (mkF m 155 #[.val (.long q0), .second, .val (.long q1), .second, .val (.long q2), .second, .val (.long q3), .second, .val (.long q4), .second, .val (.int p5), .val (.long r_110), .second, .val (.long r_114), .second, .val (.long t15), .second, .val (.long p17), .second, .val (.long g19), .second, .val (.ref b120), .unset, .unset, .unset, .unset, .unset, .unset, .unset, .unset] [(.long g19), (.long p17), (.ref b120)])) rfl (by rw [hml]; rfl) (Steps.refl _) (argsL := [(.long p17), (.long g19)]) (rest := []) (lenOf pd_28JJ29J rfl) rfl (by show 2 * 0 + _ ≤ _; exact Nat.le_of_eq rfl) (hb hby at_155) (fun _ _ => ⟨rfl, e127, (by decide : 1 + 0 ≤ _), (by decide : 6 + 0 ≤ _)⟩)
        dsimp only [Pt.U, Pt.locs, Pt.cells, Pt.slots] at X136 l136 y136 z136 st136 hQ136
        subst l136 y136 z136
        obtain ⟨r_139, rfl, Nq136, e136, hr_140⟩ := hQ136
        have N141 := Fr.app N135 Nq136
        refine OEnd.of (fun t k => st136.trans k) ?_
        show OEnd p e below _ (T136.setTop (mkF m 158 #[.val (.long q0), .second, .val (.long q1), .second, .val (.long q2), .second, .val (.long q3), .second, .val (.long q4), .second, .val (.int p5), .val (.long r_110), .second, .val (.long r_114), .second, .val (.long t15), .second, .val (.long p17), .second, .val (.long g19), .second, .val (.ref b120), .unset, .unset, .unset, .unset, .unset, .unset, .unset, .unset] [(.long r_139)]))
        refine OEnd.of (fun t k => XS.lstore X136.here hx rfl (hb hby at_158) rfl (l' := #[.val (.long q0), .second, .val (.long q1), .second, .val (.long q2), .second, .val (.long q3), .second, .val (.long q4), .second, .val (.int p5), .val (.long r_110), .second, .val (.long r_114), .second, .val (.long t15), .second, .val (.long p17), .second, .val (.long g19), .second, .val (.ref b120), .val (.long r_139), .second, .unset, .unset, .unset, .unset, .unset, .unset]) rfl k) ?_
        show OEnd p e below _ (T136.setTop (mkF m 160 #[.val (.long q0), .second, .val (.long q1), .second, .val (.long q2), .second, .val (.long q3), .second, .val (.long q4), .second, .val (.int p5), .val (.long r_110), .second, .val (.long r_114), .second, .val (.long t15), .second, .val (.long p17), .second, .val (.long g19), .second, .val (.ref b120), .val (.long r_139), .second, .unset, .unset, .unset, .unset, .unset, .unset] []))
        refine OEnd.of (fun t k => XS.lload X136.here hx rfl (hb hby at_160) rfl k) ?_
        show OEnd p e below _ (T136.setTop (mkF m 162 #[.val (.long q0), .second, .val (.long q1), .second, .val (.long q2), .second, .val (.long q3), .second, .val (.long q4), .second, .val (.int p5), .val (.long r_110), .second, .val (.long r_114), .second, .val (.long t15), .second, .val (.long p17), .second, .val (.long g19), .second, .val (.ref b120), .val (.long r_139), .second, .unset, .unset, .unset, .unset, .unset, .unset] [(.long p17)]))
        refine OEnd.of (fun t k => XS.lconst X136.here hx rfl (hb hby at_162) k) ?_
        show OEnd p e below _ (T136.setTop (mkF m 163 #[.val (.long q0), .second, .val (.long q1), .second, .val (.long q2), .second, .val (.long q3), .second, .val (.long q4), .second, .val (.int p5), .val (.long r_110), .second, .val (.long r_114), .second, .val (.long t15), .second, .val (.long p17), .second, .val (.long g19), .second, .val (.ref b120), .val (.long r_139), .second, .unset, .unset, .unset, .unset, .unset, .unset] [(.long (1 : Int64)), (.long p17)]))
        refine OEnd.of (fun t k => XS.lsub X136.here hx rfl (hb hby at_163) rfl k) ?_
        show OEnd p e below _ (T136.setTop (mkF m 164 #[.val (.long q0), .second, .val (.long q1), .second, .val (.long q2), .second, .val (.long q3), .second, .val (.long q4), .second, .val (.int p5), .val (.long r_110), .second, .val (.long r_114), .second, .val (.long t15), .second, .val (.long p17), .second, .val (.long g19), .second, .val (.ref b120), .val (.long r_139), .second, .unset, .unset, .unset, .unset, .unset, .unset] [(.long (p17 - (1 : Int64)))]))
        refine OEnd.of (fun t k => XS.lload X136.here hx rfl (hb hby at_164) rfl k) ?_
        show OEnd p e below _ (T136.setTop (mkF m 166 #[.val (.long q0), .second, .val (.long q1), .second, .val (.long q2), .second, .val (.long q3), .second, .val (.long q4), .second, .val (.int p5), .val (.long r_110), .second, .val (.long r_114), .second, .val (.long t15), .second, .val (.long p17), .second, .val (.long g19), .second, .val (.ref b120), .val (.long r_139), .second, .unset, .unset, .unset, .unset, .unset, .unset] [(.long t15), (.long (p17 - (1 : Int64)))]))
        refine OEnd.of (fun t k => XS.ldiv X136.here hx rfl (hb hby at_166) rfl htnz k) ?_
        show OEnd p e below _ (T136.setTop (mkF m 167 #[.val (.long q0), .second, .val (.long q1), .second, .val (.long q2), .second, .val (.long q3), .second, .val (.long q4), .second, .val (.int p5), .val (.long r_110), .second, .val (.long r_114), .second, .val (.long t15), .second, .val (.long p17), .second, .val (.long g19), .second, .val (.ref b120), .val (.long r_139), .second, .unset, .unset, .unset, .unset, .unset, .unset] [(.long ((p17 - (1 : Int64)) / t15))]))
        refine OEnd.of (fun t k => XS.lconst X136.here hx rfl (hb hby at_167) k) ?_
        show OEnd p e below _ (T136.setTop (mkF m 168 #[.val (.long q0), .second, .val (.long q1), .second, .val (.long q2), .second, .val (.long q3), .second, .val (.long q4), .second, .val (.int p5), .val (.long r_110), .second, .val (.long r_114), .second, .val (.long t15), .second, .val (.long p17), .second, .val (.long g19), .second, .val (.ref b120), .val (.long r_139), .second, .unset, .unset, .unset, .unset, .unset, .unset] [(.long (1 : Int64)), (.long ((p17 - (1 : Int64)) / t15))]))
        refine OEnd.of (fun t k => XS.ladd X136.here hx rfl (hb hby at_168) rfl k) ?_
        show OEnd p e below _ (T136.setTop (mkF m 169 #[.val (.long q0), .second, .val (.long q1), .second, .val (.long q2), .second, .val (.long q3), .second, .val (.long q4), .second, .val (.int p5), .val (.long r_110), .second, .val (.long r_114), .second, .val (.long t15), .second, .val (.long p17), .second, .val (.long g19), .second, .val (.ref b120), .val (.long r_139), .second, .unset, .unset, .unset, .unset, .unset, .unset] [(.long (((p17 - (1 : Int64)) / t15) + (1 : Int64)))]))
        refine OEnd.of (fun t k => XS.lstore X136.here hx rfl (hb hby at_169) rfl (l' := #[.val (.long q0), .second, .val (.long q1), .second, .val (.long q2), .second, .val (.long q3), .second, .val (.long q4), .second, .val (.int p5), .val (.long r_110), .second, .val (.long r_114), .second, .val (.long t15), .second, .val (.long p17), .second, .val (.long g19), .second, .val (.ref b120), .val (.long r_139), .second, .val (.long (((p17 - (1 : Int64)) / t15) + (1 : Int64))), .second, .unset, .unset, .unset, .unset]) rfl k) ?_
        show OEnd p e below _ (T136.setTop (mkF m 171 #[.val (.long q0), .second, .val (.long q1), .second, .val (.long q2), .second, .val (.long q3), .second, .val (.long q4), .second, .val (.int p5), .val (.long r_110), .second, .val (.long r_114), .second, .val (.long t15), .second, .val (.long p17), .second, .val (.long g19), .second, .val (.ref b120), .val (.long r_139), .second, .val (.long (((p17 - (1 : Int64)) / t15) + (1 : Int64))), .second, .unset, .unset, .unset, .unset] []))
        refine OEnd.of (fun t k => XS.lload X136.here hx rfl (hb hby at_171) rfl k) ?_
        show OEnd p e below _ (T136.setTop (mkF m 173 #[.val (.long q0), .second, .val (.long q1), .second, .val (.long q2), .second, .val (.long q3), .second, .val (.long q4), .second, .val (.int p5), .val (.long r_110), .second, .val (.long r_114), .second, .val (.long t15), .second, .val (.long p17), .second, .val (.long g19), .second, .val (.ref b120), .val (.long r_139), .second, .val (.long (((p17 - (1 : Int64)) / t15) + (1 : Int64))), .second, .unset, .unset, .unset, .unset] [(.long (((p17 - (1 : Int64)) / t15) + (1 : Int64)))]))
        refine OEnd.of (fun t k => XS.lload X136.here hx rfl (hb hby at_173) rfl k) ?_
        show OEnd p e below _ (T136.setTop (mkF m 175 #[.val (.long q0), .second, .val (.long q1), .second, .val (.long q2), .second, .val (.long q3), .second, .val (.long q4), .second, .val (.int p5), .val (.long r_110), .second, .val (.long r_114), .second, .val (.long t15), .second, .val (.long p17), .second, .val (.long g19), .second, .val (.ref b120), .val (.long r_139), .second, .val (.long (((p17 - (1 : Int64)) / t15) + (1 : Int64))), .second, .unset, .unset, .unset, .unset] [(.long g19), (.long (((p17 - (1 : Int64)) / t15) + (1 : Int64)))]))
        refine OEnd.of (fun t k => XS.ladd X136.here hx rfl (hb hby at_175) rfl k) ?_
        show OEnd p e below _ (T136.setTop (mkF m 176 #[.val (.long q0), .second, .val (.long q1), .second, .val (.long q2), .second, .val (.long q3), .second, .val (.long q4), .second, .val (.int p5), .val (.long r_110), .second, .val (.long r_114), .second, .val (.long t15), .second, .val (.long p17), .second, .val (.long g19), .second, .val (.ref b120), .val (.long r_139), .second, .val (.long (((p17 - (1 : Int64)) / t15) + (1 : Int64))), .second, .unset, .unset, .unset, .unset] [(.long ((((p17 - (1 : Int64)) / t15) + (1 : Int64)) + g19))]))
        refine OEnd.of (fun t k => XS.lstore X136.here hx rfl (hb hby at_176) rfl (l' := #[.val (.long q0), .second, .val (.long q1), .second, .val (.long q2), .second, .val (.long q3), .second, .val (.long q4), .second, .val (.int p5), .val (.long r_110), .second, .val (.long r_114), .second, .val (.long t15), .second, .val (.long p17), .second, .val (.long g19), .second, .val (.ref b120), .val (.long r_139), .second, .val (.long (((p17 - (1 : Int64)) / t15) + (1 : Int64))), .second, .val (.long ((((p17 - (1 : Int64)) / t15) + (1 : Int64)) + g19)), .second, .unset, .unset]) rfl k) ?_
        show OEnd p e below _ (T136.setTop (mkF m 178 #[.val (.long q0), .second, .val (.long q1), .second, .val (.long q2), .second, .val (.long q3), .second, .val (.long q4), .second, .val (.int p5), .val (.long r_110), .second, .val (.long r_114), .second, .val (.long t15), .second, .val (.long p17), .second, .val (.long g19), .second, .val (.ref b120), .val (.long r_139), .second, .val (.long (((p17 - (1 : Int64)) / t15) + (1 : Int64))), .second, .val (.long ((((p17 - (1 : Int64)) / t15) + (1 : Int64)) + g19)), .second, .unset, .unset] []))
        refine OEnd.of (fun t k => XS.lload X136.here hx rfl (hb hby at_178) rfl k) ?_
        show OEnd p e below _ (T136.setTop (mkF m 180 #[.val (.long q0), .second, .val (.long q1), .second, .val (.long q2), .second, .val (.long q3), .second, .val (.long q4), .second, .val (.int p5), .val (.long r_110), .second, .val (.long r_114), .second, .val (.long t15), .second, .val (.long p17), .second, .val (.long g19), .second, .val (.ref b120), .val (.long r_139), .second, .val (.long (((p17 - (1 : Int64)) / t15) + (1 : Int64))), .second, .val (.long ((((p17 - (1 : Int64)) / t15) + (1 : Int64)) + g19)), .second, .unset, .unset] [(.long ((((p17 - (1 : Int64)) / t15) + (1 : Int64)) + g19))]))
        refine OEnd.of (fun t k => XS.lconst X136.here hx rfl (hb hby at_180) k) ?_
        show OEnd p e below _ (T136.setTop (mkF m 181 #[.val (.long q0), .second, .val (.long q1), .second, .val (.long q2), .second, .val (.long q3), .second, .val (.long q4), .second, .val (.int p5), .val (.long r_110), .second, .val (.long r_114), .second, .val (.long t15), .second, .val (.long p17), .second, .val (.long g19), .second, .val (.ref b120), .val (.long r_139), .second, .val (.long (((p17 - (1 : Int64)) / t15) + (1 : Int64))), .second, .val (.long ((((p17 - (1 : Int64)) / t15) + (1 : Int64)) + g19)), .second, .unset, .unset] [(.long (0 : Int64)), (.long ((((p17 - (1 : Int64)) / t15) + (1 : Int64)) + g19))]))
        refine OEnd.of (fun t k => XS.lcmp X136.here hx rfl (hb hby at_181) rfl k) ?_
        show OEnd p e below _ (T136.setTop (mkF m 182 #[.val (.long q0), .second, .val (.long q1), .second, .val (.long q2), .second, .val (.long q3), .second, .val (.long q4), .second, .val (.int p5), .val (.long r_110), .second, .val (.long r_114), .second, .val (.long t15), .second, .val (.long p17), .second, .val (.long g19), .second, .val (.ref b120), .val (.long r_139), .second, .val (.long (((p17 - (1 : Int64)) / t15) + (1 : Int64))), .second, .val (.long ((((p17 - (1 : Int64)) / t15) + (1 : Int64)) + g19)), .second, .unset, .unset] [(.int (lcmpW ((((p17 - (1 : Int64)) / t15) + (1 : Int64)) + g19) (0 : Int64)))]))
        generalize q_xs142 : ((((p17 - (1 : Int64)) / t15) + (1 : Int64)) + g19) = xs142
        have J143 : ∀ (T143 : State) (Lo143 : List Loc) (x193 : Int64), Stand p l e room_1 s m #[(.long q0), (.long q1), (.long q2), (.long q3), (.long q4), (.int p5)] below meth c T143 Lo143 1 6 → T143.heap = h127 → Fr Z.heap.size Lo143 → (own_nte p17 t15 g19 = x193) → OEnd p e below (GN s (Qrm0 Z q0 q1 q2 q3 q4 p5 h0) 16 128) (T143.setTop (mkF m 193 #[.val (.long q0), .second, .val (.long q1), .second, .val (.long q2), .second, .val (.long q3), .second, .val (.long q4), .second, .val (.int p5), .val (.long r_110), .second, .val (.long r_114), .second, .val (.long t15), .second, .val (.long p17), .second, .val (.long g19), .second, .val (.ref b120), .val (.long r_139), .second, .val (.long (((p17 - (1 : Int64)) / t15) + (1 : Int64))), .second, .val (.long xs142), .second, .unset, .unset] [(.long x193)])) := by
          rintro T143 Lo143 x193 X143 e143 N143 h193
          show OEnd p e below _ (T143.setTop (mkF m 193 #[.val (.long q0), .second, .val (.long q1), .second, .val (.long q2), .second, .val (.long q3), .second, .val (.long q4), .second, .val (.int p5), .val (.long r_110), .second, .val (.long r_114), .second, .val (.long t15), .second, .val (.long p17), .second, .val (.long g19), .second, .val (.ref b120), .val (.long r_139), .second, .val (.long (((p17 - (1 : Int64)) / t15) + (1 : Int64))), .second, .val (.long xs142), .second, .unset, .unset] [(.long x193)]))
          refine OEnd.of (fun t k => XS.lstore X143.here hx rfl (hb hby at_193) rfl (l' := #[.val (.long q0), .second, .val (.long q1), .second, .val (.long q2), .second, .val (.long q3), .second, .val (.long q4), .second, .val (.int p5), .val (.long r_110), .second, .val (.long r_114), .second, .val (.long t15), .second, .val (.long p17), .second, .val (.long g19), .second, .val (.ref b120), .val (.long r_139), .second, .val (.long (((p17 - (1 : Int64)) / t15) + (1 : Int64))), .second, .val (.long xs142), .second, .val (.long x193), .second]) rfl k) ?_
          show OEnd p e below _ (T143.setTop (mkF m 195 #[.val (.long q0), .second, .val (.long q1), .second, .val (.long q2), .second, .val (.long q3), .second, .val (.long q4), .second, .val (.int p5), .val (.long r_110), .second, .val (.long r_114), .second, .val (.long t15), .second, .val (.long p17), .second, .val (.long g19), .second, .val (.ref b120), .val (.long r_139), .second, .val (.long (((p17 - (1 : Int64)) / t15) + (1 : Int64))), .second, .val (.long xs142), .second, .val (.long x193), .second] []))
          refine OEnd.of (fun t k => XS.lload X143.here hx rfl (hb hby at_195) rfl k) ?_
          show OEnd p e below _ (T143.setTop (mkF m 197 #[.val (.long q0), .second, .val (.long q1), .second, .val (.long q2), .second, .val (.long q3), .second, .val (.long q4), .second, .val (.int p5), .val (.long r_110), .second, .val (.long r_114), .second, .val (.long t15), .second, .val (.long p17), .second, .val (.long g19), .second, .val (.ref b120), .val (.long r_139), .second, .val (.long (((p17 - (1 : Int64)) / t15) + (1 : Int64))), .second, .val (.long xs142), .second, .val (.long x193), .second] [(.long r_139)]))
          refine OEnd.of (fun t k => XS.lload X143.here hx rfl (hb hby at_197) rfl k) ?_
          show OEnd p e below _ (T143.setTop (mkF m 199 #[.val (.long q0), .second, .val (.long q1), .second, .val (.long q2), .second, .val (.long q3), .second, .val (.long q4), .second, .val (.int p5), .val (.long r_110), .second, .val (.long r_114), .second, .val (.long t15), .second, .val (.long p17), .second, .val (.long g19), .second, .val (.ref b120), .val (.long r_139), .second, .val (.long (((p17 - (1 : Int64)) / t15) + (1 : Int64))), .second, .val (.long xs142), .second, .val (.long x193), .second] [(.long x193), (.long r_139)]))
          refine OEnd.of (fun t k => XS.lcmp X143.here hx rfl (hb hby at_199) rfl k) ?_
          show OEnd p e below _ (T143.setTop (mkF m 200 #[.val (.long q0), .second, .val (.long q1), .second, .val (.long q2), .second, .val (.long q3), .second, .val (.long q4), .second, .val (.int p5), .val (.long r_110), .second, .val (.long r_114), .second, .val (.long t15), .second, .val (.long p17), .second, .val (.long g19), .second, .val (.ref b120), .val (.long r_139), .second, .val (.long (((p17 - (1 : Int64)) / t15) + (1 : Int64))), .second, .val (.long xs142), .second, .val (.long x193), .second] [(.int (lcmpW r_139 x193))]))
          refine OEnd.of (fun t k => XS.ifNo X143.here hx rfl (hb hby at_200) rfl ((if0 _ _).trans (teq ((lw_eq _ _).mpr (hr_140.trans h193))).2) k) ?_
          show OEnd p e below _ (T143.setTop (mkF m 203 #[.val (.long q0), .second, .val (.long q1), .second, .val (.long q2), .second, .val (.long q3), .second, .val (.long q4), .second, .val (.int p5), .val (.long r_110), .second, .val (.long r_114), .second, .val (.long t15), .second, .val (.long p17), .second, .val (.long g19), .second, .val (.ref b120), .val (.long r_139), .second, .val (.long (((p17 - (1 : Int64)) / t15) + (1 : Int64))), .second, .val (.long xs142), .second, .val (.long x193), .second] []))
          refine OEnd.of (fun t k => XS.iconst X143.here hx rfl (hb hby at_203) k) ?_
          show OEnd p e below _ (T143.setTop (mkF m 204 #[.val (.long q0), .second, .val (.long q1), .second, .val (.long q2), .second, .val (.long q3), .second, .val (.long q4), .second, .val (.int p5), .val (.long r_110), .second, .val (.long r_114), .second, .val (.long t15), .second, .val (.long p17), .second, .val (.long g19), .second, .val (.ref b120), .val (.long r_139), .second, .val (.long (((p17 - (1 : Int64)) / t15) + (1 : Int64))), .second, .val (.long xs142), .second, .val (.long x193), .second] [(.int (1 : Int32))]))
          refine OEnd.of (fun t k => XS.goto X143.here hx rfl (pc0 := 204) (pc' := 208) rfl (hb hby at_204) (by decide) (by decide) k) ?_
          show OEnd p e below _ (T143.setTop (mkF m 208 #[.val (.long q0), .second, .val (.long q1), .second, .val (.long q2), .second, .val (.long q3), .second, .val (.long q4), .second, .val (.int p5), .val (.long r_110), .second, .val (.long r_114), .second, .val (.long t15), .second, .val (.long p17), .second, .val (.long g19), .second, .val (.ref b120), .val (.long r_139), .second, .val (.long (((p17 - (1 : Int64)) / t15) + (1 : Int64))), .second, .val (.long xs142), .second, .val (.long x193), .second] [(.int (1 : Int32))]))
          have K144 : Keep h0 h127 [] := (K128.trans Kq127 (allS (Or.inr (Nat.le_of_eq g120.symm)) all0))
          exact OEnd.retN X143 hx hlk e143 (t := .boolean) hret (by simp) (hb hby at_208) ⟨rfl, N143, K144⟩ (by decide) (by decide)
        by_cases hc145 : xs142 < (0 : Int64)
        · refine OEnd.of (fun t k => XS.ifNo X136.here hx rfl (hb hby at_182) rfl ((if0 _ _).trans (tlt ((lw_lt _ _).mpr hc145)).2.1) k) ?_
          show OEnd p e below _ (T136.setTop (mkF m 185 #[.val (.long q0), .second, .val (.long q1), .second, .val (.long q2), .second, .val (.long q3), .second, .val (.long q4), .second, .val (.int p5), .val (.long r_110), .second, .val (.long r_114), .second, .val (.long t15), .second, .val (.long p17), .second, .val (.long g19), .second, .val (.ref b120), .val (.long r_139), .second, .val (.long (((p17 - (1 : Int64)) / t15) + (1 : Int64))), .second, .val (.long xs142), .second, .unset, .unset] []))
          refine OEnd.of (X136.ldc2Long hx hown (mvT hZ (hw _ (List.mem_of_getElem? (i := 0) rfl))) (g := (mkF m 185 #[.val (.long q0), .second, .val (.long q1), .second, .val (.long q2), .second, .val (.long q3), .second, .val (.long q4), .second, .val (.int p5), .val (.long r_110), .second, .val (.long r_114), .second, .val (.long t15), .second, .val (.long p17), .second, .val (.long g19), .second, .val (.ref b120), .val (.long r_139), .second, .val (.long (((p17 - (1 : Int64)) / t15) + (1 : Int64))), .second, .val (.long xs142), .second, .unset, .unset] [])) rfl (hb hby at_185)) ?_
          show OEnd p e below _ (T136.setTop (mkF m 188 #[.val (.long q0), .second, .val (.long q1), .second, .val (.long q2), .second, .val (.long q3), .second, .val (.long q4), .second, .val (.int p5), .val (.long r_110), .second, .val (.long r_114), .second, .val (.long t15), .second, .val (.long p17), .second, .val (.long g19), .second, .val (.ref b120), .val (.long r_139), .second, .val (.long (((p17 - (1 : Int64)) / t15) + (1 : Int64))), .second, .val (.long xs142), .second, .unset, .unset] [(.long (9223372036854775807 : Int64))]))
          refine OEnd.of (fun t k => XS.goto X136.here hx rfl (pc0 := 188) (pc' := 193) rfl (hb hby at_188) (by decide) (by decide) k) ?_
          show OEnd p e below _ (T136.setTop (mkF m 193 #[.val (.long q0), .second, .val (.long q1), .second, .val (.long q2), .second, .val (.long q3), .second, .val (.long q4), .second, .val (.int p5), .val (.long r_110), .second, .val (.long r_114), .second, .val (.long t15), .second, .val (.long p17), .second, .val (.long g19), .second, .val (.ref b120), .val (.long r_139), .second, .val (.long (((p17 - (1 : Int64)) / t15) + (1 : Int64))), .second, .val (.long xs142), .second, .unset, .unset] [(.long (9223372036854775807 : Int64))]))
          exact J143 T136 _ (9223372036854775807 : Int64) X136 e136 N141 (own_m1a ht15 hp17 hg19 q_xs142 hc145)
        · refine OEnd.of (fun t k => XS.ifYes X136.here hx rfl (pc0 := 182) (pc' := 191) rfl (hb hby at_182) rfl ((if0 _ _).trans (flt (fun z => hc145 ((lw_lt _ _).mp z))).2.1) (by decide) (by decide) k) ?_
          show OEnd p e below _ (T136.setTop (mkF m 191 #[.val (.long q0), .second, .val (.long q1), .second, .val (.long q2), .second, .val (.long q3), .second, .val (.long q4), .second, .val (.int p5), .val (.long r_110), .second, .val (.long r_114), .second, .val (.long t15), .second, .val (.long p17), .second, .val (.long g19), .second, .val (.ref b120), .val (.long r_139), .second, .val (.long (((p17 - (1 : Int64)) / t15) + (1 : Int64))), .second, .val (.long xs142), .second, .unset, .unset] []))
          refine OEnd.of (fun t k => XS.lload X136.here hx rfl (hb hby at_191) rfl k) ?_
          show OEnd p e below _ (T136.setTop (mkF m 193 #[.val (.long q0), .second, .val (.long q1), .second, .val (.long q2), .second, .val (.long q3), .second, .val (.long q4), .second, .val (.int p5), .val (.long r_110), .second, .val (.long r_114), .second, .val (.long t15), .second, .val (.long p17), .second, .val (.long g19), .second, .val (.ref b120), .val (.long r_139), .second, .val (.long (((p17 - (1 : Int64)) / t15) + (1 : Int64))), .second, .val (.long xs142), .second, .unset, .unset] [(.long xs142)]))
          exact J143 T136 _ xs142 X136 e136 N141 (own_m1b ht15 hp17 hg19 q_xs142 hc145)
      by_cases hc146 : (p5 &&& (4 : Int32)) = (0 : Int32)
      · refine OEnd.of (fun t k => XS.ifYes X118.here hx rfl (pc0 := 89) (pc' := 107) rfl (hb hby at_89) rfl ((if0 _ _).trans (teq hc146).1) (by decide) (by decide) k) ?_
        show OEnd p e below _ (T118.setTop (mkF m 107 #[.val (.long q0), .second, .val (.long q1), .second, .val (.long q2), .second, .val (.long q3), .second, .val (.long q4), .second, .val (.int p5), .val (.long r_110), .second, .val (.long r_114), .second, .val (.long t15), .second, .val (.long p17), .second, .unset, .unset, .unset, .unset, .unset, .unset, .unset, .unset, .unset, .unset, .unset] []))
        refine OEnd.of (fun t k => XS.iload X118.here hx rfl (hb hby at_107) rfl k) ?_
        show OEnd p e below _ (T118.setTop (mkF m 109 #[.val (.long q0), .second, .val (.long q1), .second, .val (.long q2), .second, .val (.long q3), .second, .val (.long q4), .second, .val (.int p5), .val (.long r_110), .second, .val (.long r_114), .second, .val (.long t15), .second, .val (.long p17), .second, .unset, .unset, .unset, .unset, .unset, .unset, .unset, .unset, .unset, .unset, .unset] [(.int p5)]))
        refine OEnd.of (fun t k => XS.bipush X118.here hx rfl (hb hby at_109) k) ?_
        show OEnd p e below _ (T118.setTop (mkF m 111 #[.val (.long q0), .second, .val (.long q1), .second, .val (.long q2), .second, .val (.long q3), .second, .val (.long q4), .second, .val (.int p5), .val (.long r_110), .second, .val (.long r_114), .second, .val (.long t15), .second, .val (.long p17), .second, .unset, .unset, .unset, .unset, .unset, .unset, .unset, .unset, .unset, .unset, .unset] [(.int (8 : Int32)), (.int p5)]))
        refine OEnd.of (fun t k => XS.iand X118.here hx rfl (hb hby at_111) rfl k) ?_
        show OEnd p e below _ (T118.setTop (mkF m 112 #[.val (.long q0), .second, .val (.long q1), .second, .val (.long q2), .second, .val (.long q3), .second, .val (.long q4), .second, .val (.int p5), .val (.long r_110), .second, .val (.long r_114), .second, .val (.long t15), .second, .val (.long p17), .second, .unset, .unset, .unset, .unset, .unset, .unset, .unset, .unset, .unset, .unset, .unset] [(.int (p5 &&& (8 : Int32)))]))
        by_cases hc147 : (p5 &&& (8 : Int32)) = (0 : Int32)
        · refine OEnd.of (fun t k => XS.ifYes X118.here hx rfl (pc0 := 112) (pc' := 126) rfl (hb hby at_112) rfl ((if0 _ _).trans (teq hc147).1) (by decide) (by decide) k) ?_
          show OEnd p e below _ (T118.setTop (mkF m 126 #[.val (.long q0), .second, .val (.long q1), .second, .val (.long q2), .second, .val (.long q3), .second, .val (.long q4), .second, .val (.int p5), .val (.long r_110), .second, .val (.long r_114), .second, .val (.long t15), .second, .val (.long p17), .second, .unset, .unset, .unset, .unset, .unset, .unset, .unset, .unset, .unset, .unset, .unset] []))
          refine OEnd.of (fun t k => XS.lload X118.here hx rfl (hb hby at_126) rfl k) ?_
          show OEnd p e below _ (T118.setTop (mkF m 128 #[.val (.long q0), .second, .val (.long q1), .second, .val (.long q2), .second, .val (.long q3), .second, .val (.long q4), .second, .val (.int p5), .val (.long r_110), .second, .val (.long r_114), .second, .val (.long t15), .second, .val (.long p17), .second, .unset, .unset, .unset, .unset, .unset, .unset, .unset, .unset, .unset, .unset, .unset] [(.long q4)]))
          refine OEnd.of (X118.ldc2Long hx hown (mvT hZ (hw _ (List.mem_of_getElem? (i := 0) rfl))) (g := (mkF m 128 #[.val (.long q0), .second, .val (.long q1), .second, .val (.long q2), .second, .val (.long q3), .second, .val (.long q4), .second, .val (.int p5), .val (.long r_110), .second, .val (.long r_114), .second, .val (.long t15), .second, .val (.long p17), .second, .unset, .unset, .unset, .unset, .unset, .unset, .unset, .unset, .unset, .unset, .unset] [(.long q4)])) rfl (hb hby at_128)) ?_
          show OEnd p e below _ (T118.setTop (mkF m 131 #[.val (.long q0), .second, .val (.long q1), .second, .val (.long q2), .second, .val (.long q3), .second, .val (.long q4), .second, .val (.int p5), .val (.long r_110), .second, .val (.long r_114), .second, .val (.long t15), .second, .val (.long p17), .second, .unset, .unset, .unset, .unset, .unset, .unset, .unset, .unset, .unset, .unset, .unset] [(.long (9223372036854775807 : Int64)), (.long q4)]))
          refine OEnd.of (fun t k => XS.land X118.here hx rfl (hb hby at_131) rfl k) ?_
          show OEnd p e below _ (T118.setTop (mkF m 132 #[.val (.long q0), .second, .val (.long q1), .second, .val (.long q2), .second, .val (.long q3), .second, .val (.long q4), .second, .val (.int p5), .val (.long r_110), .second, .val (.long r_114), .second, .val (.long t15), .second, .val (.long p17), .second, .unset, .unset, .unset, .unset, .unset, .unset, .unset, .unset, .unset, .unset, .unset] [(.long (q4 &&& (9223372036854775807 : Int64)))]))
          refine OEnd.of (fun t k => XS.lstore X118.here hx rfl (hb hby at_132) rfl (l' := #[.val (.long q0), .second, .val (.long q1), .second, .val (.long q2), .second, .val (.long q3), .second, .val (.long q4), .second, .val (.int p5), .val (.long r_110), .second, .val (.long r_114), .second, .val (.long t15), .second, .val (.long p17), .second, .val (.long (q4 &&& (9223372036854775807 : Int64))), .second, .unset, .unset, .unset, .unset, .unset, .unset, .unset, .unset, .unset]) rfl k) ?_
          show OEnd p e below _ (T118.setTop (mkF m 134 #[.val (.long q0), .second, .val (.long q1), .second, .val (.long q2), .second, .val (.long q3), .second, .val (.long q4), .second, .val (.int p5), .val (.long r_110), .second, .val (.long r_114), .second, .val (.long t15), .second, .val (.long p17), .second, .val (.long (q4 &&& (9223372036854775807 : Int64))), .second, .unset, .unset, .unset, .unset, .unset, .unset, .unset, .unset, .unset] []))
          exact J119 T118 _ (q4 &&& (9223372036854775807 : Int64)) X118 e118 N118 (own_m1g _)
        · refine OEnd.of (fun t k => XS.ifNo X118.here hx rfl (hb hby at_112) rfl ((if0 _ _).trans (feq hc147).1) k) ?_
          show OEnd p e below _ (T118.setTop (mkF m 115 #[.val (.long q0), .second, .val (.long q1), .second, .val (.long q2), .second, .val (.long q3), .second, .val (.long q4), .second, .val (.int p5), .val (.long r_110), .second, .val (.long r_114), .second, .val (.long t15), .second, .val (.long p17), .second, .unset, .unset, .unset, .unset, .unset, .unset, .unset, .unset, .unset, .unset, .unset] []))
          refine OEnd.of (fun t k => XS.lload X118.here hx rfl (hb hby at_115) rfl k) ?_
          show OEnd p e below _ (T118.setTop (mkF m 117 #[.val (.long q0), .second, .val (.long q1), .second, .val (.long q2), .second, .val (.long q3), .second, .val (.long q4), .second, .val (.int p5), .val (.long r_110), .second, .val (.long r_114), .second, .val (.long t15), .second, .val (.long p17), .second, .unset, .unset, .unset, .unset, .unset, .unset, .unset, .unset, .unset, .unset, .unset] [(.long q4)]))
          refine OEnd.of (X118.ldc2Long hx hown (mvT hZ (hw _ (List.mem_of_getElem? (i := 5) rfl))) (g := (mkF m 117 #[.val (.long q0), .second, .val (.long q1), .second, .val (.long q2), .second, .val (.long q3), .second, .val (.long q4), .second, .val (.int p5), .val (.long r_110), .second, .val (.long r_114), .second, .val (.long t15), .second, .val (.long p17), .second, .unset, .unset, .unset, .unset, .unset, .unset, .unset, .unset, .unset, .unset, .unset] [(.long q4)])) rfl (hb hby at_117)) ?_
          show OEnd p e below _ (T118.setTop (mkF m 120 #[.val (.long q0), .second, .val (.long q1), .second, .val (.long q2), .second, .val (.long q3), .second, .val (.long q4), .second, .val (.int p5), .val (.long r_110), .second, .val (.long r_114), .second, .val (.long t15), .second, .val (.long p17), .second, .unset, .unset, .unset, .unset, .unset, .unset, .unset, .unset, .unset, .unset, .unset] [(.long (63 : Int64)), (.long q4)]))
          refine OEnd.of (fun t k => XS.land X118.here hx rfl (hb hby at_120) rfl k) ?_
          show OEnd p e below _ (T118.setTop (mkF m 121 #[.val (.long q0), .second, .val (.long q1), .second, .val (.long q2), .second, .val (.long q3), .second, .val (.long q4), .second, .val (.int p5), .val (.long r_110), .second, .val (.long r_114), .second, .val (.long t15), .second, .val (.long p17), .second, .unset, .unset, .unset, .unset, .unset, .unset, .unset, .unset, .unset, .unset, .unset] [(.long (q4 &&& (63 : Int64)))]))
          refine OEnd.of (fun t k => XS.lstore X118.here hx rfl (hb hby at_121) rfl (l' := #[.val (.long q0), .second, .val (.long q1), .second, .val (.long q2), .second, .val (.long q3), .second, .val (.long q4), .second, .val (.int p5), .val (.long r_110), .second, .val (.long r_114), .second, .val (.long t15), .second, .val (.long p17), .second, .val (.long (q4 &&& (63 : Int64))), .second, .unset, .unset, .unset, .unset, .unset, .unset, .unset, .unset, .unset]) rfl k) ?_
          show OEnd p e below _ (T118.setTop (mkF m 123 #[.val (.long q0), .second, .val (.long q1), .second, .val (.long q2), .second, .val (.long q3), .second, .val (.long q4), .second, .val (.int p5), .val (.long r_110), .second, .val (.long r_114), .second, .val (.long t15), .second, .val (.long p17), .second, .val (.long (q4 &&& (63 : Int64))), .second, .unset, .unset, .unset, .unset, .unset, .unset, .unset, .unset, .unset] []))
          refine OEnd.of (fun t k => XS.goto X118.here hx rfl (pc0 := 123) (pc' := 134) rfl (hb hby at_123) (by decide) (by decide) k) ?_
          show OEnd p e below _ (T118.setTop (mkF m 134 #[.val (.long q0), .second, .val (.long q1), .second, .val (.long q2), .second, .val (.long q3), .second, .val (.long q4), .second, .val (.int p5), .val (.long r_110), .second, .val (.long r_114), .second, .val (.long t15), .second, .val (.long p17), .second, .val (.long (q4 &&& (63 : Int64))), .second, .unset, .unset, .unset, .unset, .unset, .unset, .unset, .unset, .unset] []))
          exact J119 T118 _ (q4 &&& (63 : Int64)) X118 e118 N118 (own_m1g2 _)
      · refine OEnd.of (fun t k => XS.ifNo X118.here hx rfl (hb hby at_89) rfl ((if0 _ _).trans (feq hc146).1) k) ?_
        show OEnd p e below _ (T118.setTop (mkF m 92 #[.val (.long q0), .second, .val (.long q1), .second, .val (.long q2), .second, .val (.long q3), .second, .val (.long q4), .second, .val (.int p5), .val (.long r_110), .second, .val (.long r_114), .second, .val (.long t15), .second, .val (.long p17), .second, .unset, .unset, .unset, .unset, .unset, .unset, .unset, .unset, .unset, .unset, .unset] []))
        refine OEnd.of (X118.ldc2Long hx hown (mvT hZ (hw _ (List.mem_of_getElem? (i := 0) rfl))) (g := (mkF m 92 #[.val (.long q0), .second, .val (.long q1), .second, .val (.long q2), .second, .val (.long q3), .second, .val (.long q4), .second, .val (.int p5), .val (.long r_110), .second, .val (.long r_114), .second, .val (.long t15), .second, .val (.long p17), .second, .unset, .unset, .unset, .unset, .unset, .unset, .unset, .unset, .unset, .unset, .unset] [])) rfl (hb hby at_92)) ?_
        show OEnd p e below _ (T118.setTop (mkF m 95 #[.val (.long q0), .second, .val (.long q1), .second, .val (.long q2), .second, .val (.long q3), .second, .val (.long q4), .second, .val (.int p5), .val (.long r_110), .second, .val (.long r_114), .second, .val (.long t15), .second, .val (.long p17), .second, .unset, .unset, .unset, .unset, .unset, .unset, .unset, .unset, .unset, .unset, .unset] [(.long (9223372036854775807 : Int64))]))
        refine OEnd.of (fun t k => XS.lload X118.here hx rfl (hb hby at_95) rfl k) ?_
        show OEnd p e below _ (T118.setTop (mkF m 97 #[.val (.long q0), .second, .val (.long q1), .second, .val (.long q2), .second, .val (.long q3), .second, .val (.long q4), .second, .val (.int p5), .val (.long r_110), .second, .val (.long r_114), .second, .val (.long t15), .second, .val (.long p17), .second, .unset, .unset, .unset, .unset, .unset, .unset, .unset, .unset, .unset, .unset, .unset] [(.long q4), (.long (9223372036854775807 : Int64))]))
        refine OEnd.of (X118.ldc2Long hx hown (mvT hZ (hw _ (List.mem_of_getElem? (i := 5) rfl))) (g := (mkF m 97 #[.val (.long q0), .second, .val (.long q1), .second, .val (.long q2), .second, .val (.long q3), .second, .val (.long q4), .second, .val (.int p5), .val (.long r_110), .second, .val (.long r_114), .second, .val (.long t15), .second, .val (.long p17), .second, .unset, .unset, .unset, .unset, .unset, .unset, .unset, .unset, .unset, .unset, .unset] [(.long q4), (.long (9223372036854775807 : Int64))])) rfl (hb hby at_97)) ?_
        show OEnd p e below _ (T118.setTop (mkF m 100 #[.val (.long q0), .second, .val (.long q1), .second, .val (.long q2), .second, .val (.long q3), .second, .val (.long q4), .second, .val (.int p5), .val (.long r_110), .second, .val (.long r_114), .second, .val (.long t15), .second, .val (.long p17), .second, .unset, .unset, .unset, .unset, .unset, .unset, .unset, .unset, .unset, .unset, .unset] [(.long (63 : Int64)), (.long q4), (.long (9223372036854775807 : Int64))]))
        refine OEnd.of (fun t k => XS.land X118.here hx rfl (hb hby at_100) rfl k) ?_
        show OEnd p e below _ (T118.setTop (mkF m 101 #[.val (.long q0), .second, .val (.long q1), .second, .val (.long q2), .second, .val (.long q3), .second, .val (.long q4), .second, .val (.int p5), .val (.long r_110), .second, .val (.long r_114), .second, .val (.long t15), .second, .val (.long p17), .second, .unset, .unset, .unset, .unset, .unset, .unset, .unset, .unset, .unset, .unset, .unset] [(.long (q4 &&& (63 : Int64))), (.long (9223372036854775807 : Int64))]))
        refine OEnd.of (fun t k => XS.lsub X118.here hx rfl (hb hby at_101) rfl k) ?_
        show OEnd p e below _ (T118.setTop (mkF m 102 #[.val (.long q0), .second, .val (.long q1), .second, .val (.long q2), .second, .val (.long q3), .second, .val (.long q4), .second, .val (.int p5), .val (.long r_110), .second, .val (.long r_114), .second, .val (.long t15), .second, .val (.long p17), .second, .unset, .unset, .unset, .unset, .unset, .unset, .unset, .unset, .unset, .unset, .unset] [(.long ((9223372036854775807 : Int64) - (q4 &&& (63 : Int64))))]))
        refine OEnd.of (fun t k => XS.lstore X118.here hx rfl (hb hby at_102) rfl (l' := #[.val (.long q0), .second, .val (.long q1), .second, .val (.long q2), .second, .val (.long q3), .second, .val (.long q4), .second, .val (.int p5), .val (.long r_110), .second, .val (.long r_114), .second, .val (.long t15), .second, .val (.long p17), .second, .val (.long ((9223372036854775807 : Int64) - (q4 &&& (63 : Int64)))), .second, .unset, .unset, .unset, .unset, .unset, .unset, .unset, .unset, .unset]) rfl k) ?_
        show OEnd p e below _ (T118.setTop (mkF m 104 #[.val (.long q0), .second, .val (.long q1), .second, .val (.long q2), .second, .val (.long q3), .second, .val (.long q4), .second, .val (.int p5), .val (.long r_110), .second, .val (.long r_114), .second, .val (.long t15), .second, .val (.long p17), .second, .val (.long ((9223372036854775807 : Int64) - (q4 &&& (63 : Int64)))), .second, .unset, .unset, .unset, .unset, .unset, .unset, .unset, .unset, .unset] []))
        refine OEnd.of (fun t k => XS.goto X118.here hx rfl (pc0 := 104) (pc' := 134) rfl (hb hby at_104) (by decide) (by decide) k) ?_
        show OEnd p e below _ (T118.setTop (mkF m 134 #[.val (.long q0), .second, .val (.long q1), .second, .val (.long q2), .second, .val (.long q3), .second, .val (.long q4), .second, .val (.int p5), .val (.long r_110), .second, .val (.long r_114), .second, .val (.long t15), .second, .val (.long p17), .second, .val (.long ((9223372036854775807 : Int64) - (q4 &&& (63 : Int64)))), .second, .unset, .unset, .unset, .unset, .unset, .unset, .unset, .unset, .unset] []))
        exact J119 T118 _ ((9223372036854775807 : Int64) - (q4 &&& (63 : Int64))) X118 e118 N118 (own_m1g3 _)
    by_cases hc148 : (p5 &&& (2 : Int32)) = (0 : Int32)
    · refine OEnd.of (fun t k => XS.ifYes X117.here hx rfl (pc0 := 57) (pc' := 73) rfl (hb hby at_57) rfl ((if0 _ _).trans (teq hc148).1) (by decide) (by decide) k) ?_
      show OEnd p e below _ (T117.setTop (mkF m 73 #[.val (.long q0), .second, .val (.long q1), .second, .val (.long q2), .second, .val (.long q3), .second, .val (.long q4), .second, .val (.int p5), .val (.long r_110), .second, .val (.long r_114), .second, .val (.long t15), .second, .unset, .unset, .unset, .unset, .unset, .unset, .unset, .unset, .unset, .unset, .unset, .unset, .unset] []))
      refine OEnd.of (fun t k => XS.lconst X117.here hx rfl (hb hby at_73) k) ?_
      show OEnd p e below _ (T117.setTop (mkF m 74 #[.val (.long q0), .second, .val (.long q1), .second, .val (.long q2), .second, .val (.long q3), .second, .val (.long q4), .second, .val (.int p5), .val (.long r_110), .second, .val (.long r_114), .second, .val (.long t15), .second, .unset, .unset, .unset, .unset, .unset, .unset, .unset, .unset, .unset, .unset, .unset, .unset, .unset] [(.long (1 : Int64))]))
      refine OEnd.of (fun t k => XS.lload X117.here hx rfl (hb hby at_74) rfl k) ?_
      show OEnd p e below _ (T117.setTop (mkF m 76 #[.val (.long q0), .second, .val (.long q1), .second, .val (.long q2), .second, .val (.long q3), .second, .val (.long q4), .second, .val (.int p5), .val (.long r_110), .second, .val (.long r_114), .second, .val (.long t15), .second, .unset, .unset, .unset, .unset, .unset, .unset, .unset, .unset, .unset, .unset, .unset, .unset, .unset] [(.long q3), (.long (1 : Int64))]))
      refine OEnd.of (X117.ldc2Long hx hown (mvT hZ (hw _ (List.mem_of_getElem? (i := 0) rfl))) (g := (mkF m 76 #[.val (.long q0), .second, .val (.long q1), .second, .val (.long q2), .second, .val (.long q3), .second, .val (.long q4), .second, .val (.int p5), .val (.long r_110), .second, .val (.long r_114), .second, .val (.long t15), .second, .unset, .unset, .unset, .unset, .unset, .unset, .unset, .unset, .unset, .unset, .unset, .unset, .unset] [(.long q3), (.long (1 : Int64))])) rfl (hb hby at_76)) ?_
      show OEnd p e below _ (T117.setTop (mkF m 79 #[.val (.long q0), .second, .val (.long q1), .second, .val (.long q2), .second, .val (.long q3), .second, .val (.long q4), .second, .val (.int p5), .val (.long r_110), .second, .val (.long r_114), .second, .val (.long t15), .second, .unset, .unset, .unset, .unset, .unset, .unset, .unset, .unset, .unset, .unset, .unset, .unset, .unset] [(.long (9223372036854775807 : Int64)), (.long q3), (.long (1 : Int64))]))
      refine OEnd.of (fun t k => XS.land X117.here hx rfl (hb hby at_79) rfl k) ?_
      show OEnd p e below _ (T117.setTop (mkF m 80 #[.val (.long q0), .second, .val (.long q1), .second, .val (.long q2), .second, .val (.long q3), .second, .val (.long q4), .second, .val (.int p5), .val (.long r_110), .second, .val (.long r_114), .second, .val (.long t15), .second, .unset, .unset, .unset, .unset, .unset, .unset, .unset, .unset, .unset, .unset, .unset, .unset, .unset] [(.long (q3 &&& (9223372036854775807 : Int64))), (.long (1 : Int64))]))
      obtain ⟨_, _, ⟨T149, L149, k149, n149⟩, -, X149, ⟨Lc149, hQ149, l149, y149, z149⟩, st149⟩ := Jvm.LawKit.callS X117 hx (y := (⟨"java/lang/Math", "max", "(JJ)J"⟩ : MethodName)) hown (mvT hZ (hw _ (List.mem_of_getElem? (i := 1) rfl))) (mvT hZ (hw _ (List.mem_of_getElem? (i := 2) rfl))) (mvT hZ (hw _ (List.mem_of_getElem? (i := 3) rfl))) (mvT hZ (hw _ (List.mem_of_getElem? (i := 4) rfl))) (by decide) (backOf (W := 0) (rm1 l Z a0 hw  [] (1 : Int64) (q3 &&& (9223372036854775807 : Int64)) h0 O0 ) hZ (hw _ (List.mem_of_getElem? (i := 4) rfl)) (hw _ (List.mem_of_getElem? (i := 3) rfl)) (by decide) (by decide)) (g := (mkF m 80 #[.val (.long q0), .second, .val (.long q1), .second, .val (.long q2), .second, .val (.long q3), .second, .val (.long q4), .second, .val (.int p5), .val (.long r_110), .second, .val (.long r_114), .second, .val (.long t15), .second, .unset, .unset, .unset, .unset, .unset, .unset, .unset, .unset, .unset, .unset, .unset, .unset, .unset] [(.long (q3 &&& (9223372036854775807 : Int64))), (.long (1 : Int64))])) rfl (by rw [hml]; rfl) (argsL := [(.long (1 : Int64)), (.long (q3 &&& (9223372036854775807 : Int64)))]) (rest := []) (lenOf pd_28JJ29J rfl) rfl (by show 2 * 0 + _ ≤ _; exact Nat.le_of_eq rfl) (hb hby at_80) (fun _ _ => ⟨rfl, e117, (by decide : 0 + 0 ≤ _), (by decide : 0 + 0 ≤ _)⟩)
      dsimp only [Pt.U, Pt.locs, Pt.cells, Pt.slots] at X149 l149 y149 z149 st149 hQ149
      subst l149 y149 z149
      obtain ⟨r_150, rfl, Nq149, e149, hr_151⟩ := hQ149
      have N152 := Fr.app N117 Nq149
      refine OEnd.of st149 ?_
      show OEnd p e below _ (T149.setTop (mkF m 83 #[.val (.long q0), .second, .val (.long q1), .second, .val (.long q2), .second, .val (.long q3), .second, .val (.long q4), .second, .val (.int p5), .val (.long r_110), .second, .val (.long r_114), .second, .val (.long t15), .second, .unset, .unset, .unset, .unset, .unset, .unset, .unset, .unset, .unset, .unset, .unset, .unset, .unset] [(.long r_150)]))
      refine OEnd.of (fun t k => XS.lstore X149.here hx rfl (hb hby at_83) rfl (l' := #[.val (.long q0), .second, .val (.long q1), .second, .val (.long q2), .second, .val (.long q3), .second, .val (.long q4), .second, .val (.int p5), .val (.long r_110), .second, .val (.long r_114), .second, .val (.long t15), .second, .val (.long r_150), .second, .unset, .unset, .unset, .unset, .unset, .unset, .unset, .unset, .unset, .unset, .unset]) rfl k) ?_
      show OEnd p e below _ (T149.setTop (mkF m 85 #[.val (.long q0), .second, .val (.long q1), .second, .val (.long q2), .second, .val (.long q3), .second, .val (.long q4), .second, .val (.int p5), .val (.long r_110), .second, .val (.long r_114), .second, .val (.long t15), .second, .val (.long r_150), .second, .unset, .unset, .unset, .unset, .unset, .unset, .unset, .unset, .unset, .unset, .unset] []))
      exact J118 T149 _ r_150 X149 e149 N152 (own_m1max hr_151)
    · refine OEnd.of (fun t k => XS.ifNo X117.here hx rfl (hb hby at_57) rfl ((if0 _ _).trans (feq hc148).1) k) ?_
      show OEnd p e below _ (T117.setTop (mkF m 60 #[.val (.long q0), .second, .val (.long q1), .second, .val (.long q2), .second, .val (.long q3), .second, .val (.long q4), .second, .val (.int p5), .val (.long r_110), .second, .val (.long r_114), .second, .val (.long t15), .second, .unset, .unset, .unset, .unset, .unset, .unset, .unset, .unset, .unset, .unset, .unset, .unset, .unset] []))
      refine OEnd.of (fun t k => XS.lload X117.here hx rfl (hb hby at_60) rfl k) ?_
      show OEnd p e below _ (T117.setTop (mkF m 62 #[.val (.long q0), .second, .val (.long q1), .second, .val (.long q2), .second, .val (.long q3), .second, .val (.long q4), .second, .val (.int p5), .val (.long r_110), .second, .val (.long r_114), .second, .val (.long t15), .second, .unset, .unset, .unset, .unset, .unset, .unset, .unset, .unset, .unset, .unset, .unset, .unset, .unset] [(.long q3)]))
      refine OEnd.of (X117.ldc2Long hx hown (mvT hZ (hw _ (List.mem_of_getElem? (i := 5) rfl))) (g := (mkF m 62 #[.val (.long q0), .second, .val (.long q1), .second, .val (.long q2), .second, .val (.long q3), .second, .val (.long q4), .second, .val (.int p5), .val (.long r_110), .second, .val (.long r_114), .second, .val (.long t15), .second, .unset, .unset, .unset, .unset, .unset, .unset, .unset, .unset, .unset, .unset, .unset, .unset, .unset] [(.long q3)])) rfl (hb hby at_62)) ?_
      show OEnd p e below _ (T117.setTop (mkF m 65 #[.val (.long q0), .second, .val (.long q1), .second, .val (.long q2), .second, .val (.long q3), .second, .val (.long q4), .second, .val (.int p5), .val (.long r_110), .second, .val (.long r_114), .second, .val (.long t15), .second, .unset, .unset, .unset, .unset, .unset, .unset, .unset, .unset, .unset, .unset, .unset, .unset, .unset] [(.long (63 : Int64)), (.long q3)]))
      refine OEnd.of (fun t k => XS.land X117.here hx rfl (hb hby at_65) rfl k) ?_
      show OEnd p e below _ (T117.setTop (mkF m 66 #[.val (.long q0), .second, .val (.long q1), .second, .val (.long q2), .second, .val (.long q3), .second, .val (.long q4), .second, .val (.int p5), .val (.long r_110), .second, .val (.long r_114), .second, .val (.long t15), .second, .unset, .unset, .unset, .unset, .unset, .unset, .unset, .unset, .unset, .unset, .unset, .unset, .unset] [(.long (q3 &&& (63 : Int64)))]))
      refine OEnd.of (fun t k => XS.lconst X117.here hx rfl (hb hby at_66) k) ?_
      show OEnd p e below _ (T117.setTop (mkF m 67 #[.val (.long q0), .second, .val (.long q1), .second, .val (.long q2), .second, .val (.long q3), .second, .val (.long q4), .second, .val (.int p5), .val (.long r_110), .second, .val (.long r_114), .second, .val (.long t15), .second, .unset, .unset, .unset, .unset, .unset, .unset, .unset, .unset, .unset, .unset, .unset, .unset, .unset] [(.long (1 : Int64)), (.long (q3 &&& (63 : Int64)))]))
      refine OEnd.of (fun t k => XS.ladd X117.here hx rfl (hb hby at_67) rfl k) ?_
      show OEnd p e below _ (T117.setTop (mkF m 68 #[.val (.long q0), .second, .val (.long q1), .second, .val (.long q2), .second, .val (.long q3), .second, .val (.long q4), .second, .val (.int p5), .val (.long r_110), .second, .val (.long r_114), .second, .val (.long t15), .second, .unset, .unset, .unset, .unset, .unset, .unset, .unset, .unset, .unset, .unset, .unset, .unset, .unset] [(.long ((q3 &&& (63 : Int64)) + (1 : Int64)))]))
      refine OEnd.of (fun t k => XS.lstore X117.here hx rfl (hb hby at_68) rfl (l' := #[.val (.long q0), .second, .val (.long q1), .second, .val (.long q2), .second, .val (.long q3), .second, .val (.long q4), .second, .val (.int p5), .val (.long r_110), .second, .val (.long r_114), .second, .val (.long t15), .second, .val (.long ((q3 &&& (63 : Int64)) + (1 : Int64))), .second, .unset, .unset, .unset, .unset, .unset, .unset, .unset, .unset, .unset, .unset, .unset]) rfl k) ?_
      show OEnd p e below _ (T117.setTop (mkF m 70 #[.val (.long q0), .second, .val (.long q1), .second, .val (.long q2), .second, .val (.long q3), .second, .val (.long q4), .second, .val (.int p5), .val (.long r_110), .second, .val (.long r_114), .second, .val (.long t15), .second, .val (.long ((q3 &&& (63 : Int64)) + (1 : Int64))), .second, .unset, .unset, .unset, .unset, .unset, .unset, .unset, .unset, .unset, .unset, .unset] []))
      refine OEnd.of (fun t k => XS.goto X117.here hx rfl (pc0 := 70) (pc' := 85) rfl (hb hby at_70) (by decide) (by decide) k) ?_
      show OEnd p e below _ (T117.setTop (mkF m 85 #[.val (.long q0), .second, .val (.long q1), .second, .val (.long q2), .second, .val (.long q3), .second, .val (.long q4), .second, .val (.int p5), .val (.long r_110), .second, .val (.long r_114), .second, .val (.long t15), .second, .val (.long ((q3 &&& (63 : Int64)) + (1 : Int64))), .second, .unset, .unset, .unset, .unset, .unset, .unset, .unset, .unset, .unset, .unset, .unset] []))
      exact J118 T117 _ ((q3 &&& (63 : Int64)) + (1 : Int64)) X117 e117 N117 (own_m1p _)
  by_cases hc153 : (p5 &&& (1 : Int32)) = (0 : Int32)
  · refine OEnd.of (fun t k => XS.ifYes X113.here hx rfl (pc0 := 27) (pc' := 42) rfl (hb hby at_27) rfl ((if0 _ _).trans (teq hc153).1) (by decide) (by decide) k) ?_
    show OEnd p e below _ (T113.setTop (mkF m 42 #[.val (.long q0), .second, .val (.long q1), .second, .val (.long q2), .second, .val (.long q3), .second, .val (.long q4), .second, .val (.int p5), .val (.long r_110), .second, .val (.long r_114), .second, .unset, .unset, .unset, .unset, .unset, .unset, .unset, .unset, .unset, .unset, .unset, .unset, .unset, .unset, .unset] []))
    refine OEnd.of (fun t k => XS.lconst X113.here hx rfl (hb hby at_42) k) ?_
    show OEnd p e below _ (T113.setTop (mkF m 43 #[.val (.long q0), .second, .val (.long q1), .second, .val (.long q2), .second, .val (.long q3), .second, .val (.long q4), .second, .val (.int p5), .val (.long r_110), .second, .val (.long r_114), .second, .unset, .unset, .unset, .unset, .unset, .unset, .unset, .unset, .unset, .unset, .unset, .unset, .unset, .unset, .unset] [(.long (1 : Int64))]))
    refine OEnd.of (fun t k => XS.lloadN X113.here hx rfl (hb hby at_43) rfl k) ?_
    show OEnd p e below _ (T113.setTop (mkF m 44 #[.val (.long q0), .second, .val (.long q1), .second, .val (.long q2), .second, .val (.long q3), .second, .val (.long q4), .second, .val (.int p5), .val (.long r_110), .second, .val (.long r_114), .second, .unset, .unset, .unset, .unset, .unset, .unset, .unset, .unset, .unset, .unset, .unset, .unset, .unset, .unset, .unset] [(.long q1), (.long (1 : Int64))]))
    refine OEnd.of (X113.ldc2Long hx hown (mvT hZ (hw _ (List.mem_of_getElem? (i := 0) rfl))) (g := (mkF m 44 #[.val (.long q0), .second, .val (.long q1), .second, .val (.long q2), .second, .val (.long q3), .second, .val (.long q4), .second, .val (.int p5), .val (.long r_110), .second, .val (.long r_114), .second, .unset, .unset, .unset, .unset, .unset, .unset, .unset, .unset, .unset, .unset, .unset, .unset, .unset, .unset, .unset] [(.long q1), (.long (1 : Int64))])) rfl (hb hby at_44)) ?_
    show OEnd p e below _ (T113.setTop (mkF m 47 #[.val (.long q0), .second, .val (.long q1), .second, .val (.long q2), .second, .val (.long q3), .second, .val (.long q4), .second, .val (.int p5), .val (.long r_110), .second, .val (.long r_114), .second, .unset, .unset, .unset, .unset, .unset, .unset, .unset, .unset, .unset, .unset, .unset, .unset, .unset, .unset, .unset] [(.long (9223372036854775807 : Int64)), (.long q1), (.long (1 : Int64))]))
    refine OEnd.of (fun t k => XS.land X113.here hx rfl (hb hby at_47) rfl k) ?_
    show OEnd p e below _ (T113.setTop (mkF m 48 #[.val (.long q0), .second, .val (.long q1), .second, .val (.long q2), .second, .val (.long q3), .second, .val (.long q4), .second, .val (.int p5), .val (.long r_110), .second, .val (.long r_114), .second, .unset, .unset, .unset, .unset, .unset, .unset, .unset, .unset, .unset, .unset, .unset, .unset, .unset, .unset, .unset] [(.long (q1 &&& (9223372036854775807 : Int64))), (.long (1 : Int64))]))
    obtain ⟨_, _, ⟨T154, L154, k154, n154⟩, -, X154, ⟨Lc154, hQ154, l154, y154, z154⟩, st154⟩ := Jvm.LawKit.callS X113 hx (y := (⟨"java/lang/Math", "max", "(JJ)J"⟩ : MethodName)) hown (mvT hZ (hw _ (List.mem_of_getElem? (i := 1) rfl))) (mvT hZ (hw _ (List.mem_of_getElem? (i := 2) rfl))) (mvT hZ (hw _ (List.mem_of_getElem? (i := 3) rfl))) (mvT hZ (hw _ (List.mem_of_getElem? (i := 4) rfl))) (by decide) (backOf (W := 0) (rm1 l Z a0 hw  [] (1 : Int64) (q1 &&& (9223372036854775807 : Int64)) h0 O0 ) hZ (hw _ (List.mem_of_getElem? (i := 4) rfl)) (hw _ (List.mem_of_getElem? (i := 3) rfl)) (by decide) (by decide)) (g := (mkF m 48 #[.val (.long q0), .second, .val (.long q1), .second, .val (.long q2), .second, .val (.long q3), .second, .val (.long q4), .second, .val (.int p5), .val (.long r_110), .second, .val (.long r_114), .second, .unset, .unset, .unset, .unset, .unset, .unset, .unset, .unset, .unset, .unset, .unset, .unset, .unset, .unset, .unset] [(.long (q1 &&& (9223372036854775807 : Int64))), (.long (1 : Int64))])) rfl (by rw [hml]; rfl) (argsL := [(.long (1 : Int64)), (.long (q1 &&& (9223372036854775807 : Int64)))]) (rest := []) (lenOf pd_28JJ29J rfl) rfl (by show 2 * 0 + _ ≤ _; exact Nat.le_of_eq rfl) (hb hby at_48) (fun _ _ => ⟨rfl, e113, (by decide : 0 + 0 ≤ _), (by decide : 0 + 0 ≤ _)⟩)
    dsimp only [Pt.U, Pt.locs, Pt.cells, Pt.slots] at X154 l154 y154 z154 st154 hQ154
    subst l154 y154 z154
    obtain ⟨r_155, rfl, Nq154, e154, hr_156⟩ := hQ154
    have N157 := Fr.app N116 Nq154
    refine OEnd.of st154 ?_
    show OEnd p e below _ (T154.setTop (mkF m 51 #[.val (.long q0), .second, .val (.long q1), .second, .val (.long q2), .second, .val (.long q3), .second, .val (.long q4), .second, .val (.int p5), .val (.long r_110), .second, .val (.long r_114), .second, .unset, .unset, .unset, .unset, .unset, .unset, .unset, .unset, .unset, .unset, .unset, .unset, .unset, .unset, .unset] [(.long r_155)]))
    refine OEnd.of (fun t k => XS.lstore X154.here hx rfl (hb hby at_51) rfl (l' := #[.val (.long q0), .second, .val (.long q1), .second, .val (.long q2), .second, .val (.long q3), .second, .val (.long q4), .second, .val (.int p5), .val (.long r_110), .second, .val (.long r_114), .second, .val (.long r_155), .second, .unset, .unset, .unset, .unset, .unset, .unset, .unset, .unset, .unset, .unset, .unset, .unset, .unset]) rfl k) ?_
    show OEnd p e below _ (T154.setTop (mkF m 53 #[.val (.long q0), .second, .val (.long q1), .second, .val (.long q2), .second, .val (.long q3), .second, .val (.long q4), .second, .val (.int p5), .val (.long r_110), .second, .val (.long r_114), .second, .val (.long r_155), .second, .unset, .unset, .unset, .unset, .unset, .unset, .unset, .unset, .unset, .unset, .unset, .unset, .unset] []))
    exact J117 T154 _ r_155 X154 e154 N157 (own_m1max hr_156)
  · refine OEnd.of (fun t k => XS.ifNo X113.here hx rfl (hb hby at_27) rfl ((if0 _ _).trans (feq hc153).1) k) ?_
    show OEnd p e below _ (T113.setTop (mkF m 30 #[.val (.long q0), .second, .val (.long q1), .second, .val (.long q2), .second, .val (.long q3), .second, .val (.long q4), .second, .val (.int p5), .val (.long r_110), .second, .val (.long r_114), .second, .unset, .unset, .unset, .unset, .unset, .unset, .unset, .unset, .unset, .unset, .unset, .unset, .unset, .unset, .unset] []))
    refine OEnd.of (fun t k => XS.lloadN X113.here hx rfl (hb hby at_30) rfl k) ?_
    show OEnd p e below _ (T113.setTop (mkF m 31 #[.val (.long q0), .second, .val (.long q1), .second, .val (.long q2), .second, .val (.long q3), .second, .val (.long q4), .second, .val (.int p5), .val (.long r_110), .second, .val (.long r_114), .second, .unset, .unset, .unset, .unset, .unset, .unset, .unset, .unset, .unset, .unset, .unset, .unset, .unset, .unset, .unset] [(.long q1)]))
    refine OEnd.of (X113.ldc2Long hx hown (mvT hZ (hw _ (List.mem_of_getElem? (i := 52) rfl))) (g := (mkF m 31 #[.val (.long q0), .second, .val (.long q1), .second, .val (.long q2), .second, .val (.long q3), .second, .val (.long q4), .second, .val (.int p5), .val (.long r_110), .second, .val (.long r_114), .second, .unset, .unset, .unset, .unset, .unset, .unset, .unset, .unset, .unset, .unset, .unset, .unset, .unset, .unset, .unset] [(.long q1)])) rfl (hb hby at_31)) ?_
    show OEnd p e below _ (T113.setTop (mkF m 34 #[.val (.long q0), .second, .val (.long q1), .second, .val (.long q2), .second, .val (.long q3), .second, .val (.long q4), .second, .val (.int p5), .val (.long r_110), .second, .val (.long r_114), .second, .unset, .unset, .unset, .unset, .unset, .unset, .unset, .unset, .unset, .unset, .unset, .unset, .unset, .unset, .unset] [(.long (15 : Int64)), (.long q1)]))
    refine OEnd.of (fun t k => XS.land X113.here hx rfl (hb hby at_34) rfl k) ?_
    show OEnd p e below _ (T113.setTop (mkF m 35 #[.val (.long q0), .second, .val (.long q1), .second, .val (.long q2), .second, .val (.long q3), .second, .val (.long q4), .second, .val (.int p5), .val (.long r_110), .second, .val (.long r_114), .second, .unset, .unset, .unset, .unset, .unset, .unset, .unset, .unset, .unset, .unset, .unset, .unset, .unset, .unset, .unset] [(.long (q1 &&& (15 : Int64)))]))
    refine OEnd.of (fun t k => XS.lconst X113.here hx rfl (hb hby at_35) k) ?_
    show OEnd p e below _ (T113.setTop (mkF m 36 #[.val (.long q0), .second, .val (.long q1), .second, .val (.long q2), .second, .val (.long q3), .second, .val (.long q4), .second, .val (.int p5), .val (.long r_110), .second, .val (.long r_114), .second, .unset, .unset, .unset, .unset, .unset, .unset, .unset, .unset, .unset, .unset, .unset, .unset, .unset, .unset, .unset] [(.long (1 : Int64)), (.long (q1 &&& (15 : Int64)))]))
    refine OEnd.of (fun t k => XS.ladd X113.here hx rfl (hb hby at_36) rfl k) ?_
    show OEnd p e below _ (T113.setTop (mkF m 37 #[.val (.long q0), .second, .val (.long q1), .second, .val (.long q2), .second, .val (.long q3), .second, .val (.long q4), .second, .val (.int p5), .val (.long r_110), .second, .val (.long r_114), .second, .unset, .unset, .unset, .unset, .unset, .unset, .unset, .unset, .unset, .unset, .unset, .unset, .unset, .unset, .unset] [(.long ((q1 &&& (15 : Int64)) + (1 : Int64)))]))
    refine OEnd.of (fun t k => XS.lstore X113.here hx rfl (hb hby at_37) rfl (l' := #[.val (.long q0), .second, .val (.long q1), .second, .val (.long q2), .second, .val (.long q3), .second, .val (.long q4), .second, .val (.int p5), .val (.long r_110), .second, .val (.long r_114), .second, .val (.long ((q1 &&& (15 : Int64)) + (1 : Int64))), .second, .unset, .unset, .unset, .unset, .unset, .unset, .unset, .unset, .unset, .unset, .unset, .unset, .unset]) rfl k) ?_
    show OEnd p e below _ (T113.setTop (mkF m 39 #[.val (.long q0), .second, .val (.long q1), .second, .val (.long q2), .second, .val (.long q3), .second, .val (.long q4), .second, .val (.int p5), .val (.long r_110), .second, .val (.long r_114), .second, .val (.long ((q1 &&& (15 : Int64)) + (1 : Int64))), .second, .unset, .unset, .unset, .unset, .unset, .unset, .unset, .unset, .unset, .unset, .unset, .unset, .unset] []))
    refine OEnd.of (fun t k => XS.goto X113.here hx rfl (pc0 := 39) (pc' := 53) rfl (hb hby at_39) (by decide) (by decide) k) ?_
    show OEnd p e below _ (T113.setTop (mkF m 53 #[.val (.long q0), .second, .val (.long q1), .second, .val (.long q2), .second, .val (.long q3), .second, .val (.long q4), .second, .val (.int p5), .val (.long r_110), .second, .val (.long r_114), .second, .val (.long ((q1 &&& (15 : Int64)) + (1 : Int64))), .second, .unset, .unset, .unset, .unset, .unset, .unset, .unset, .unset, .unset, .unset, .unset, .unset, .unset] []))
    exact J117 T113 _ ((q1 &&& (15 : Int64)) + (1 : Int64)) X113 e113 N116 (own_m1t _)
set_option maxRecDepth 65536 in
set_option maxHeartbeats 40000000 in
theorem comes_1 {Post : Tables → Env → Array Value → State → Outcome → State → Prop} (hpost : ∀ tb e args s v u, (limb_1_1.after args s (.returned v) u = true ∧ limb_1_2.after args s (.returned v) u = true ∧ True) → FrameEnd s (.returned v) u (Jvm.fieldLocs frame_1_writes args s ++ Jvm.arrayLocs frame_1_arrays args s ++ Jvm.staticLocs frame_1_statics s) 16 128 → Post tb e args s (.returned v) u) :
    ArmFor flags0 classFile x code maxLocals ret World_1 tables_1 room_1 Calls_1 rest_1 Pre_1 Post := by
  intro l hfl _ _ p e ha hc hk s m args below hf hA hF happ hP
  obtain ⟨hcalls, hrest, hpre⟩ := hP
  obtain ⟨-, -, -, hnamed, -, -, -, hat⟩ := (Spec.applies_iff hf).mp happ
  obtain ⟨hg, hn⟩ := and_e (Cond.before_iff.mp (show (Jvm.Cond.and given_1 narrow_1).before args s = true from hpre))
  obtain ⟨hcnt, hg0⟩ := and_e hg
  obtain ⟨ga0, hg1⟩ := and_e hg0
  obtain ⟨ga1, hg2⟩ := and_e hg1
  obtain ⟨ga2, hg3⟩ := and_e hg2
  obtain ⟨ga3, hg4⟩ := and_e hg3
  obtain ⟨ga4, hg5⟩ := and_e hg4
  have ga5 := hg5
  obtain ⟨w0, w1, w2, w3, w4, w5, rfl⟩ : ∃ w0 w1 w2 w3 w4 w5 : Value, args = #[w0, w1, w2, w3, w4, w5] := by
    have hs : args.size = 6 := by simpa [Cond.value, given_1] using hcnt
    obtain ⟨L⟩ := args
    match L, hs with
    | [w0, w1, w2, w3, w4, w5], _ => exact ⟨w0, w1, w2, w3, w4, w5, rfl⟩
  have hw := fun d (hd : d ∈ tables_1) => atoms_spec (ws := Jvm.Cond.code x code maxLocals ret :: tables_1) hat d (List.mem_cons_of_mem _ hd)
  have hfit : Fit s := fun {y c} hc i hi => by
    obtain ⟨ha, rfl⟩ := Array.getElem?_eq_some_iff.mp hc
    have q := List.all_eq_true.mp ((Array.all_eq_true_iff_forall_mem.mp hF) _ (Array.getElem_mem ha)) i (List.mem_range.mpr hi)
    simpa [Array.getElem?_eq_getElem hi] using q
  obtain ⟨i0, ei0⟩ := isL_v ga0
  obtain rfl : w0 = (.long i0) := Option.some.inj ei0
  obtain ⟨i1, ei1⟩ := isL_v ga1
  obtain rfl : w1 = (.long i1) := Option.some.inj ei1
  obtain ⟨i2, ei2⟩ := isL_v ga2
  obtain rfl : w2 = (.long i2) := Option.some.inj ei2
  obtain ⟨i3, ei3⟩ := isL_v ga3
  obtain rfl : w3 = (.long i3) := Option.some.inj ei3
  obtain ⟨i4, ei4⟩ := isL_v ga4
  obtain rfl : w4 = (.long i4) := Option.some.inj ei4
  obtain ⟨i5, ei5⟩ := is_v ga5
  obtain rfl : w5 = (.int i5) := Option.some.inj ei5
  obtain ⟨n, o, h1, h2, h3, _, L, rfl, ⟨rfl, N, -⟩, hq⟩ := rm0 l s _ hw  tables_1 i0 i1 i2 i3 i4 i5  s.heap ⟨Nat.le_refl _, fun _ _ q => q⟩  p e ha hc hk s m _ below hf ((Spec.applies_iff_loose hf).mp happ).1 ⟨rfl, State.Warmed39.refl s, rfl⟩ trivial
  refine ⟨n, _, h1, h2, h3, hpost _ _ _ _ _ _ ⟨Cond.after_iff.mpr rfl, Cond.after_iff.mpr (eq_i res_at (Term.int_eval (1)) rfl), trivial⟩ ⟨hq.1, hq.2.1, (hq.2.2.sift fun y hy => Or.inr (N y hy)).mono (by decide) (by decide)⟩⟩
theorem main_1_1 : Claimed_1_1 := comes_1 fun _ _ _ _ _ _ h hF => ⟨h.1, hF⟩
theorem main_1_2 : Claimed_1_2 := comes_1 fun _ _ _ _ _ _ h hF => ⟨h.2.1, hF⟩
end Jvm.Pilot.@@N@@
namespace Jvm.Pilot.@@N@@
open Jvm Jvm.ClassFile Sem Op Lib Jvm.Free Jvm.Stand Jvm.Pilot.@@N@@.Jvm.D
/-! MADE BY PROGRAM (witnessworld.py) out of the Statement's table words and the real class files: 16 classes; the members and pool entries that the words name. The judged class is class 1, her method 1. -/
namespace start1
open Jvm.ClassFile
def u (s : String) : CpInfo := .utf8 (stringToUtf16 s)
/-- a pool by its gaps: so many unusable entries, then the entry; so many at the end -/
def gap : Nat → List CpInfo → List CpInfo
  | 0, r => r
  | n + 1, r => .unusable :: gap n r
def poolList (es : List (Nat × CpInfo)) (last : Nat) : List CpInfo := es.foldr (fun e r => gap e.1 (e.2 :: r)) (gap last [])
def pool (es : List (Nat × CpInfo)) (last : Nat) : Array CpInfo := ⟨poolList es last⟩
def fileOf (pool : Array CpInfo) (this : Nat) (attrs : Array Attribute := #[]) (ms : Array MethodInfo := #[]) (fl : Nat := 33) (sup : Nat := 0) (ifs : Array Nat := #[]) (fds : Array FieldInfo := #[]) : ClassFile where
  minorVersion := 0
  majorVersion := 65
  constantPool := pool
  accessFlags := fl
  thisClass := this
  superClass := sup
  interfaces := ifs
  fields := fds
  methods := ms
  attributes := attrs
def plain (name : String) (sup : Option ClassId) : Class where
  name := name
  kind := .ordinary
  loader := none
  accessFlags := 33
  super := sup
  interfaces := #[]
  cf := none
  fields := #[]
  methods := #[]
  instanceTypes := #[]
  staticTypes := #[]
  resolved := #[]
  callSites := []
  init := .initialized
  statics := none
  mirror := none

def pool0 : Array CpInfo := pool [(5, u "<init>"), (0, u "()V"), (1, .class_ 10), (1, u "java/lang/Object")] 113

def k0c0 : Code := { maxStack := 0, maxLocals := 1, code := object_method_1_code, exceptionTable := #[], attributes := #[] }
def k0m0 : Method := { name := "<init>", desc := "()V", sig := { parameters := [], returnType := none }, accessFlags := 1, code := some k0c0 }
/-- java/lang/Object -/
def k0 : Class := { plain "java/lang/Object" none with
  accessFlags := 33
  interfaces := #[]
  cf := some (fileOf pool0 8 #[] #[{ accessFlags := 1, nameIndex := 5, descriptorIndex := 6, attributes := #[] }] 33 0 #[] #[])
  fields := #[]
  methods := #[k0m0]
  instanceTypes := #[]
  staticTypes := #[]
  resolved := Array.replicate 124 none
  statics := none }

def pool1 : Array CpInfo := pool [(2, .class_ 4), (1, u "java/lang/Object"), (0, u "<init>"), (0, u "()V"), (2, .long 9223372036854775807), (1, .methodref 12 13), (0, .class_ 14), (0, .nameAndType 15 16), (0, u "java/lang/Math"), (0, u "max"), (0, u "(JJ)J"), (0, .long 15), (1, .long 63), (1, .class_ 22), (0, u "com/example/metr/metr/Parts"), (0, .methodref 21 24), (0, .nameAndType 5 25), (0, u "(JJJ)V"), (0, .methodref 21 27), (0, .nameAndType 28 16), (0, u "nanosToEarn"), (0, .class_ 30), (0, u "com/example/metr/metr/PartsNanosToEarnPinLaw"), (2, u "law"), (0, u "(JJJJJI)Z")] 3

def k1m0 : Method := { name := "<init>", desc := "()V", sig := { parameters := [], returnType := none }, accessFlags := 1, code := none }
def k1c1 : Code := { maxStack := 8, maxLocals := 30, code := code, exceptionTable := #[], attributes := #[] }
def k1m1 : Method := { name := "law", desc := "(JJJJJI)Z", sig := { parameters := [.long, .long, .long, .long, .long, .int], returnType := some .boolean }, accessFlags := 9, code := some k1c1 }
/-- com/example/metr/metr/PartsNanosToEarnPinLaw -/
def k1 : Class := { plain "com/example/metr/metr/PartsNanosToEarnPinLaw" (some 0) with
  accessFlags := 49
  interfaces := #[]
  cf := some (fileOf pool1 29 #[] #[{ accessFlags := 1, nameIndex := 5, descriptorIndex := 6, attributes := #[] }, { accessFlags := 9, nameIndex := 33, descriptorIndex := 34, attributes := #[] }] 49 2 #[] #[])
  fields := #[]
  methods := #[k1m0, k1m1]
  instanceTypes := #[]
  staticTypes := #[]
  resolved := Array.replicate 38 none
  statics := none }

def pool2 : Array CpInfo := pool [(1, .class_ 2), (0, u "java/lang/Math"), (1, .class_ 6), (1, u "java/lang/Object"), (0, u "<init>"), (0, u "()V"), (89, .class_ 100), (1, u "java/lang/Math$RandomNumberGeneratorHolder"), (20, u "(JJ)J"), (16, .long 4294967295), (3, u "multiplyHigh"), (29, u "negativeZeroFloatBits"), (0, u "J"), (2, u "negativeZeroDoubleBits"), (21, u "max"), (46, u "$assertionsDisabled"), (0, u "Z"), (91, u "twoToTheDoubleScaleDown"), (0, u "D"), (4, u "twoToTheDoubleScaleUp"), (9, u "E"), (3, u "PI"), (2, u "TAU"), (2, u "DEGREES_TO_RADIANS"), (0, u "RADIANS_TO_DEGREES")] 94

def k2m0 : Method := { name := "<init>", desc := "()V", sig := { parameters := [], returnType := none }, accessFlags := 2, code := none }
def k2c1 : Code := { maxStack := 6, maxLocals := 20, code := jdk_29_method_45_code, exceptionTable := #[], attributes := #[] }
def k2m1 : Method := { name := "multiplyHigh", desc := "(JJ)J", sig := { parameters := [.long, .long], returnType := some .long }, accessFlags := 9, code := some k2c1 }
def k2c2 : Code := { maxStack := 4, maxLocals := 4, code := jdk_29_method_66_code, exceptionTable := #[], attributes := #[] }
def k2m2 : Method := { name := "max", desc := "(JJ)J", sig := { parameters := [.long, .long], returnType := some .long }, accessFlags := 9, code := some k2c2 }
/-- java/lang/Math -/
def k2 : Class := { plain "java/lang/Math" (some 0) with
  accessFlags := 49
  interfaces := #[]
  cf := some (fileOf pool2 1 #[.nestMembers #[98]] #[{ accessFlags := 2, nameIndex := 7, descriptorIndex := 8, attributes := #[] }, { accessFlags := 9, nameIndex := 142, descriptorIndex := 121, attributes := #[] }, { accessFlags := 9, nameIndex := 198, descriptorIndex := 121, attributes := #[] }] 49 4 #[] #[{ accessFlags := 25, nameIndex := 354, descriptorIndex := 339, attributes := #[] }, { accessFlags := 25, nameIndex := 358, descriptorIndex := 339, attributes := #[] }, { accessFlags := 25, nameIndex := 361, descriptorIndex := 339, attributes := #[] }, { accessFlags := 26, nameIndex := 364, descriptorIndex := 339, attributes := #[] }, { accessFlags := 26, nameIndex := 365, descriptorIndex := 339, attributes := #[] }, { accessFlags := 26, nameIndex := 172, descriptorIndex := 173, attributes := #[] }, { accessFlags := 26, nameIndex := 176, descriptorIndex := 173, attributes := #[] }, { accessFlags := 8, nameIndex := 344, descriptorIndex := 339, attributes := #[] }, { accessFlags := 8, nameIndex := 338, descriptorIndex := 339, attributes := #[] }, { accessFlags := 4120, nameIndex := 245, descriptorIndex := 246, attributes := #[] }])
  fields := #[{ name := "E", type := .double, accessFlags := 25, slot := 0, constantValue := 0 }, { name := "PI", type := .double, accessFlags := 25, slot := 1, constantValue := 0 }, { name := "TAU", type := .double, accessFlags := 25, slot := 2, constantValue := 0 }, { name := "DEGREES_TO_RADIANS", type := .double, accessFlags := 26, slot := 3, constantValue := 0 }, { name := "RADIANS_TO_DEGREES", type := .double, accessFlags := 26, slot := 4, constantValue := 0 }, { name := "negativeZeroFloatBits", type := .long, accessFlags := 26, slot := 5, constantValue := 0 }, { name := "negativeZeroDoubleBits", type := .long, accessFlags := 26, slot := 6, constantValue := 0 }, { name := "twoToTheDoubleScaleUp", type := .double, accessFlags := 8, slot := 7, constantValue := 0 }, { name := "twoToTheDoubleScaleDown", type := .double, accessFlags := 8, slot := 8, constantValue := 0 }, { name := "$assertionsDisabled", type := .boolean, accessFlags := 4120, slot := 9, constantValue := 0 }]
  methods := #[k2m0, k2m1, k2m2]
  instanceTypes := #[]
  staticTypes := #[.double, .double, .double, .double, .double, .long, .long, .double, .double, .boolean]
  resolved := Array.replicate 460 none
  statics := none }

def pool3 : Array CpInfo := pool [(1, .methodref 2 3), (0, .class_ 4), (0, .nameAndType 5 6), (0, u "java/lang/Object"), (0, u "<init>"), (0, u "()V"), (0, .fieldref 8 9), (0, .class_ 10), (0, .nameAndType 11 12), (0, u "com/example/metr/metr/Parts"), (0, u "capacity"), (0, u "J"), (0, .fieldref 8 14), (0, .nameAndType 15 12), (0, u "refillTokens"), (0, .fieldref 8 17), (0, .nameAndType 18 12), (0, u "refillPeriod"), (0, .methodref 8 20), (0, .nameAndType 21 22), (0, u "parts"), (0, u "(J)J"), (0, .fieldref 8 24), (0, .nameAndType 25 12), (0, u "capacityParts"), (0, .class_ 27), (0, u "java/lang/Long"), (0, .methodref 26 29), (0, .nameAndType 30 31), (0, u "numberOfLeadingZeros"), (0, u "(J)I"), (0, .fieldref 8 33), (0, .nameAndType 34 35), (0, u "deficitBits"), (0, u "I"), (0, .long 9223372036854775807), (1, .fieldref 8 39), (0, .nameAndType 40 12), (0, u "mostElapsed"), (0, .methodref 42 43), (0, .class_ 44), (0, .nameAndType 45 46), (0, u "java/lang/Math"), (0, u "multiplyHigh"), (0, u "(JJ)J"), (0, .long 18446744073709551615), (1, u "(JJJ)V"), (7, u "nanosToEarn")] 2

def k3c0 : Code := { maxStack := 5, maxLocals := 7, code := prog_25_method_1_code, exceptionTable := #[], attributes := #[] }
def k3m0 : Method := { name := "<init>", desc := "(JJJ)V", sig := { parameters := [.long, .long, .long], returnType := none }, accessFlags := 0, code := some k3c0 }
def k3c1 : Code := { maxStack := 4, maxLocals := 3, code := prog_25_method_7_code, exceptionTable := #[], attributes := #[] }
def k3m1 : Method := { name := "parts", desc := "(J)J", sig := { parameters := [.long], returnType := some .long }, accessFlags := 0, code := some k3c1 }
def k3c2 : Code := { maxStack := 6, maxLocals := 7, code := prog_25_method_11_code, exceptionTable := #[], attributes := #[] }
def k3m2 : Method := { name := "nanosToEarn", desc := "(JJ)J", sig := { parameters := [.long, .long], returnType := some .long }, accessFlags := 0, code := some k3c2 }
/-- com/example/metr/metr/Parts -/
def k3 : Class := { plain "com/example/metr/metr/Parts" (some 0) with
  accessFlags := 32
  interfaces := #[]
  cf := some (fileOf pool3 8 #[] #[{ accessFlags := 0, nameIndex := 5, descriptorIndex := 49, attributes := #[] }, { accessFlags := 0, nameIndex := 21, descriptorIndex := 22, attributes := #[] }, { accessFlags := 0, nameIndex := 57, descriptorIndex := 46, attributes := #[] }] 32 2 #[] #[{ accessFlags := 18, nameIndex := 11, descriptorIndex := 12, attributes := #[] }, { accessFlags := 18, nameIndex := 15, descriptorIndex := 12, attributes := #[] }, { accessFlags := 18, nameIndex := 18, descriptorIndex := 12, attributes := #[] }, { accessFlags := 18, nameIndex := 25, descriptorIndex := 12, attributes := #[] }, { accessFlags := 18, nameIndex := 34, descriptorIndex := 35, attributes := #[] }, { accessFlags := 18, nameIndex := 40, descriptorIndex := 12, attributes := #[] }])
  fields := #[{ name := "capacity", type := .long, accessFlags := 18, slot := 0, constantValue := 0 }, { name := "refillTokens", type := .long, accessFlags := 18, slot := 1, constantValue := 0 }, { name := "refillPeriod", type := .long, accessFlags := 18, slot := 2, constantValue := 0 }, { name := "capacityParts", type := .long, accessFlags := 18, slot := 3, constantValue := 0 }, { name := "deficitBits", type := .int, accessFlags := 18, slot := 4, constantValue := 0 }, { name := "mostElapsed", type := .long, accessFlags := 18, slot := 5, constantValue := 0 }]
  methods := #[k3m0, k3m1, k3m2]
  instanceTypes := #[.long, .long, .long, .long, .int, .long]
  staticTypes := #[]
  resolved := Array.replicate 60 none
  statics := none }

def pool4 : Array CpInfo := pool [(1, .class_ 2), (0, u "java/io/Serializable"), (0, .class_ 4), (0, u "java/lang/Object")] 2

/-- java/io/Serializable -/
def k4 : Class := { plain "java/io/Serializable" (some 0) with
  accessFlags := 1537
  interfaces := #[]
  cf := some (fileOf pool4 1 #[] #[] 1537 3 #[] #[])
  fields := #[]
  methods := #[]
  instanceTypes := #[]
  staticTypes := #[]
  resolved := Array.replicate 7 none
  statics := none }

def pool5 : Array CpInfo := pool [(2, .class_ 4), (1, u "java/lang/Object"), (0, u "<init>"), (0, u "()V"), (1, .class_ 10), (1, u "java/lang/Number"), (2, .class_ 14), (0, u "java/io/Serializable"), (0, u "serialVersionUID"), (0, u "J")] 20

def k5m0 : Method := { name := "<init>", desc := "()V", sig := { parameters := [], returnType := none }, accessFlags := 1, code := none }
/-- java/lang/Number -/
def k5 : Class := { plain "java/lang/Number" (some 0) with
  accessFlags := 1057
  interfaces := #[4]
  cf := some (fileOf pool5 8 #[] #[{ accessFlags := 1, nameIndex := 5, descriptorIndex := 6, attributes := #[] }] 1057 2 #[13] #[{ accessFlags := 26, nameIndex := 15, descriptorIndex := 16, attributes := #[] }])
  fields := #[{ name := "serialVersionUID", type := .long, accessFlags := 26, slot := 0, constantValue := 0 }]
  methods := #[k5m0]
  instanceTypes := #[]
  staticTypes := #[.long]
  resolved := Array.replicate 37 none
  statics := none }

def pool6 : Array CpInfo := pool [(1, .class_ 2), (0, u "java/lang/Comparable"), (0, .class_ 4), (0, u "java/lang/Object")] 7

/-- java/lang/Comparable -/
def k6 : Class := { plain "java/lang/Comparable" (some 0) with
  accessFlags := 1537
  interfaces := #[]
  cf := some (fileOf pool6 1 #[] #[] 1537 3 #[] #[])
  fields := #[]
  methods := #[]
  instanceTypes := #[]
  staticTypes := #[]
  resolved := Array.replicate 12 none
  statics := none }

def pool7 : Array CpInfo := pool [(1, .class_ 2), (0, u "java/lang/constant/Constable"), (0, .class_ 4), (0, u "java/lang/Object")] 6

/-- java/lang/constant/Constable -/
def k7 : Class := { plain "java/lang/constant/Constable" (some 0) with
  accessFlags := 1537
  interfaces := #[]
  cf := some (fileOf pool7 1 #[] #[] 1537 3 #[] #[])
  fields := #[]
  methods := #[]
  instanceTypes := #[]
  staticTypes := #[]
  resolved := Array.replicate 11 none
  statics := none }

def pool8 : Array CpInfo := pool [(1, .class_ 2), (0, u "java/lang/constant/ConstantDesc"), (0, .class_ 4), (0, u "java/lang/Object")] 32

/-- java/lang/constant/ConstantDesc -/
def k8 : Class := { plain "java/lang/constant/ConstantDesc" (some 0) with
  accessFlags := 1537
  interfaces := #[]
  cf := some (fileOf pool8 1 #[] #[] 1537 3 #[] #[])
  fields := #[]
  methods := #[]
  instanceTypes := #[]
  staticTypes := #[]
  resolved := Array.replicate 37 none
  statics := none }

def pool9 : Array CpInfo := pool [(1, .class_ 2), (0, u "java/lang/Long"), (15, .class_ 20), (1, u "java/lang/Integer"), (79, u "numberOfLeadingZeros"), (0, u "(J)I"), (133, .class_ 237), (1, u "java/lang/Long$LongCache"), (33, .class_ 272), (0, u "java/lang/Number"), (2, u "value"), (0, u "J"), (31, .methodref 18 309), (0, .nameAndType 100 310), (0, u "(I)I"), (50, u "TYPE"), (0, u "Ljava/lang/Class;"), (0, .class_ 364), (0, u "java/lang/Comparable"), (0, .class_ 366), (0, u "java/lang/constant/Constable"), (0, .class_ 368), (0, u "java/lang/constant/ConstantDesc"), (0, u "MIN_VALUE"), (1, u "MAX_VALUE"), (4, u "SIZE"), (0, u "I"), (1, u "BYTES"), (1, u "serialVersionUID")] 142

def k9c0 : Code := { maxStack := 3, maxLocals := 3, code := jdk_35_method_48_code, exceptionTable := #[], attributes := #[] }
def k9m0 : Method := { name := "numberOfLeadingZeros", desc := "(J)I", sig := { parameters := [.long], returnType := some .int }, accessFlags := 9, code := some k9c0 }
/-- java/lang/Long -/
def k9 : Class := { plain "java/lang/Long" (some 5) with
  accessFlags := 49
  interfaces := #[6, 7, 8]
  cf := some (fileOf pool9 1 #[.nestMembers #[235]] #[{ accessFlags := 9, nameIndex := 100, descriptorIndex := 101, attributes := #[] }] 49 271 #[363, 365, 367] #[{ accessFlags := 25, nameIndex := 369, descriptorIndex := 276, attributes := #[] }, { accessFlags := 25, nameIndex := 371, descriptorIndex := 276, attributes := #[] }, { accessFlags := 25, nameIndex := 361, descriptorIndex := 362, attributes := #[] }, { accessFlags := 18, nameIndex := 275, descriptorIndex := 276, attributes := #[] }, { accessFlags := 25, nameIndex := 376, descriptorIndex := 377, attributes := #[] }, { accessFlags := 25, nameIndex := 379, descriptorIndex := 377, attributes := #[] }, { accessFlags := 26, nameIndex := 381, descriptorIndex := 276, attributes := #[] }])
  fields := #[{ name := "MIN_VALUE", type := .long, accessFlags := 25, slot := 0, constantValue := 0 }, { name := "MAX_VALUE", type := .long, accessFlags := 25, slot := 1, constantValue := 0 }, { name := "TYPE", type := (.object "java/lang/Class"), accessFlags := 25, slot := 2, constantValue := 0 }, { name := "value", type := .long, accessFlags := 18, slot := 0, constantValue := 0 }, { name := "SIZE", type := .int, accessFlags := 25, slot := 3, constantValue := 0 }, { name := "BYTES", type := .int, accessFlags := 25, slot := 4, constantValue := 0 }, { name := "serialVersionUID", type := .long, accessFlags := 26, slot := 5, constantValue := 0 }]
  methods := #[k9m0]
  instanceTypes := #[.long]
  staticTypes := #[.long, .long, (.object "java/lang/Class"), .int, .int, .long]
  resolved := Array.replicate 524 none
  statics := none }

def pool10 : Array CpInfo := pool [(1, .class_ 2), (0, u "java/lang/Integer"), (16, u "digits"), (0, u "[C"), (32, u "numberOfLeadingZeros"), (0, u "(I)I"), (30, u "DigitOnes"), (0, u "[B"), (2, u "DigitTens"), (99, .class_ 190), (0, u "java/lang/Integer$IntegerCache"), (3, u "I"), (8, .class_ 204), (0, u "java/lang/Number"), (2, u "value"), (56, .integer 65536), (37, u "TYPE"), (0, u "Ljava/lang/Class;"), (0, .class_ 305), (0, u "java/lang/Comparable"), (0, .class_ 307), (0, u "java/lang/constant/Constable"), (0, .class_ 309), (0, u "java/lang/constant/ConstantDesc"), (0, u "MIN_VALUE"), (1, u "MAX_VALUE"), (3, u "SIZE"), (1, u "BYTES"), (1, u "serialVersionUID"), (0, u "J")] 131

def k10c0 : Code := { maxStack := 3, maxLocals := 2, code := jdk_33_method_47_code, exceptionTable := #[], attributes := #[] }
def k10m0 : Method := { name := "numberOfLeadingZeros", desc := "(I)I", sig := { parameters := [.int], returnType := some .int }, accessFlags := 9, code := some k10c0 }
/-- java/lang/Integer -/
def k10 : Class := { plain "java/lang/Integer" (some 5) with
  accessFlags := 49
  interfaces := #[6, 7, 8]
  cf := some (fileOf pool10 1 #[.nestMembers #[189]] #[{ accessFlags := 9, nameIndex := 53, descriptorIndex := 54, attributes := #[] }] 49 203 #[304, 306, 308] #[{ accessFlags := 25, nameIndex := 310, descriptorIndex := 194, attributes := #[] }, { accessFlags := 25, nameIndex := 312, descriptorIndex := 194, attributes := #[] }, { accessFlags := 25, nameIndex := 302, descriptorIndex := 303, attributes := #[] }, { accessFlags := 24, nameIndex := 19, descriptorIndex := 20, attributes := #[] }, { accessFlags := 24, nameIndex := 89, descriptorIndex := 86, attributes := #[] }, { accessFlags := 24, nameIndex := 85, descriptorIndex := 86, attributes := #[] }, { accessFlags := 18, nameIndex := 207, descriptorIndex := 194, attributes := #[] }, { accessFlags := 25, nameIndex := 316, descriptorIndex := 194, attributes := #[] }, { accessFlags := 25, nameIndex := 318, descriptorIndex := 194, attributes := #[] }, { accessFlags := 26, nameIndex := 320, descriptorIndex := 321, attributes := #[] }])
  fields := #[{ name := "MIN_VALUE", type := .int, accessFlags := 25, slot := 0, constantValue := 0 }, { name := "MAX_VALUE", type := .int, accessFlags := 25, slot := 1, constantValue := 0 }, { name := "TYPE", type := (.object "java/lang/Class"), accessFlags := 25, slot := 2, constantValue := 0 }, { name := "digits", type := (.array .char), accessFlags := 24, slot := 3, constantValue := 0 }, { name := "DigitTens", type := (.array .byte), accessFlags := 24, slot := 4, constantValue := 0 }, { name := "DigitOnes", type := (.array .byte), accessFlags := 24, slot := 5, constantValue := 0 }, { name := "value", type := .int, accessFlags := 18, slot := 0, constantValue := 0 }, { name := "SIZE", type := .int, accessFlags := 25, slot := 6, constantValue := 0 }, { name := "BYTES", type := .int, accessFlags := 25, slot := 7, constantValue := 0 }, { name := "serialVersionUID", type := .long, accessFlags := 26, slot := 8, constantValue := 0 }]
  methods := #[k10m0]
  instanceTypes := #[.int]
  staticTypes := #[.int, .int, (.object "java/lang/Class"), (.array .char), (.array .byte), (.array .byte), .int, .int, .long]
  resolved := Array.replicate 453 none
  statics := none }

def pool11 : Array CpInfo := pool [(1, u "java/lang/Cloneable"), (0, .class_ 1), (0, u "java/lang/Object"), (0, .class_ 3)] 3

/-- java/lang/Cloneable -/
def k11 : Class := { plain "java/lang/Cloneable" (some 0) with
  accessFlags := 1537
  interfaces := #[]
  cf := some (fileOf pool11 2 #[] #[] 1537 4 #[] #[])
  fields := #[]
  methods := #[]
  instanceTypes := #[]
  staticTypes := #[]
  resolved := Array.replicate 8 none
  statics := none }

/-- the primitive byte -/
def k12 : Class := { plain "byte" none with kind := .primitive 'B', accessFlags := 0x411 }
/-- [B -/
def k13 : Class := { plain "[B" (some 0) with kind := .array 12 .byte, interfaces := #[11, 4], accessFlags := 1041 }

/-- the primitive int -/
def k14 : Class := { plain "int" none with kind := .primitive 'I', accessFlags := 0x411 }
/-- [I -/
def k15 : Class := { plain "[I" (some 0) with kind := .array 14 .int, interfaces := #[11, 4], accessFlags := 1041 }

def heap : Heap := #[]
def classes : Array Class := #[k0, k1, k2, k3, k4, k5, k6, k7, k8, k9, k10, k11, k12, k13, k14, k15]
def interned : List (Array UInt16 × Addr) := []
def slotsUsed : Nat := 0
def theMethod : MethodId := ⟨1, 1⟩
def args0 : Array Value := #[.long 5, .long 3, .long 7, .long 2, .long 1, .int 3]
def aboutOver (below : List Frame) : State where
  vm := { classes := classes, interned := interned.toArray }
  heap := heap
  slotsUsed := slotsUsed
  threads := #[{ frames := .invoking theMethod args0 :: below }]
def below0 : List Frame := [.native { method := ⟨0, 0⟩, args := #[] }]
def about1 : State := aboutOver below0
def p0 : Program := .bare "" "" ""
def e0 : Env := launch0.env 0 0 0
theorem w_frames : about1.frames = Frame.invoking theMethod args0 :: below0 := rfl
set_option maxRecDepth 65536 in
theorem w_args : argsFit about1.vm theMethod args0 = true := by decide +kernel
set_option maxRecDepth 65536 in
theorem w_heap : heapFits about1 = true := by decide +kernel
set_option maxRecDepth 65536 in
theorem w_runnable : about1.curStatus? = some .runnable := by decide +kernel
set_option maxRecDepth 65536 in
theorem w_alone : about1.alone = true := by decide +kernel
set_option maxRecDepth 65536 in
theorem w_named : about1.methodNamed? x = some theMethod := by decide +kernel
set_option maxRecDepth 65536 in
theorem w_hears : about1.hears theMethod below0 = true := by decide +kernel
set_option maxRecDepth 65536 in
theorem w_ripe : about1.ripe theMethod args0 below0 = true := by decide +kernel
theorem w_running : about1.status = .running := rfl
set_option maxRecDepth 65536 in
theorem w_room : about1.hasRoom e0.platform room_1 = true :=
  launch0.hasRoom_least _ room_1 (by decide +kernel) (by decide +kernel) (by decide +kernel) (by decide +kernel) (by decide +kernel) (by decide +kernel)
theorem allAtoms_all (ts : List Jvm.Cond) (a : Array Jvm.Value) (st : Jvm.State) : (allAtoms ts).before a st = ts.all (fun c => c.before a st) := by
  induction ts with
  | nil => rfl
  | cons c t ih =>
    show (Jvm.Cond.and c (allAtoms t)).before a st = _
    rw [Jvm.Cond.before_and, ih, List.all_cons]
def words1 : List Jvm.Cond := Jvm.Cond.code x code maxLocals ret :: tables_1
/-- a 'code' word, met by the world's own term for the bytes: nothing is compared byte by byte -/
theorem code_word {y : MethodName} {bytes : ByteArray} {mx : Nat} {rt : Option FieldType} {a : Array Value} {s : State} {m : MethodId} {meth : Method} {c : Code} (h1 : s.methodNamed? y = some m) (h2 : s.vm.method? m = some meth) (h3 : meth.code = some c) (h4 : c.code = bytes)
    (h5 : (c.maxLocals == mx && c.exceptionTable.isEmpty && decide (c.maxStack ≤ mostOperands) && decide (meth.sig.returnType = rt) && !meth.locks && decide (parseMethodDescriptor y.desc = some meth.sig)) = true) : (Jvm.Cond.code y bytes mx rt).before a s = true := by
  simp only [Bool.and_eq_true, beq_iff_eq, Bool.not_eq_true', decide_eq_true_eq] at h5
  obtain ⟨⟨⟨⟨⟨g1, g2⟩, g3⟩, g4⟩, g5⟩, g6⟩ := h5
  simp [Cond.before, Cond.holds, Cond.value, h1, h2, h3, h4, g1, g2, g3, g4, g5, g6]
def isCode : Jvm.Cond → Bool
  | .code _ _ _ _ => true
  | _ => false
theorem all_split {L : List Jvm.Cond} {P : Jvm.Cond → Bool} (h1 : L.all (fun c => isCode c || P c) = true) (h2 : ∀ c ∈ L.filter isCode, P c = true) : L.all P = true := by
  refine List.all_eq_true.mpr fun c hc => ?_
  have h := List.all_eq_true.mp h1 c hc
  rcases Bool.eq_false_or_eq_true (isCode c) with hi | hi
  · exact h2 c (List.mem_filter.mpr ⟨hc, hi⟩)
  · simpa [hi] using h
set_option maxRecDepth 65536 in
theorem w_c0 : (Jvm.Cond.code x code maxLocals ret).before args0 about1 = true := code_word (m := ⟨1, 1⟩) (meth := k1m1) (c := k1c1) (by decide +kernel) rfl rfl rfl (by decide +kernel)
set_option maxRecDepth 65536 in
theorem w_c1 : (Jvm.Cond.code ({ cls := "java/lang/Math", name := "max", desc := "(JJ)J" } : Jvm.MethodName) jdk_29_method_66_code (4 : Nat) (Option.some Jvm.ClassFile.FieldType.long)).before args0 about1 = true := code_word (m := ⟨2, 2⟩) (meth := k2m2) (c := k2c2) (by decide +kernel) rfl rfl rfl (by decide +kernel)
set_option maxRecDepth 65536 in
theorem w_c2 : (Jvm.Cond.code ({ cls := "com/example/metr/metr/Parts", name := "<init>", desc := "(JJJ)V" } : Jvm.MethodName) prog_25_method_1_code (7 : Nat) (Option.none : Option Jvm.ClassFile.FieldType)).before args0 about1 = true := code_word (m := ⟨3, 0⟩) (meth := k3m0) (c := k3c0) (by decide +kernel) rfl rfl rfl (by decide +kernel)
set_option maxRecDepth 65536 in
theorem w_c3 : (Jvm.Cond.code ({ cls := "java/lang/Object", name := "<init>", desc := "()V" } : Jvm.MethodName) object_method_1_code (1 : Nat) (Option.none : Option Jvm.ClassFile.FieldType)).before args0 about1 = true := code_word (m := ⟨0, 0⟩) (meth := k0m0) (c := k0c0) (by decide +kernel) rfl rfl rfl (by decide +kernel)
set_option maxRecDepth 65536 in
theorem w_c4 : (Jvm.Cond.code ({ cls := "com/example/metr/metr/Parts", name := "parts", desc := "(J)J" } : Jvm.MethodName) prog_25_method_7_code (3 : Nat) (Option.some Jvm.ClassFile.FieldType.long)).before args0 about1 = true := code_word (m := ⟨3, 1⟩) (meth := k3m1) (c := k3c1) (by decide +kernel) rfl rfl rfl (by decide +kernel)
set_option maxRecDepth 65536 in
theorem w_c5 : (Jvm.Cond.code ({ cls := "java/lang/Math", name := "multiplyHigh", desc := "(JJ)J" } : Jvm.MethodName) jdk_29_method_45_code (20 : Nat) (Option.some Jvm.ClassFile.FieldType.long)).before args0 about1 = true := code_word (m := ⟨2, 1⟩) (meth := k2m1) (c := k2c1) (by decide +kernel) rfl rfl rfl (by decide +kernel)
set_option maxRecDepth 65536 in
theorem w_c6 : (Jvm.Cond.code ({ cls := "java/lang/Long", name := "numberOfLeadingZeros", desc := "(J)I" } : Jvm.MethodName) jdk_35_method_48_code (3 : Nat) (Option.some Jvm.ClassFile.FieldType.int)).before args0 about1 = true := code_word (m := ⟨9, 0⟩) (meth := k9m0) (c := k9c0) (by decide +kernel) rfl rfl rfl (by decide +kernel)
set_option maxRecDepth 65536 in
theorem w_c7 : (Jvm.Cond.code ({ cls := "java/lang/Integer", name := "numberOfLeadingZeros", desc := "(I)I" } : Jvm.MethodName) jdk_33_method_47_code (2 : Nat) (Option.some Jvm.ClassFile.FieldType.int)).before args0 about1 = true := code_word (m := ⟨10, 0⟩) (meth := k10m0) (c := k10c0) (by decide +kernel) rfl rfl rfl (by decide +kernel)
set_option maxRecDepth 65536 in
theorem w_c8 : (Jvm.Cond.code ({ cls := "com/example/metr/metr/Parts", name := "nanosToEarn", desc := "(JJ)J" } : Jvm.MethodName) prog_25_method_11_code (7 : Nat) (Option.some Jvm.ClassFile.FieldType.long)).before args0 about1 = true := code_word (m := ⟨3, 2⟩) (meth := k3m2) (c := k3c2) (by decide +kernel) rfl rfl rfl (by decide +kernel)
def codes1 : List Jvm.Cond := [Jvm.Cond.code x code maxLocals ret, Jvm.Cond.code ({ cls := "java/lang/Math", name := "max", desc := "(JJ)J" } : Jvm.MethodName) jdk_29_method_66_code (4 : Nat) (Option.some Jvm.ClassFile.FieldType.long), Jvm.Cond.code ({ cls := "com/example/metr/metr/Parts", name := "<init>", desc := "(JJJ)V" } : Jvm.MethodName) prog_25_method_1_code (7 : Nat) (Option.none : Option Jvm.ClassFile.FieldType), Jvm.Cond.code ({ cls := "java/lang/Object", name := "<init>", desc := "()V" } : Jvm.MethodName) object_method_1_code (1 : Nat) (Option.none : Option Jvm.ClassFile.FieldType), Jvm.Cond.code ({ cls := "com/example/metr/metr/Parts", name := "parts", desc := "(J)J" } : Jvm.MethodName) prog_25_method_7_code (3 : Nat) (Option.some Jvm.ClassFile.FieldType.long), Jvm.Cond.code ({ cls := "java/lang/Math", name := "multiplyHigh", desc := "(JJ)J" } : Jvm.MethodName) jdk_29_method_45_code (20 : Nat) (Option.some Jvm.ClassFile.FieldType.long), Jvm.Cond.code ({ cls := "java/lang/Long", name := "numberOfLeadingZeros", desc := "(J)I" } : Jvm.MethodName) jdk_35_method_48_code (3 : Nat) (Option.some Jvm.ClassFile.FieldType.int), Jvm.Cond.code ({ cls := "java/lang/Integer", name := "numberOfLeadingZeros", desc := "(I)I" } : Jvm.MethodName) jdk_33_method_47_code (2 : Nat) (Option.some Jvm.ClassFile.FieldType.int), Jvm.Cond.code ({ cls := "com/example/metr/metr/Parts", name := "nanosToEarn", desc := "(JJ)J" } : Jvm.MethodName) prog_25_method_11_code (7 : Nat) (Option.some Jvm.ClassFile.FieldType.long)]
set_option maxRecDepth 65536 in
theorem codes_eq : words1.filter isCode = codes1 := rfl
theorem w_codes : ∀ c ∈ words1.filter isCode, c.before args0 about1 = true := by
  rw [codes_eq]
  intro c hc
  simp only [codes1, List.mem_cons, List.not_mem_nil, or_false] at hc
  rcases hc with rfl | rfl | rfl | rfl | rfl | rfl | rfl | rfl | rfl
  · exact w_c0
  · exact w_c1
  · exact w_c2
  · exact w_c3
  · exact w_c4
  · exact w_c5
  · exact w_c6
  · exact w_c7
  · exact w_c8
set_option maxRecDepth 65536 in
theorem w_t1 : (words1.take 24).all (fun c => isCode c || c.before args0 about1) = true := by decide +kernel
set_option maxRecDepth 65536 in
theorem w_t2 : ((words1.drop 24).take 24).all (fun c => isCode c || c.before args0 about1) = true := by decide +kernel
set_option maxRecDepth 65536 in
theorem w_t3 : ((words1.drop 24).drop 24).all (fun c => isCode c || c.before args0 about1) = true := by decide +kernel
theorem w_tables : (allAtoms (Jvm.Cond.code x code maxLocals ret :: tables_1)).before args0 about1 = true := by
  rw [allAtoms_all]
  show words1.all (fun c => c.before args0 about1) = true
  refine all_split ?_ w_codes
  rw [← List.take_append_drop 24 words1, List.all_append, w_t1, ← List.take_append_drop 24 (words1.drop 24), List.all_append, w_t2, w_t3]
  rfl
set_option maxRecDepth 65536 in
theorem w_case : (Jvm.Cond.and given_1 narrow_1).before args0 about1 = true := by decide +kernel
theorem w_applies : (headSpec (Jvm.Cond.code x code maxLocals ret :: tables_1) room_1).applies x e0.platform about1 = true :=
  (Spec.applies_iff w_frames).mpr ⟨w_running, w_runnable, w_alone, w_named, w_hears, w_ripe, w_room, w_tables⟩
theorem atStart : AtStart classFile x code maxLocals ret World_1 tables_1 room_1 Calls_1 rest_1 Pre_1 launch0 p0 e0 about1 theMethod args0 below0 :=
  ⟨lists_1, trivial, launch0.admits_env _ _ _, launch0.least_env, fairChoices_fair.cas, fairChoices_fair.clock, w_frames, w_args, w_heap, w_applies, trivial, trivial, w_case⟩
end start1
theorem witness_1 : WitnessClaimed_1 := ⟨start1.p0, start1.e0, start1.about1, start1.theMethod, start1.args0, start1.below0, start1.atStart⟩
end Jvm.Pilot.@@N@@
