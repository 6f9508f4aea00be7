import JvmDerived
import JvmDerived.Pilot.@@N@@Statement
import JvmDerived.Pilot.@@N@@Code
set_option linter.unusedVariables false
set_option linter.unusedSimpArgs false
@@BLOCK:NumsL.lean.txt@@
namespace Jvm.RoadKit
open Sem ClassFile Op Lib Jvm.Stand Jvm.Free Jvm.LawKit
section Own
variable {p : Program} {l : Launch} {e : Env} {R : Room} {s : State} {m : MethodId} {args : Array Value} {below : List Frame} {meth : Method} {c : Code} {T : State} {locs : List Loc} {cells slots : Nat} {Z : State} {a0 : Array Value} {h h' h0 : Heap} {ws ws' : List Addr} {Q : Option Value → Heap → List Loc → Prop} {k n : Nat}
/-- the run from U comes to an end of which G speaks -/
def OEnd (p : Program) (e : Env) (below : List Frame) (G : Outcome → State → Prop) (U : State) : Prop := ∃ t o, Steps p.tables e below U t ∧ t.status = .running ∧ Ended t below o ∧ G o t
theorem OEnd.of {G : Outcome → State → Prop} {U U' : State} (q : ∀ t, Steps p.tables e below U' t → Steps p.tables e below U t) (k : OEnd p e below G U') : OEnd p e below G U := by
  obtain ⟨t, o, h1, h2⟩ := k
  exact ⟨t, o, q t h1, h2⟩
/-- a contract's end, nothing interned -/
def GN (s : State) (Q : Option Value → Heap → List Loc → Prop) (k n : Nat) (o : Outcome) (t : State) : Prop := ∃ v L, o = .returned v ∧ Q v t.heap L ∧ FrameEnd s o t L k n
theorem OEnd.out {v : Option Value} {g : JFrame} (X : Stand p l e R s m args below meth c T locs cells slots) (hlk : meth.locks = false) (eT : T.heap = h) (hv : meth.sig.returnType = none → v = none)
    (hs : ∀ fs, (∀ (f : JFrame) (acts : List Action), f.method = m → f.locked = none → f.entered = [] → (doReturn e (T.setTop f) acts v).1 = T.setFrames fs) → Steps p.tables e below (T.setTop g) (T.setFrames fs))
    (hQ : Q v h locs) (hk : cells ≤ k) (hn : slots ≤ n) : OEnd p e below (GN s Q k n) (T.setTop g) := by
  obtain ⟨fs, hr, hrun, hended, hW, hsame⟩ := X.leave (v := v) hv hlk
  exact ⟨_, _, hs fs hr, hrun, hended, v, locs, rfl, (by show Q v T.heap locs; rw [eT]; exact hQ), ⟨v, rfl⟩, hW, hsame.mono hk hn⟩
theorem OEnd.retV {pc : Nat} {Ls : Array Slot} (X : Stand p l e R s m args below meth c T locs cells slots) (hx : p.tables.exec = Jvm.exec) (hlk : meth.locks = false) (eT : T.heap = h) (hret : meth.sig.returnType = none) (hd : decode c.code pc = .ok (.return_, 1))
    (hQ : Q none h locs) (hk : cells ≤ k) (hn : slots ≤ n) : OEnd p e below (GN s Q k n) (T.setTop (mkF m pc Ls [])) :=
  OEnd.out X hlk eT (fun _ => rfl) (fun fs hr => X.returnOut hx hret hd hr) hQ hk hn
theorem OEnd.retN {pc : Nat} {Ls : Array Slot} {z : Int32} {t : FieldType} {rest : List Value} (X : Stand p l e R s m args below meth c T locs cells slots) (hx : p.tables.exec = Jvm.exec) (hlk : meth.locks = false) (eT : T.heap = h) (hret : meth.sig.returnType = some t) (ht : t = .boolean ∨ t = .byte ∨ t = .char ∨ t = .short)
    (hd : decode c.code pc = .ok (.ireturn, 1)) (hQ : Q (some (.int (nar t z))) h locs) (hk : cells ≤ k) (hn : slots ≤ n) : OEnd p e below (GN s Q k n) (T.setTop (mkF m pc Ls (.int z :: rest))) :=
  OEnd.out X hlk eT (fun q => by rw [hret] at q; cases q) (fun fs hr => Jvm.RoadKit.retN X hx hret ht hd hr) hQ hk hn
theorem OEnd.retI {pc : Nat} {Ls : Array Slot} {z : Int32} {rest : List Value} (X : Stand p l e R s m args below meth c T locs cells slots) (hx : p.tables.exec = Jvm.exec) (hlk : meth.locks = false) (eT : T.heap = h) (hret : meth.sig.returnType = some .int)
    (hd : decode c.code pc = .ok (.ireturn, 1)) (hQ : Q (some (.int z)) h locs) (hk : cells ≤ k) (hn : slots ≤ n) : OEnd p e below (GN s Q k n) (T.setTop (mkF m pc Ls (.int z :: rest))) :=
  OEnd.out X hlk eT (fun q => by rw [hret] at q; cases q) (fun fs hr => retOut X hx hret rfl (Or.inl ⟨rfl, Or.inl rfl, z, rfl⟩) hd hr) hQ hk hn
theorem OEnd.retJ {pc : Nat} {Ls : Array Slot} {z : Int64} {rest : List Value} (X : Stand p l e R s m args below meth c T locs cells slots) (hx : p.tables.exec = Jvm.exec) (hlk : meth.locks = false) (eT : T.heap = h) (hret : meth.sig.returnType = some .long)
    (hd : decode c.code pc = .ok (.lreturn, 1)) (hQ : Q (some (.long z)) h locs) (hk : cells ≤ k) (hn : slots ≤ n) : OEnd p e below (GN s Q k n) (T.setTop (mkF m pc Ls (.long z :: rest))) :=
  OEnd.out X hlk eT (fun q => by rw [hret] at q; cases q) (fun fs hr => retOut X hx hret rfl (Or.inr (Or.inl ⟨rfl, rfl, z, rfl⟩)) hd hr) hQ hk hn
theorem own_narRef {t : FieldType} {w : Value} (hw : w.isRef = true) : narrow t w = w := by cases w <;> first | (cases hw; done) | (cases t <;> rfl)
theorem OEnd.retA {pc : Nat} {Ls : Array Slot} {w : Value} {t : FieldType} {rest : List Value} (X : Stand p l e R s m args below meth c T locs cells slots) (hx : p.tables.exec = Jvm.exec) (hlk : meth.locks = false) (eT : T.heap = h) (hret : meth.sig.returnType = some t) (ht : t.isReference = true) (hw : w.isRef = true)
    (hd : decode c.code pc = .ok (.areturn, 1)) (hQ : Q (some w) h locs) (hk : cells ≤ k) (hn : slots ≤ n) : OEnd p e below (GN s Q k n) (T.setTop (mkF m pc Ls (w :: rest))) :=
  OEnd.out X hlk eT (fun q => by rw [hret] at q; cases q) (fun fs hr => retOut X hx hret (own_narRef hw) (Or.inr (Or.inr (Or.inr (Or.inr ⟨rfl, ht, hw⟩)))) hd hr) hQ hk hn
theorem own_extKeep (O : Ext h0 h) (K : Keep h h' ws) (q : ∀ x ∈ ws, h0.size ≤ x) : Ext h0 h' := ⟨Nat.le_trans O.1 K.1, fun x c r => K.2.1 x c (O.2 x c r) fun z => absurd (Array.getElem?_eq_some_iff.mp r).1 (Nat.not_lt.mpr (q x z))⟩
theorem own_keepMono (K : Keep h h' ws) (q : ∀ x ∈ ws, x ∈ ws') : Keep h h' ws' := ⟨K.1, fun x c r n => K.2.1 x c r (fun z => n (q x z)), K.2.2⟩
theorem own_fitsRef {ty : FieldType} {v : Value} (hv : v.isRef = true) (ht : ty.isReference = true) : fits ty v = true := by cases v <;> first | (cases hv; done) | (cases ty <;> first | (cases ht; done) | rfl)
/-- a private method selects itself (its class can be made, so it is no interface) -/
theorem own_selPriv {y : MethodName} {nn : Nat} (hZ : Z.Warmed39 s.vm) (wi : (Cond.instantiable y.cls nn).before a0 Z = true) (wp : (Cond.privateMethod y).before a0 Z = true) (wm : (Cond.instanceMethod y).before a0 Z = true) (hy : y.cls ≠ "java/lang/invoke/MethodHandle" ∧ y.cls ≠ "java/lang/invoke/VarHandle") : (Cond.selects y.cls y y).before args s = true := by
  have wi' : (Cond.instantiable y.cls nn).before #[] s = true := mv hZ wi
  obtain ⟨cc, kk, h1, h2, -, h3, -⟩ := Cond.instantiable_spec wi'
  exact selects_self_of_private h1 h2 (by simpa using (Bool.or_eq_false_iff.mp h3).1) (Cond.privateMethod_at (mvP hZ wp (args := #[]))) (mvT hZ wm) hy
/-- an object of a class right beneath the root is none of a class K that can be made -/
theorem own_notAssign {C O K : String} {nn : Nat} (w : (Cond.superclass C O).before a0 Z = true) (wo : (Cond.noSuperclass O).before a0 Z = true) (wi : (Cond.instantiable K nn).before a0 Z = true) (h1 : C ≠ K) (h2 : O ≠ K) : ∃ c t, Z.vm.findClass C = some c ∧ Z.vm.findClass K = some t ∧ Z.vm.assignable c t = false := by
  obtain ⟨cc, hc⟩ := found_sup w
  obtain ⟨pp, kk, kp, hp, hk, hkp, hsup, hkind, -, -⟩ := Cond.superclass_spec hc w
  obtain ⟨oo, ko, ho, hko, hnone, -, -⟩ := Cond.noSuperclass_spec wo
  obtain ⟨tt, kt, ht, hkt, hkindt, hif, -⟩ := Cond.instantiable_spec wi
  cases ho.symm.trans hp
  have ne1 := ids_ne hc ht h1
  have ne2 := ids_ne ho ht h2
  have hi : kt.isInterface = false := (Bool.or_eq_false_iff.mp hif).1
  have sb : ∀ f, Z.vm.isSubclassAux f cc tt = false := fun f => by
    match f with
    | 0 => rfl
    | 1 => simp [Vm.isSubclassAux, ne1, hk, hsup]
    | f + 2 => simp [Vm.isSubclassAux, ne1, ne2, hk, hsup, hko, hnone]
  refine ⟨cc, tt, hc, ht, ?_⟩
  show Z.vm.assignableAux (255 + 1) cc tt = false
  simp [Vm.assignableAux, ne1, hk, hkt, hkind, hkindt, hi, Vm.isSubclass, sb]
end Own
end Jvm.RoadKit
namespace Jvm.Pilot.@@N@@
open Jvm Jvm.ClassFile Sem Op Lib Jvm.Free Jvm.Stand Jvm.LawKit Jvm.RoadKit Bundle Jvm.Pilot.@@N@@.Jvm.D
theorem d5_0 : decode jdk_29_method_45_code 0 = .ok (.lload_n 0, 1) := by decide +kernel
theorem d5_1 : decode jdk_29_method_45_code 1 = .ok (.bipush 32, 2) := by decide +kernel
theorem d5_3 : decode jdk_29_method_45_code 3 = .ok (.lshr, 1) := by decide +kernel
theorem d5_4 : decode jdk_29_method_45_code 4 = .ok (.lstore 4, 2) := by decide +kernel
theorem d5_6 : decode jdk_29_method_45_code 6 = .ok (.lload_n 0, 1) := by decide +kernel
theorem d5_7 : decode jdk_29_method_45_code 7 = .ok (.ldc2_w 138, 3) := by decide +kernel
theorem d5_10 : decode jdk_29_method_45_code 10 = .ok (.land, 1) := by decide +kernel
theorem d5_11 : decode jdk_29_method_45_code 11 = .ok (.lstore 6, 2) := by decide +kernel
theorem d5_13 : decode jdk_29_method_45_code 13 = .ok (.lload_n 2, 1) := by decide +kernel
theorem d5_14 : decode jdk_29_method_45_code 14 = .ok (.bipush 32, 2) := by decide +kernel
theorem d5_16 : decode jdk_29_method_45_code 16 = .ok (.lshr, 1) := by decide +kernel
theorem d5_17 : decode jdk_29_method_45_code 17 = .ok (.lstore 8, 2) := by decide +kernel
theorem d5_19 : decode jdk_29_method_45_code 19 = .ok (.lload_n 2, 1) := by decide +kernel
theorem d5_20 : decode jdk_29_method_45_code 20 = .ok (.ldc2_w 138, 3) := by decide +kernel
theorem d5_23 : decode jdk_29_method_45_code 23 = .ok (.land, 1) := by decide +kernel
theorem d5_24 : decode jdk_29_method_45_code 24 = .ok (.lstore 10, 2) := by decide +kernel
theorem d5_26 : decode jdk_29_method_45_code 26 = .ok (.lload 6, 2) := by decide +kernel
theorem d5_28 : decode jdk_29_method_45_code 28 = .ok (.lload 10, 2) := by decide +kernel
theorem d5_30 : decode jdk_29_method_45_code 30 = .ok (.lmul, 1) := by decide +kernel
theorem d5_31 : decode jdk_29_method_45_code 31 = .ok (.lstore 12, 2) := by decide +kernel
theorem d5_33 : decode jdk_29_method_45_code 33 = .ok (.lload 4, 2) := by decide +kernel
theorem d5_35 : decode jdk_29_method_45_code 35 = .ok (.lload 10, 2) := by decide +kernel
theorem d5_37 : decode jdk_29_method_45_code 37 = .ok (.lmul, 1) := by decide +kernel
theorem d5_38 : decode jdk_29_method_45_code 38 = .ok (.lload 12, 2) := by decide +kernel
theorem d5_40 : decode jdk_29_method_45_code 40 = .ok (.bipush 32, 2) := by decide +kernel
theorem d5_42 : decode jdk_29_method_45_code 42 = .ok (.lushr, 1) := by decide +kernel
theorem d5_43 : decode jdk_29_method_45_code 43 = .ok (.ladd, 1) := by decide +kernel
theorem d5_44 : decode jdk_29_method_45_code 44 = .ok (.lstore 14, 2) := by decide +kernel
theorem d5_46 : decode jdk_29_method_45_code 46 = .ok (.lload 14, 2) := by decide +kernel
theorem d5_48 : decode jdk_29_method_45_code 48 = .ok (.ldc2_w 138, 3) := by decide +kernel
theorem d5_51 : decode jdk_29_method_45_code 51 = .ok (.land, 1) := by decide +kernel
theorem d5_52 : decode jdk_29_method_45_code 52 = .ok (.lstore 16, 2) := by decide +kernel
theorem d5_54 : decode jdk_29_method_45_code 54 = .ok (.lload 14, 2) := by decide +kernel
theorem d5_56 : decode jdk_29_method_45_code 56 = .ok (.bipush 32, 2) := by decide +kernel
theorem d5_58 : decode jdk_29_method_45_code 58 = .ok (.lshr, 1) := by decide +kernel
theorem d5_59 : decode jdk_29_method_45_code 59 = .ok (.lstore 18, 2) := by decide +kernel
theorem d5_61 : decode jdk_29_method_45_code 61 = .ok (.lload 16, 2) := by decide +kernel
theorem d5_63 : decode jdk_29_method_45_code 63 = .ok (.lload 6, 2) := by decide +kernel
theorem d5_65 : decode jdk_29_method_45_code 65 = .ok (.lload 8, 2) := by decide +kernel
theorem d5_67 : decode jdk_29_method_45_code 67 = .ok (.lmul, 1) := by decide +kernel
theorem d5_68 : decode jdk_29_method_45_code 68 = .ok (.ladd, 1) := by decide +kernel
theorem d5_69 : decode jdk_29_method_45_code 69 = .ok (.lstore 16, 2) := by decide +kernel
theorem d5_71 : decode jdk_29_method_45_code 71 = .ok (.lload 4, 2) := by decide +kernel
theorem d5_73 : decode jdk_29_method_45_code 73 = .ok (.lload 8, 2) := by decide +kernel
theorem d5_75 : decode jdk_29_method_45_code 75 = .ok (.lmul, 1) := by decide +kernel
theorem d5_76 : decode jdk_29_method_45_code 76 = .ok (.lload 18, 2) := by decide +kernel
theorem d5_78 : decode jdk_29_method_45_code 78 = .ok (.ladd, 1) := by decide +kernel
theorem d5_79 : decode jdk_29_method_45_code 79 = .ok (.lload 16, 2) := by decide +kernel
theorem d5_81 : decode jdk_29_method_45_code 81 = .ok (.bipush 32, 2) := by decide +kernel
theorem d5_83 : decode jdk_29_method_45_code 83 = .ok (.lshr, 1) := by decide +kernel
theorem d5_84 : decode jdk_29_method_45_code 84 = .ok (.ladd, 1) := by decide +kernel
theorem d5_85 : decode jdk_29_method_45_code 85 = .ok (.lreturn, 1) := by decide +kernel
abbrev RMrm5 : Room := { frames := 0, cells := 0, slots := 0, locals := 0 }
theorem ef_rm5 (m : MethodId) (q1 : Int64) (q2 : Int64) : entryFrame m #[(.long q1), (.long q2)] 20 = mkF m 0 #[.val (.long q1), .second, .val (.long q2), .second, .unset, .unset, .unset, .unset, .unset, .unset, .unset, .unset, .unset, .unset, .unset, .unset, .unset, .unset, .unset, .unset] [] := by first | (simp [entryFrame, mkF, argsToLocals, Value.category]; done) | rfl
def Qrm5 (Z : State)  (q1 : Int64) (q2 : Int64) (h0 : Heap) (v : Option Value) (h : Heap) (L : List Loc) : Prop := ∃ (r : Int64), v = some (.long r) ∧ Fr Z.heap.size L ∧ h = h0
set_option maxRecDepth 65536 in
set_option maxHeartbeats 40000000 in
theorem rm5 (l : Launch) (Z : State) (a0 : Array Value) (hw : ∀ d ∈ tables_1, d.before a0 Z = true)   (ws : List Jvm.Cond) (q1 : Int64) (q2 : Int64) (h0 : Heap) (O0 : Ext Z.heap h0) :
    MetFree l (⟨"java/lang/Math", "multiplyHigh", "(JJ)J"⟩ : MethodName) (head1 (Jvm.Cond.code (⟨"java/lang/Math", "multiplyHigh", "(JJ)J"⟩ : MethodName) jdk_29_method_45_code 20 (some .long) :: ws) RMrm5) (fun a U => a = #[(.long q1), (.long q2)] ∧ Z.Warmed39 U.vm ∧ U.heap = h0) (fun _ _ _ _ _ => True) (fun _ U o U' => ∃ v L, o = .returned v ∧ Qrm5 Z q1 q2 h0 v U'.heap L ∧ FrameEnd U o U' L RMrm5.cells RMrm5.slots) := by
  refine MetFree.of_bodySF (Jvm.Free.JP.mathPlain rfl (by decide +kernel)) hisR ?_
  intro p e s m args below meth c s₁ Bd hml0 hP hK
  obtain ⟨rfl, hZ, hh⟩ := hP
  have hx := Bd.exec
  have hby := Bd.bytes
  have hlk : meth.locks = false := BodyLoose.notSynchronized Bd
  have hret := Bd.returns
  have hml : c.maxLocals = 20 := hml0
  have hown : s.vm.findClass "java/lang/Math" = some m.cls := findClass_of_methodNamed Bd.named
  have hnm := (name_of_methodNamed Bd.named Bd.method).1
  have X0 : Stand p l e RMrm5 s m #[(.long q1), (.long q2)] below meth c s₁ [] 0 0 := Stand.of_body Bd
  have e0 : s₁.heap = h0 := by rw [← hh, Bd.state]; rfl
  have N0 := Fr.nil Z.heap.size
  show OEnd p e below (GN s (Qrm5 Z q1 q2 h0) RMrm5.cells RMrm5.slots) _
  refine OEnd.of (fun t k => castTop (ef_rm5 m q1 q2) k) ?_
  refine OEnd.of (fun t k => XS.lloadN X0.here hx rfl (hb hby d5_0) rfl k) ?_
  show OEnd p e below _ (s₁.setTop (mkF m 1 #[.val (.long q1), .second, .val (.long q2), .second, .unset, .unset, .unset, .unset, .unset, .unset, .unset, .unset, .unset, .unset, .unset, .unset, .unset, .unset, .unset, .unset] [(.long q1)]))
  refine OEnd.of (fun t k => XS.bipush X0.here hx rfl (hb hby d5_1) k) ?_
  show OEnd p e below _ (s₁.setTop (mkF m 3 #[.val (.long q1), .second, .val (.long q2), .second, .unset, .unset, .unset, .unset, .unset, .unset, .unset, .unset, .unset, .unset, .unset, .unset, .unset, .unset, .unset, .unset] [(.int (32 : Int32)), (.long q1)]))
  refine OEnd.of (fun t k => XS.lshr X0.here hx rfl (hb hby d5_3) rfl k) ?_
  show OEnd p e below _ (s₁.setTop (mkF m 4 #[.val (.long q1), .second, .val (.long q2), .second, .unset, .unset, .unset, .unset, .unset, .unset, .unset, .unset, .unset, .unset, .unset, .unset, .unset, .unset, .unset, .unset] [(.long (q1 >>> ((32 : Int32) &&& 0x3f).toInt64))]))
  generalize q_y1 : (q1 >>> ((32 : Int32) &&& 0x3f).toInt64) = y1
  refine OEnd.of (fun t k => XS.lstore X0.here hx rfl (hb hby d5_4) rfl (l' := #[.val (.long q1), .second, .val (.long q2), .second, .val (.long y1), .second, .unset, .unset, .unset, .unset, .unset, .unset, .unset, .unset, .unset, .unset, .unset, .unset, .unset, .unset]) rfl k) ?_
  show OEnd p e below _ (s₁.setTop (mkF m 6 #[.val (.long q1), .second, .val (.long q2), .second, .val (.long y1), .second, .unset, .unset, .unset, .unset, .unset, .unset, .unset, .unset, .unset, .unset, .unset, .unset, .unset, .unset] []))
  refine OEnd.of (fun t k => XS.lloadN X0.here hx rfl (hb hby d5_6) rfl k) ?_
  show OEnd p e below _ (s₁.setTop (mkF m 7 #[.val (.long q1), .second, .val (.long q2), .second, .val (.long y1), .second, .unset, .unset, .unset, .unset, .unset, .unset, .unset, .unset, .unset, .unset, .unset, .unset, .unset, .unset] [(.long q1)]))
  refine OEnd.of (X0.ldc2Long hx hown (mvT hZ (hw _ (List.mem_of_getElem? (i := 34) rfl))) (g := (mkF m 7 #[.val (.long q1), .second, .val (.long q2), .second, .val (.long y1), .second, .unset, .unset, .unset, .unset, .unset, .unset, .unset, .unset, .unset, .unset, .unset, .unset, .unset, .unset] [(.long q1)])) rfl (hb hby d5_7)) ?_
  show OEnd p e below _ (s₁.setTop (mkF m 10 #[.val (.long q1), .second, .val (.long q2), .second, .val (.long y1), .second, .unset, .unset, .unset, .unset, .unset, .unset, .unset, .unset, .unset, .unset, .unset, .unset, .unset, .unset] [(.long (4294967295 : Int64)), (.long q1)]))
  refine OEnd.of (fun t k => XS.land X0.here hx rfl (hb hby d5_10) rfl k) ?_
  show OEnd p e below _ (s₁.setTop (mkF m 11 #[.val (.long q1), .second, .val (.long q2), .second, .val (.long y1), .second, .unset, .unset, .unset, .unset, .unset, .unset, .unset, .unset, .unset, .unset, .unset, .unset, .unset, .unset] [(.long (q1 &&& (4294967295 : Int64)))]))
  generalize q_y2 : (q1 &&& (4294967295 : Int64)) = y2
  refine OEnd.of (fun t k => XS.lstore X0.here hx rfl (hb hby d5_11) rfl (l' := #[.val (.long q1), .second, .val (.long q2), .second, .val (.long y1), .second, .val (.long y2), .second, .unset, .unset, .unset, .unset, .unset, .unset, .unset, .unset, .unset, .unset, .unset, .unset]) rfl k) ?_
  show OEnd p e below _ (s₁.setTop (mkF m 13 #[.val (.long q1), .second, .val (.long q2), .second, .val (.long y1), .second, .val (.long y2), .second, .unset, .unset, .unset, .unset, .unset, .unset, .unset, .unset, .unset, .unset, .unset, .unset] []))
  refine OEnd.of (fun t k => XS.lloadN X0.here hx rfl (hb hby d5_13) rfl k) ?_
  show OEnd p e below _ (s₁.setTop (mkF m 14 #[.val (.long q1), .second, .val (.long q2), .second, .val (.long y1), .second, .val (.long y2), .second, .unset, .unset, .unset, .unset, .unset, .unset, .unset, .unset, .unset, .unset, .unset, .unset] [(.long q2)]))
  refine OEnd.of (fun t k => XS.bipush X0.here hx rfl (hb hby d5_14) k) ?_
  show OEnd p e below _ (s₁.setTop (mkF m 16 #[.val (.long q1), .second, .val (.long q2), .second, .val (.long y1), .second, .val (.long y2), .second, .unset, .unset, .unset, .unset, .unset, .unset, .unset, .unset, .unset, .unset, .unset, .unset] [(.int (32 : Int32)), (.long q2)]))
  refine OEnd.of (fun t k => XS.lshr X0.here hx rfl (hb hby d5_16) rfl k) ?_
  show OEnd p e below _ (s₁.setTop (mkF m 17 #[.val (.long q1), .second, .val (.long q2), .second, .val (.long y1), .second, .val (.long y2), .second, .unset, .unset, .unset, .unset, .unset, .unset, .unset, .unset, .unset, .unset, .unset, .unset] [(.long (q2 >>> ((32 : Int32) &&& 0x3f).toInt64))]))
  generalize q_y3 : (q2 >>> ((32 : Int32) &&& 0x3f).toInt64) = y3
  refine OEnd.of (fun t k => XS.lstore X0.here hx rfl (hb hby d5_17) rfl (l' := #[.val (.long q1), .second, .val (.long q2), .second, .val (.long y1), .second, .val (.long y2), .second, .val (.long y3), .second, .unset, .unset, .unset, .unset, .unset, .unset, .unset, .unset, .unset, .unset]) rfl k) ?_
  show OEnd p e below _ (s₁.setTop (mkF m 19 #[.val (.long q1), .second, .val (.long q2), .second, .val (.long y1), .second, .val (.long y2), .second, .val (.long y3), .second, .unset, .unset, .unset, .unset, .unset, .unset, .unset, .unset, .unset, .unset] []))
  refine OEnd.of (fun t k => XS.lloadN X0.here hx rfl (hb hby d5_19) rfl k) ?_
  show OEnd p e below _ (s₁.setTop (mkF m 20 #[.val (.long q1), .second, .val (.long q2), .second, .val (.long y1), .second, .val (.long y2), .second, .val (.long y3), .second, .unset, .unset, .unset, .unset, .unset, .unset, .unset, .unset, .unset, .unset] [(.long q2)]))
  refine OEnd.of (X0.ldc2Long hx hown (mvT hZ (hw _ (List.mem_of_getElem? (i := 34) rfl))) (g := (mkF m 20 #[.val (.long q1), .second, .val (.long q2), .second, .val (.long y1), .second, .val (.long y2), .second, .val (.long y3), .second, .unset, .unset, .unset, .unset, .unset, .unset, .unset, .unset, .unset, .unset] [(.long q2)])) rfl (hb hby d5_20)) ?_
  show OEnd p e below _ (s₁.setTop (mkF m 23 #[.val (.long q1), .second, .val (.long q2), .second, .val (.long y1), .second, .val (.long y2), .second, .val (.long y3), .second, .unset, .unset, .unset, .unset, .unset, .unset, .unset, .unset, .unset, .unset] [(.long (4294967295 : Int64)), (.long q2)]))
  refine OEnd.of (fun t k => XS.land X0.here hx rfl (hb hby d5_23) rfl k) ?_
  show OEnd p e below _ (s₁.setTop (mkF m 24 #[.val (.long q1), .second, .val (.long q2), .second, .val (.long y1), .second, .val (.long y2), .second, .val (.long y3), .second, .unset, .unset, .unset, .unset, .unset, .unset, .unset, .unset, .unset, .unset] [(.long (q2 &&& (4294967295 : Int64)))]))
  generalize q_y4 : (q2 &&& (4294967295 : Int64)) = y4
  refine OEnd.of (fun t k => XS.lstore X0.here hx rfl (hb hby d5_24) rfl (l' := #[.val (.long q1), .second, .val (.long q2), .second, .val (.long y1), .second, .val (.long y2), .second, .val (.long y3), .second, .val (.long y4), .second, .unset, .unset, .unset, .unset, .unset, .unset, .unset, .unset]) rfl k) ?_
  show OEnd p e below _ (s₁.setTop (mkF m 26 #[.val (.long q1), .second, .val (.long q2), .second, .val (.long y1), .second, .val (.long y2), .second, .val (.long y3), .second, .val (.long y4), .second, .unset, .unset, .unset, .unset, .unset, .unset, .unset, .unset] []))
  refine OEnd.of (fun t k => XS.lload X0.here hx rfl (hb hby d5_26) rfl k) ?_
  show OEnd p e below _ (s₁.setTop (mkF m 28 #[.val (.long q1), .second, .val (.long q2), .second, .val (.long y1), .second, .val (.long y2), .second, .val (.long y3), .second, .val (.long y4), .second, .unset, .unset, .unset, .unset, .unset, .unset, .unset, .unset] [(.long y2)]))
  refine OEnd.of (fun t k => XS.lload X0.here hx rfl (hb hby d5_28) rfl k) ?_
  show OEnd p e below _ (s₁.setTop (mkF m 30 #[.val (.long q1), .second, .val (.long q2), .second, .val (.long y1), .second, .val (.long y2), .second, .val (.long y3), .second, .val (.long y4), .second, .unset, .unset, .unset, .unset, .unset, .unset, .unset, .unset] [(.long y4), (.long y2)]))
  refine OEnd.of (fun t k => XS.lmul X0.here hx rfl (hb hby d5_30) rfl k) ?_
  show OEnd p e below _ (s₁.setTop (mkF m 31 #[.val (.long q1), .second, .val (.long q2), .second, .val (.long y1), .second, .val (.long y2), .second, .val (.long y3), .second, .val (.long y4), .second, .unset, .unset, .unset, .unset, .unset, .unset, .unset, .unset] [(.long (y2 * y4))]))
  generalize q_y5 : (y2 * y4) = y5
  refine OEnd.of (fun t k => XS.lstore X0.here hx rfl (hb hby d5_31) rfl (l' := #[.val (.long q1), .second, .val (.long q2), .second, .val (.long y1), .second, .val (.long y2), .second, .val (.long y3), .second, .val (.long y4), .second, .val (.long y5), .second, .unset, .unset, .unset, .unset, .unset, .unset]) rfl k) ?_
  show OEnd p e below _ (s₁.setTop (mkF m 33 #[.val (.long q1), .second, .val (.long q2), .second, .val (.long y1), .second, .val (.long y2), .second, .val (.long y3), .second, .val (.long y4), .second, .val (.long y5), .second, .unset, .unset, .unset, .unset, .unset, .unset] []))
  refine OEnd.of (fun t k => XS.lload X0.here hx rfl (hb hby d5_33) rfl k) ?_
  show OEnd p e below _ (s₁.setTop (mkF m 35 #[.val (.long q1), .second, .val (.long q2), .second, .val (.long y1), .second, .val (.long y2), .second, .val (.long y3), .second, .val (.long y4), .second, .val (.long y5), .second, .unset, .unset, .unset, .unset, .unset, .unset] [(.long y1)]))
  refine OEnd.of (fun t k => XS.lload X0.here hx rfl (hb hby d5_35) rfl k) ?_
  show OEnd p e below _ (s₁.setTop (mkF m 37 #[.val (.long q1), .second, .val (.long q2), .second, .val (.long y1), .second, .val (.long y2), .second, .val (.long y3), .second, .val (.long y4), .second, .val (.long y5), .second, .unset, .unset, .unset, .unset, .unset, .unset] [(.long y4), (.long y1)]))
  refine OEnd.of (fun t k => XS.lmul X0.here hx rfl (hb hby d5_37) rfl k) ?_
  show OEnd p e below _ (s₁.setTop (mkF m 38 #[.val (.long q1), .second, .val (.long q2), .second, .val (.long y1), .second, .val (.long y2), .second, .val (.long y3), .second, .val (.long y4), .second, .val (.long y5), .second, .unset, .unset, .unset, .unset, .unset, .unset] [(.long (y1 * y4))]))
  refine OEnd.of (fun t k => XS.lload X0.here hx rfl (hb hby d5_38) rfl k) ?_
  show OEnd p e below _ (s₁.setTop (mkF m 40 #[.val (.long q1), .second, .val (.long q2), .second, .val (.long y1), .second, .val (.long y2), .second, .val (.long y3), .second, .val (.long y4), .second, .val (.long y5), .second, .unset, .unset, .unset, .unset, .unset, .unset] [(.long y5), (.long (y1 * y4))]))
  refine OEnd.of (fun t k => XS.bipush X0.here hx rfl (hb hby d5_40) k) ?_
  show OEnd p e below _ (s₁.setTop (mkF m 42 #[.val (.long q1), .second, .val (.long q2), .second, .val (.long y1), .second, .val (.long y2), .second, .val (.long y3), .second, .val (.long y4), .second, .val (.long y5), .second, .unset, .unset, .unset, .unset, .unset, .unset] [(.int (32 : Int32)), (.long y5), (.long (y1 * y4))]))
  refine OEnd.of (fun t k => XS.lushr X0.here hx rfl (hb hby d5_42) rfl k) ?_
  show OEnd p e below _ (s₁.setTop (mkF m 43 #[.val (.long q1), .second, .val (.long q2), .second, .val (.long y1), .second, .val (.long y2), .second, .val (.long y3), .second, .val (.long y4), .second, .val (.long y5), .second, .unset, .unset, .unset, .unset, .unset, .unset] [(.long ((y5.toUInt64 >>> ((32 : Int32) &&& 0x3f).toInt64.toUInt64).toInt64)), (.long (y1 * y4))]))
  refine OEnd.of (fun t k => XS.ladd X0.here hx rfl (hb hby d5_43) rfl k) ?_
  show OEnd p e below _ (s₁.setTop (mkF m 44 #[.val (.long q1), .second, .val (.long q2), .second, .val (.long y1), .second, .val (.long y2), .second, .val (.long y3), .second, .val (.long y4), .second, .val (.long y5), .second, .unset, .unset, .unset, .unset, .unset, .unset] [(.long ((y1 * y4) + ((y5.toUInt64 >>> ((32 : Int32) &&& 0x3f).toInt64.toUInt64).toInt64)))]))
  generalize q_y6 : ((y1 * y4) + ((y5.toUInt64 >>> ((32 : Int32) &&& 0x3f).toInt64.toUInt64).toInt64)) = y6
  refine OEnd.of (fun t k => XS.lstore X0.here hx rfl (hb hby d5_44) rfl (l' := #[.val (.long q1), .second, .val (.long q2), .second, .val (.long y1), .second, .val (.long y2), .second, .val (.long y3), .second, .val (.long y4), .second, .val (.long y5), .second, .val (.long y6), .second, .unset, .unset, .unset, .unset]) rfl k) ?_
  show OEnd p e below _ (s₁.setTop (mkF m 46 #[.val (.long q1), .second, .val (.long q2), .second, .val (.long y1), .second, .val (.long y2), .second, .val (.long y3), .second, .val (.long y4), .second, .val (.long y5), .second, .val (.long y6), .second, .unset, .unset, .unset, .unset] []))
  refine OEnd.of (fun t k => XS.lload X0.here hx rfl (hb hby d5_46) rfl k) ?_
  show OEnd p e below _ (s₁.setTop (mkF m 48 #[.val (.long q1), .second, .val (.long q2), .second, .val (.long y1), .second, .val (.long y2), .second, .val (.long y3), .second, .val (.long y4), .second, .val (.long y5), .second, .val (.long y6), .second, .unset, .unset, .unset, .unset] [(.long y6)]))
  refine OEnd.of (X0.ldc2Long hx hown (mvT hZ (hw _ (List.mem_of_getElem? (i := 34) rfl))) (g := (mkF m 48 #[.val (.long q1), .second, .val (.long q2), .second, .val (.long y1), .second, .val (.long y2), .second, .val (.long y3), .second, .val (.long y4), .second, .val (.long y5), .second, .val (.long y6), .second, .unset, .unset, .unset, .unset] [(.long y6)])) rfl (hb hby d5_48)) ?_
  show OEnd p e below _ (s₁.setTop (mkF m 51 #[.val (.long q1), .second, .val (.long q2), .second, .val (.long y1), .second, .val (.long y2), .second, .val (.long y3), .second, .val (.long y4), .second, .val (.long y5), .second, .val (.long y6), .second, .unset, .unset, .unset, .unset] [(.long (4294967295 : Int64)), (.long y6)]))
  refine OEnd.of (fun t k => XS.land X0.here hx rfl (hb hby d5_51) rfl k) ?_
  show OEnd p e below _ (s₁.setTop (mkF m 52 #[.val (.long q1), .second, .val (.long q2), .second, .val (.long y1), .second, .val (.long y2), .second, .val (.long y3), .second, .val (.long y4), .second, .val (.long y5), .second, .val (.long y6), .second, .unset, .unset, .unset, .unset] [(.long (y6 &&& (4294967295 : Int64)))]))
  generalize q_y7 : (y6 &&& (4294967295 : Int64)) = y7
  refine OEnd.of (fun t k => XS.lstore X0.here hx rfl (hb hby d5_52) rfl (l' := #[.val (.long q1), .second, .val (.long q2), .second, .val (.long y1), .second, .val (.long y2), .second, .val (.long y3), .second, .val (.long y4), .second, .val (.long y5), .second, .val (.long y6), .second, .val (.long y7), .second, .unset, .unset]) rfl k) ?_
  show OEnd p e below _ (s₁.setTop (mkF m 54 #[.val (.long q1), .second, .val (.long q2), .second, .val (.long y1), .second, .val (.long y2), .second, .val (.long y3), .second, .val (.long y4), .second, .val (.long y5), .second, .val (.long y6), .second, .val (.long y7), .second, .unset, .unset] []))
  refine OEnd.of (fun t k => XS.lload X0.here hx rfl (hb hby d5_54) rfl k) ?_
  show OEnd p e below _ (s₁.setTop (mkF m 56 #[.val (.long q1), .second, .val (.long q2), .second, .val (.long y1), .second, .val (.long y2), .second, .val (.long y3), .second, .val (.long y4), .second, .val (.long y5), .second, .val (.long y6), .second, .val (.long y7), .second, .unset, .unset] [(.long y6)]))
  refine OEnd.of (fun t k => XS.bipush X0.here hx rfl (hb hby d5_56) k) ?_
  show OEnd p e below _ (s₁.setTop (mkF m 58 #[.val (.long q1), .second, .val (.long q2), .second, .val (.long y1), .second, .val (.long y2), .second, .val (.long y3), .second, .val (.long y4), .second, .val (.long y5), .second, .val (.long y6), .second, .val (.long y7), .second, .unset, .unset] [(.int (32 : Int32)), (.long y6)]))
  refine OEnd.of (fun t k => XS.lshr X0.here hx rfl (hb hby d5_58) rfl k) ?_
  show OEnd p e below _ (s₁.setTop (mkF m 59 #[.val (.long q1), .second, .val (.long q2), .second, .val (.long y1), .second, .val (.long y2), .second, .val (.long y3), .second, .val (.long y4), .second, .val (.long y5), .second, .val (.long y6), .second, .val (.long y7), .second, .unset, .unset] [(.long (y6 >>> ((32 : Int32) &&& 0x3f).toInt64))]))
  generalize q_y8 : (y6 >>> ((32 : Int32) &&& 0x3f).toInt64) = y8
  refine OEnd.of (fun t k => XS.lstore X0.here hx rfl (hb hby d5_59) rfl (l' := #[.val (.long q1), .second, .val (.long q2), .second, .val (.long y1), .second, .val (.long y2), .second, .val (.long y3), .second, .val (.long y4), .second, .val (.long y5), .second, .val (.long y6), .second, .val (.long y7), .second, .val (.long y8), .second]) rfl k) ?_
  show OEnd p e below _ (s₁.setTop (mkF m 61 #[.val (.long q1), .second, .val (.long q2), .second, .val (.long y1), .second, .val (.long y2), .second, .val (.long y3), .second, .val (.long y4), .second, .val (.long y5), .second, .val (.long y6), .second, .val (.long y7), .second, .val (.long y8), .second] []))
  refine OEnd.of (fun t k => XS.lload X0.here hx rfl (hb hby d5_61) rfl k) ?_
  show OEnd p e below _ (s₁.setTop (mkF m 63 #[.val (.long q1), .second, .val (.long q2), .second, .val (.long y1), .second, .val (.long y2), .second, .val (.long y3), .second, .val (.long y4), .second, .val (.long y5), .second, .val (.long y6), .second, .val (.long y7), .second, .val (.long y8), .second] [(.long y7)]))
  refine OEnd.of (fun t k => XS.lload X0.here hx rfl (hb hby d5_63) rfl k) ?_
  show OEnd p e below _ (s₁.setTop (mkF m 65 #[.val (.long q1), .second, .val (.long q2), .second, .val (.long y1), .second, .val (.long y2), .second, .val (.long y3), .second, .val (.long y4), .second, .val (.long y5), .second, .val (.long y6), .second, .val (.long y7), .second, .val (.long y8), .second] [(.long y2), (.long y7)]))
  refine OEnd.of (fun t k => XS.lload X0.here hx rfl (hb hby d5_65) rfl k) ?_
  show OEnd p e below _ (s₁.setTop (mkF m 67 #[.val (.long q1), .second, .val (.long q2), .second, .val (.long y1), .second, .val (.long y2), .second, .val (.long y3), .second, .val (.long y4), .second, .val (.long y5), .second, .val (.long y6), .second, .val (.long y7), .second, .val (.long y8), .second] [(.long y3), (.long y2), (.long y7)]))
  refine OEnd.of (fun t k => XS.lmul X0.here hx rfl (hb hby d5_67) rfl k) ?_
  show OEnd p e below _ (s₁.setTop (mkF m 68 #[.val (.long q1), .second, .val (.long q2), .second, .val (.long y1), .second, .val (.long y2), .second, .val (.long y3), .second, .val (.long y4), .second, .val (.long y5), .second, .val (.long y6), .second, .val (.long y7), .second, .val (.long y8), .second] [(.long (y2 * y3)), (.long y7)]))
  refine OEnd.of (fun t k => XS.ladd X0.here hx rfl (hb hby d5_68) rfl k) ?_
  show OEnd p e below _ (s₁.setTop (mkF m 69 #[.val (.long q1), .second, .val (.long q2), .second, .val (.long y1), .second, .val (.long y2), .second, .val (.long y3), .second, .val (.long y4), .second, .val (.long y5), .second, .val (.long y6), .second, .val (.long y7), .second, .val (.long y8), .second] [(.long (y7 + (y2 * y3)))]))
  generalize q_y9 : (y7 + (y2 * y3)) = y9
  refine OEnd.of (fun t k => XS.lstore X0.here hx rfl (hb hby d5_69) rfl (l' := #[.val (.long q1), .second, .val (.long q2), .second, .val (.long y1), .second, .val (.long y2), .second, .val (.long y3), .second, .val (.long y4), .second, .val (.long y5), .second, .val (.long y6), .second, .val (.long y9), .second, .val (.long y8), .second]) rfl k) ?_
  show OEnd p e below _ (s₁.setTop (mkF m 71 #[.val (.long q1), .second, .val (.long q2), .second, .val (.long y1), .second, .val (.long y2), .second, .val (.long y3), .second, .val (.long y4), .second, .val (.long y5), .second, .val (.long y6), .second, .val (.long y9), .second, .val (.long y8), .second] []))
  refine OEnd.of (fun t k => XS.lload X0.here hx rfl (hb hby d5_71) rfl k) ?_
  show OEnd p e below _ (s₁.setTop (mkF m 73 #[.val (.long q1), .second, .val (.long q2), .second, .val (.long y1), .second, .val (.long y2), .second, .val (.long y3), .second, .val (.long y4), .second, .val (.long y5), .second, .val (.long y6), .second, .val (.long y9), .second, .val (.long y8), .second] [(.long y1)]))
  refine OEnd.of (fun t k => XS.lload X0.here hx rfl (hb hby d5_73) rfl k) ?_
  show OEnd p e below _ (s₁.setTop (mkF m 75 #[.val (.long q1), .second, .val (.long q2), .second, .val (.long y1), .second, .val (.long y2), .second, .val (.long y3), .second, .val (.long y4), .second, .val (.long y5), .second, .val (.long y6), .second, .val (.long y9), .second, .val (.long y8), .second] [(.long y3), (.long y1)]))
  refine OEnd.of (fun t k => XS.lmul X0.here hx rfl (hb hby d5_75) rfl k) ?_
  show OEnd p e below _ (s₁.setTop (mkF m 76 #[.val (.long q1), .second, .val (.long q2), .second, .val (.long y1), .second, .val (.long y2), .second, .val (.long y3), .second, .val (.long y4), .second, .val (.long y5), .second, .val (.long y6), .second, .val (.long y9), .second, .val (.long y8), .second] [(.long (y1 * y3))]))
  refine OEnd.of (fun t k => XS.lload X0.here hx rfl (hb hby d5_76) rfl k) ?_
  show OEnd p e below _ (s₁.setTop (mkF m 78 #[.val (.long q1), .second, .val (.long q2), .second, .val (.long y1), .second, .val (.long y2), .second, .val (.long y3), .second, .val (.long y4), .second, .val (.long y5), .second, .val (.long y6), .second, .val (.long y9), .second, .val (.long y8), .second] [(.long y8), (.long (y1 * y3))]))
  refine OEnd.of (fun t k => XS.ladd X0.here hx rfl (hb hby d5_78) rfl k) ?_
  show OEnd p e below _ (s₁.setTop (mkF m 79 #[.val (.long q1), .second, .val (.long q2), .second, .val (.long y1), .second, .val (.long y2), .second, .val (.long y3), .second, .val (.long y4), .second, .val (.long y5), .second, .val (.long y6), .second, .val (.long y9), .second, .val (.long y8), .second] [(.long ((y1 * y3) + y8))]))
  refine OEnd.of (fun t k => XS.lload X0.here hx rfl (hb hby d5_79) rfl k) ?_
  show OEnd p e below _ (s₁.setTop (mkF m 81 #[.val (.long q1), .second, .val (.long q2), .second, .val (.long y1), .second, .val (.long y2), .second, .val (.long y3), .second, .val (.long y4), .second, .val (.long y5), .second, .val (.long y6), .second, .val (.long y9), .second, .val (.long y8), .second] [(.long y9), (.long ((y1 * y3) + y8))]))
  refine OEnd.of (fun t k => XS.bipush X0.here hx rfl (hb hby d5_81) k) ?_
  show OEnd p e below _ (s₁.setTop (mkF m 83 #[.val (.long q1), .second, .val (.long q2), .second, .val (.long y1), .second, .val (.long y2), .second, .val (.long y3), .second, .val (.long y4), .second, .val (.long y5), .second, .val (.long y6), .second, .val (.long y9), .second, .val (.long y8), .second] [(.int (32 : Int32)), (.long y9), (.long ((y1 * y3) + y8))]))
  refine OEnd.of (fun t k => XS.lshr X0.here hx rfl (hb hby d5_83) rfl k) ?_
  show OEnd p e below _ (s₁.setTop (mkF m 84 #[.val (.long q1), .second, .val (.long q2), .second, .val (.long y1), .second, .val (.long y2), .second, .val (.long y3), .second, .val (.long y4), .second, .val (.long y5), .second, .val (.long y6), .second, .val (.long y9), .second, .val (.long y8), .second] [(.long (y9 >>> ((32 : Int32) &&& 0x3f).toInt64)), (.long ((y1 * y3) + y8))]))
  refine OEnd.of (fun t k => XS.ladd X0.here hx rfl (hb hby d5_84) rfl k) ?_
  show OEnd p e below _ (s₁.setTop (mkF m 85 #[.val (.long q1), .second, .val (.long q2), .second, .val (.long y1), .second, .val (.long y2), .second, .val (.long y3), .second, .val (.long y4), .second, .val (.long y5), .second, .val (.long y6), .second, .val (.long y9), .second, .val (.long y8), .second] [(.long (((y1 * y3) + y8) + (y9 >>> ((32 : Int32) &&& 0x3f).toInt64)))]))
  exact OEnd.retJ X0 hx hlk e0 hret (hb hby d5_85) ⟨_, rfl, N0, rfl⟩ (by decide) (by decide)
theorem d7_0 : decode jdk_33_method_47_code 0 = .ok (.iload_n 0, 1) := by decide +kernel
theorem d7_1 : decode jdk_33_method_47_code 1 = .ok (.ifCond .gt 14, 3) := by decide +kernel
theorem d7_4 : decode jdk_33_method_47_code 4 = .ok (.iload_n 0, 1) := by decide +kernel
theorem d7_5 : decode jdk_33_method_47_code 5 = .ok (.ifCond .ne 8, 3) := by decide +kernel
theorem d7_8 : decode jdk_33_method_47_code 8 = .ok (.bipush 32, 2) := by decide +kernel
theorem d7_10 : decode jdk_33_method_47_code 10 = .ok (.goto 4, 3) := by decide +kernel
theorem d7_13 : decode jdk_33_method_47_code 13 = .ok (.iconst 0, 1) := by decide +kernel
theorem d7_14 : decode jdk_33_method_47_code 14 = .ok (.ireturn, 1) := by decide +kernel
theorem d7_15 : decode jdk_33_method_47_code 15 = .ok (.bipush 31, 2) := by decide +kernel
theorem d7_17 : decode jdk_33_method_47_code 17 = .ok (.istore_n 1, 1) := by decide +kernel
theorem d7_18 : decode jdk_33_method_47_code 18 = .ok (.iload_n 0, 1) := by decide +kernel
theorem d7_19 : decode jdk_33_method_47_code 19 = .ok (.ldc_w 264, 3) := by decide +kernel
theorem d7_22 : decode jdk_33_method_47_code 22 = .ok (.if_icmp .lt 11, 3) := by decide +kernel
theorem d7_25 : decode jdk_33_method_47_code 25 = .ok (.iinc 1 (-16), 3) := by decide +kernel
theorem d7_28 : decode jdk_33_method_47_code 28 = .ok (.iload_n 0, 1) := by decide +kernel
theorem d7_29 : decode jdk_33_method_47_code 29 = .ok (.bipush 16, 2) := by decide +kernel
theorem d7_31 : decode jdk_33_method_47_code 31 = .ok (.iushr, 1) := by decide +kernel
theorem d7_32 : decode jdk_33_method_47_code 32 = .ok (.istore_n 0, 1) := by decide +kernel
theorem d7_33 : decode jdk_33_method_47_code 33 = .ok (.iload_n 0, 1) := by decide +kernel
theorem d7_34 : decode jdk_33_method_47_code 34 = .ok (.sipush 256, 3) := by decide +kernel
theorem d7_37 : decode jdk_33_method_47_code 37 = .ok (.if_icmp .lt 11, 3) := by decide +kernel
theorem d7_40 : decode jdk_33_method_47_code 40 = .ok (.iinc 1 (-8), 3) := by decide +kernel
theorem d7_43 : decode jdk_33_method_47_code 43 = .ok (.iload_n 0, 1) := by decide +kernel
theorem d7_44 : decode jdk_33_method_47_code 44 = .ok (.bipush 8, 2) := by decide +kernel
theorem d7_46 : decode jdk_33_method_47_code 46 = .ok (.iushr, 1) := by decide +kernel
theorem d7_47 : decode jdk_33_method_47_code 47 = .ok (.istore_n 0, 1) := by decide +kernel
theorem d7_48 : decode jdk_33_method_47_code 48 = .ok (.iload_n 0, 1) := by decide +kernel
theorem d7_49 : decode jdk_33_method_47_code 49 = .ok (.bipush 16, 2) := by decide +kernel
theorem d7_51 : decode jdk_33_method_47_code 51 = .ok (.if_icmp .lt 10, 3) := by decide +kernel
theorem d7_54 : decode jdk_33_method_47_code 54 = .ok (.iinc 1 (-4), 3) := by decide +kernel
theorem d7_57 : decode jdk_33_method_47_code 57 = .ok (.iload_n 0, 1) := by decide +kernel
theorem d7_58 : decode jdk_33_method_47_code 58 = .ok (.iconst 4, 1) := by decide +kernel
theorem d7_59 : decode jdk_33_method_47_code 59 = .ok (.iushr, 1) := by decide +kernel
theorem d7_60 : decode jdk_33_method_47_code 60 = .ok (.istore_n 0, 1) := by decide +kernel
theorem d7_61 : decode jdk_33_method_47_code 61 = .ok (.iload_n 0, 1) := by decide +kernel
theorem d7_62 : decode jdk_33_method_47_code 62 = .ok (.iconst 4, 1) := by decide +kernel
theorem d7_63 : decode jdk_33_method_47_code 63 = .ok (.if_icmp .lt 10, 3) := by decide +kernel
theorem d7_66 : decode jdk_33_method_47_code 66 = .ok (.iinc 1 (-2), 3) := by decide +kernel
theorem d7_69 : decode jdk_33_method_47_code 69 = .ok (.iload_n 0, 1) := by decide +kernel
theorem d7_70 : decode jdk_33_method_47_code 70 = .ok (.iconst 2, 1) := by decide +kernel
theorem d7_71 : decode jdk_33_method_47_code 71 = .ok (.iushr, 1) := by decide +kernel
theorem d7_72 : decode jdk_33_method_47_code 72 = .ok (.istore_n 0, 1) := by decide +kernel
theorem d7_73 : decode jdk_33_method_47_code 73 = .ok (.iload_n 1, 1) := by decide +kernel
theorem d7_74 : decode jdk_33_method_47_code 74 = .ok (.iload_n 0, 1) := by decide +kernel
theorem d7_75 : decode jdk_33_method_47_code 75 = .ok (.iconst 1, 1) := by decide +kernel
theorem d7_76 : decode jdk_33_method_47_code 76 = .ok (.iushr, 1) := by decide +kernel
theorem d7_77 : decode jdk_33_method_47_code 77 = .ok (.isub, 1) := by decide +kernel
theorem d7_78 : decode jdk_33_method_47_code 78 = .ok (.ireturn, 1) := by decide +kernel
theorem pn_java_lang_Integer : plainName "java/lang/Integer" = true := by first | (simp [plainName, overriddenIn]; done) | decide +kernel
abbrev RMrm7 : Room := { frames := 0, cells := 0, slots := 0, locals := 0 }
theorem ef_rm7 (m : MethodId) (p1 : Int32) : entryFrame m #[(.int p1)] 2 = mkF m 0 #[.val (.int p1), .unset] [] := by first | (simp [entryFrame, mkF, argsToLocals, Value.category]; done) | rfl
def Qrm7 (Z : State)  (p1 : Int32) (h0 : Heap) (v : Option Value) (h : Heap) (L : List Loc) : Prop := ∃ (r : Int32), v = some (.int r) ∧ Fr Z.heap.size L ∧ h = h0
set_option maxRecDepth 65536 in
set_option maxHeartbeats 40000000 in
theorem rm7 (l : Launch) (Z : State) (a0 : Array Value) (hw : ∀ d ∈ tables_1, d.before a0 Z = true)   (ws : List Jvm.Cond) (p1 : Int32) (h0 : Heap) (O0 : Ext Z.heap h0) :
    MetFree l (⟨"java/lang/Integer", "numberOfLeadingZeros", "(I)I"⟩ : MethodName) (head1 (Jvm.Cond.code (⟨"java/lang/Integer", "numberOfLeadingZeros", "(I)I"⟩ : MethodName) jdk_33_method_47_code 2 (some .int) :: ws) RMrm7) (fun a U => a = #[(.int p1)] ∧ Z.Warmed39 U.vm ∧ U.heap = h0) (fun _ _ _ _ _ => True) (fun _ U o U' => ∃ v L, o = .returned v ∧ Qrm7 Z p1 h0 v U'.heap L ∧ FrameEnd U o U' L RMrm7.cells RMrm7.slots) := by
  refine MetFree.of_bodySF (plainFor_of_name pn_java_lang_Integer) hisR ?_
  intro p e s m args below meth c s₁ Bd hml0 hP hK
  obtain ⟨rfl, hZ, hh⟩ := hP
  have hx := Bd.exec
  have hby := Bd.bytes
  have hlk : meth.locks = false := BodyLoose.notSynchronized Bd
  have hret := Bd.returns
  have hml : c.maxLocals = 2 := hml0
  have hown : s.vm.findClass "java/lang/Integer" = some m.cls := findClass_of_methodNamed Bd.named
  have hnm := (name_of_methodNamed Bd.named Bd.method).1
  have X0 : Stand p l e RMrm7 s m #[(.int p1)] below meth c s₁ [] 0 0 := Stand.of_body Bd
  have e0 : s₁.heap = h0 := by rw [← hh, Bd.state]; rfl
  have N0 := Fr.nil Z.heap.size
  show OEnd p e below (GN s (Qrm7 Z p1 h0) RMrm7.cells RMrm7.slots) _
  refine OEnd.of (fun t k => castTop (ef_rm7 m p1) k) ?_
  refine OEnd.of (fun t k => XS.iloadN X0.here hx rfl (hb hby d7_0) rfl k) ?_
  show OEnd p e below _ (s₁.setTop (mkF m 1 #[.val (.int p1), .unset] [(.int p1)]))
  by_cases hc10 : (0 : Int32) < p1
  · refine OEnd.of (fun t k => XS.ifYes X0.here hx rfl (pc0 := 1) (pc' := 15) rfl (hb hby d7_1) rfl ((if0 _ _).trans (tlt hc10).2.2.1) (by decide) (by decide) k) ?_
    show OEnd p e below _ (s₁.setTop (mkF m 15 #[.val (.int p1), .unset] []))
    have J11 : ∀ (T11 : State) (Lo11 : List Loc) (i : Int32) (n : Int32), Stand p l e RMrm7 s m #[(.int p1)] below meth c T11 Lo11 0 0 → T11.heap = h0 → Fr Z.heap.size Lo11 → OEnd p e below (GN s (Qrm7 Z p1 h0) RMrm7.cells RMrm7.slots) (T11.setTop (mkF m 73 #[.val (.int i), .val (.int n)] [])) := by
      rintro T11 Lo11 i n X11 e11 N11
      show OEnd p e below _ (T11.setTop (mkF m 73 #[.val (.int i), .val (.int n)] []))
      refine OEnd.of (fun t k => XS.iloadN X11.here hx rfl (hb hby d7_73) rfl k) ?_
      show OEnd p e below _ (T11.setTop (mkF m 74 #[.val (.int i), .val (.int n)] [(.int n)]))
      refine OEnd.of (fun t k => XS.iloadN X11.here hx rfl (hb hby d7_74) rfl k) ?_
      show OEnd p e below _ (T11.setTop (mkF m 75 #[.val (.int i), .val (.int n)] [(.int i), (.int n)]))
      refine OEnd.of (fun t k => XS.iconst X11.here hx rfl (hb hby d7_75) k) ?_
      show OEnd p e below _ (T11.setTop (mkF m 76 #[.val (.int i), .val (.int n)] [(.int (1 : Int32)), (.int i), (.int n)]))
      refine OEnd.of (fun t k => XS.iushr X11.here hx rfl (hb hby d7_76) rfl k) ?_
      show OEnd p e below _ (T11.setTop (mkF m 77 #[.val (.int i), .val (.int n)] [(.int ((i.toUInt32 >>> ((1 : Int32) &&& 31).toUInt32).toInt32)), (.int n)]))
      refine OEnd.of (fun t k => XS.isub X11.here hx rfl (hb hby d7_77) rfl k) ?_
      show OEnd p e below _ (T11.setTop (mkF m 78 #[.val (.int i), .val (.int n)] [(.int (n - ((i.toUInt32 >>> ((1 : Int32) &&& 31).toUInt32).toInt32)))]))
      exact OEnd.retI X11 hx hlk e11 hret (hb hby d7_78) ⟨_, rfl, N11, rfl⟩ (by decide) (by decide)
    have J12 : ∀ (T12 : State) (Lo12 : List Loc) (i : Int32) (n : Int32), Stand p l e RMrm7 s m #[(.int p1)] below meth c T12 Lo12 0 0 → T12.heap = h0 → Fr Z.heap.size Lo12 → OEnd p e below (GN s (Qrm7 Z p1 h0) RMrm7.cells RMrm7.slots) (T12.setTop (mkF m 61 #[.val (.int i), .val (.int n)] [])) := by
      rintro T12 Lo12 i n X12 e12 N12
      show OEnd p e below _ (T12.setTop (mkF m 61 #[.val (.int i), .val (.int n)] []))
      refine OEnd.of (fun t k => XS.iloadN X12.here hx rfl (hb hby d7_61) rfl k) ?_
      show OEnd p e below _ (T12.setTop (mkF m 62 #[.val (.int i), .val (.int n)] [(.int i)]))
      refine OEnd.of (fun t k => XS.iconst X12.here hx rfl (hb hby d7_62) k) ?_
      show OEnd p e below _ (T12.setTop (mkF m 63 #[.val (.int i), .val (.int n)] [(.int (4 : Int32)), (.int i)]))
      by_cases hc13 : i < (4 : Int32)
      · refine OEnd.of (fun t k => XS.icmpYes X12.here hx rfl (pc0 := 63) (pc' := 73) rfl (hb hby d7_63) rfl (tlt hc13).1 (by decide) (by decide) k) ?_
        show OEnd p e below _ (T12.setTop (mkF m 73 #[.val (.int i), .val (.int n)] []))
        exact J11 T12 _ i n X12 e12 N12
      · refine OEnd.of (fun t k => XS.icmpNo X12.here hx rfl (hb hby d7_63) rfl (flt hc13).1 k) ?_
        show OEnd p e below _ (T12.setTop (mkF m 66 #[.val (.int i), .val (.int n)] []))
        refine OEnd.of (fun t k => XS.iinc X12.here hx rfl (hb hby d7_66) rfl (l' := #[.val (.int i), .val (.int (n + (-2 : Int32)))]) rfl k) ?_
        show OEnd p e below _ (T12.setTop (mkF m 69 #[.val (.int i), .val (.int (n + (-2 : Int32)))] []))
        refine OEnd.of (fun t k => XS.iloadN X12.here hx rfl (hb hby d7_69) rfl k) ?_
        show OEnd p e below _ (T12.setTop (mkF m 70 #[.val (.int i), .val (.int (n + (-2 : Int32)))] [(.int i)]))
        refine OEnd.of (fun t k => XS.iconst X12.here hx rfl (hb hby d7_70) k) ?_
        show OEnd p e below _ (T12.setTop (mkF m 71 #[.val (.int i), .val (.int (n + (-2 : Int32)))] [(.int (2 : Int32)), (.int i)]))
        refine OEnd.of (fun t k => XS.iushr X12.here hx rfl (hb hby d7_71) rfl k) ?_
        show OEnd p e below _ (T12.setTop (mkF m 72 #[.val (.int i), .val (.int (n + (-2 : Int32)))] [(.int ((i.toUInt32 >>> ((2 : Int32) &&& 31).toUInt32).toInt32))]))
        refine OEnd.of (fun t k => XS.istoreN X12.here hx rfl (hb hby d7_72) rfl (l' := #[.val (.int ((i.toUInt32 >>> ((2 : Int32) &&& 31).toUInt32).toInt32)), .val (.int (n + (-2 : Int32)))]) rfl k) ?_
        show OEnd p e below _ (T12.setTop (mkF m 73 #[.val (.int ((i.toUInt32 >>> ((2 : Int32) &&& 31).toUInt32).toInt32)), .val (.int (n + (-2 : Int32)))] []))
        exact J11 T12 _ ((i.toUInt32 >>> ((2 : Int32) &&& 31).toUInt32).toInt32) (n + (-2 : Int32)) X12 e12 N12
    have J14 : ∀ (T14 : State) (Lo14 : List Loc) (i : Int32) (n : Int32), Stand p l e RMrm7 s m #[(.int p1)] below meth c T14 Lo14 0 0 → T14.heap = h0 → Fr Z.heap.size Lo14 → OEnd p e below (GN s (Qrm7 Z p1 h0) RMrm7.cells RMrm7.slots) (T14.setTop (mkF m 48 #[.val (.int i), .val (.int n)] [])) := by
      rintro T14 Lo14 i n X14 e14 N14
      show OEnd p e below _ (T14.setTop (mkF m 48 #[.val (.int i), .val (.int n)] []))
      refine OEnd.of (fun t k => XS.iloadN X14.here hx rfl (hb hby d7_48) rfl k) ?_
      show OEnd p e below _ (T14.setTop (mkF m 49 #[.val (.int i), .val (.int n)] [(.int i)]))
      refine OEnd.of (fun t k => XS.bipush X14.here hx rfl (hb hby d7_49) k) ?_
      show OEnd p e below _ (T14.setTop (mkF m 51 #[.val (.int i), .val (.int n)] [(.int (16 : Int32)), (.int i)]))
      by_cases hc15 : i < (16 : Int32)
      · refine OEnd.of (fun t k => XS.icmpYes X14.here hx rfl (pc0 := 51) (pc' := 61) rfl (hb hby d7_51) rfl (tlt hc15).1 (by decide) (by decide) k) ?_
        show OEnd p e below _ (T14.setTop (mkF m 61 #[.val (.int i), .val (.int n)] []))
        exact J12 T14 _ i n X14 e14 N14
      · refine OEnd.of (fun t k => XS.icmpNo X14.here hx rfl (hb hby d7_51) rfl (flt hc15).1 k) ?_
        show OEnd p e below _ (T14.setTop (mkF m 54 #[.val (.int i), .val (.int n)] []))
        refine OEnd.of (fun t k => XS.iinc X14.here hx rfl (hb hby d7_54) rfl (l' := #[.val (.int i), .val (.int (n + (-4 : Int32)))]) rfl k) ?_
        show OEnd p e below _ (T14.setTop (mkF m 57 #[.val (.int i), .val (.int (n + (-4 : Int32)))] []))
        refine OEnd.of (fun t k => XS.iloadN X14.here hx rfl (hb hby d7_57) rfl k) ?_
        show OEnd p e below _ (T14.setTop (mkF m 58 #[.val (.int i), .val (.int (n + (-4 : Int32)))] [(.int i)]))
        refine OEnd.of (fun t k => XS.iconst X14.here hx rfl (hb hby d7_58) k) ?_
        show OEnd p e below _ (T14.setTop (mkF m 59 #[.val (.int i), .val (.int (n + (-4 : Int32)))] [(.int (4 : Int32)), (.int i)]))
        refine OEnd.of (fun t k => XS.iushr X14.here hx rfl (hb hby d7_59) rfl k) ?_
        show OEnd p e below _ (T14.setTop (mkF m 60 #[.val (.int i), .val (.int (n + (-4 : Int32)))] [(.int ((i.toUInt32 >>> ((4 : Int32) &&& 31).toUInt32).toInt32))]))
        refine OEnd.of (fun t k => XS.istoreN X14.here hx rfl (hb hby d7_60) rfl (l' := #[.val (.int ((i.toUInt32 >>> ((4 : Int32) &&& 31).toUInt32).toInt32)), .val (.int (n + (-4 : Int32)))]) rfl k) ?_
        show OEnd p e below _ (T14.setTop (mkF m 61 #[.val (.int ((i.toUInt32 >>> ((4 : Int32) &&& 31).toUInt32).toInt32)), .val (.int (n + (-4 : Int32)))] []))
        exact J12 T14 _ ((i.toUInt32 >>> ((4 : Int32) &&& 31).toUInt32).toInt32) (n + (-4 : Int32)) X14 e14 N14
    have J16 : ∀ (T16 : State) (Lo16 : List Loc) (i : Int32) (n : Int32), Stand p l e RMrm7 s m #[(.int p1)] below meth c T16 Lo16 0 0 → T16.heap = h0 → Fr Z.heap.size Lo16 → OEnd p e below (GN s (Qrm7 Z p1 h0) RMrm7.cells RMrm7.slots) (T16.setTop (mkF m 33 #[.val (.int i), .val (.int n)] [])) := by
      rintro T16 Lo16 i n X16 e16 N16
      show OEnd p e below _ (T16.setTop (mkF m 33 #[.val (.int i), .val (.int n)] []))
      refine OEnd.of (fun t k => XS.iloadN X16.here hx rfl (hb hby d7_33) rfl k) ?_
      show OEnd p e below _ (T16.setTop (mkF m 34 #[.val (.int i), .val (.int n)] [(.int i)]))
      refine OEnd.of (fun t k => XS.sipush X16.here hx rfl (hb hby d7_34) k) ?_
      show OEnd p e below _ (T16.setTop (mkF m 37 #[.val (.int i), .val (.int n)] [(.int (256 : Int32)), (.int i)]))
      by_cases hc17 : i < (256 : Int32)
      · refine OEnd.of (fun t k => XS.icmpYes X16.here hx rfl (pc0 := 37) (pc' := 48) rfl (hb hby d7_37) rfl (tlt hc17).1 (by decide) (by decide) k) ?_
        show OEnd p e below _ (T16.setTop (mkF m 48 #[.val (.int i), .val (.int n)] []))
        exact J14 T16 _ i n X16 e16 N16
      · refine OEnd.of (fun t k => XS.icmpNo X16.here hx rfl (hb hby d7_37) rfl (flt hc17).1 k) ?_
        show OEnd p e below _ (T16.setTop (mkF m 40 #[.val (.int i), .val (.int n)] []))
        refine OEnd.of (fun t k => XS.iinc X16.here hx rfl (hb hby d7_40) rfl (l' := #[.val (.int i), .val (.int (n + (-8 : Int32)))]) rfl k) ?_
        show OEnd p e below _ (T16.setTop (mkF m 43 #[.val (.int i), .val (.int (n + (-8 : Int32)))] []))
        refine OEnd.of (fun t k => XS.iloadN X16.here hx rfl (hb hby d7_43) rfl k) ?_
        show OEnd p e below _ (T16.setTop (mkF m 44 #[.val (.int i), .val (.int (n + (-8 : Int32)))] [(.int i)]))
        refine OEnd.of (fun t k => XS.bipush X16.here hx rfl (hb hby d7_44) k) ?_
        show OEnd p e below _ (T16.setTop (mkF m 46 #[.val (.int i), .val (.int (n + (-8 : Int32)))] [(.int (8 : Int32)), (.int i)]))
        refine OEnd.of (fun t k => XS.iushr X16.here hx rfl (hb hby d7_46) rfl k) ?_
        show OEnd p e below _ (T16.setTop (mkF m 47 #[.val (.int i), .val (.int (n + (-8 : Int32)))] [(.int ((i.toUInt32 >>> ((8 : Int32) &&& 31).toUInt32).toInt32))]))
        refine OEnd.of (fun t k => XS.istoreN X16.here hx rfl (hb hby d7_47) rfl (l' := #[.val (.int ((i.toUInt32 >>> ((8 : Int32) &&& 31).toUInt32).toInt32)), .val (.int (n + (-8 : Int32)))]) rfl k) ?_
        show OEnd p e below _ (T16.setTop (mkF m 48 #[.val (.int ((i.toUInt32 >>> ((8 : Int32) &&& 31).toUInt32).toInt32)), .val (.int (n + (-8 : Int32)))] []))
        exact J14 T16 _ ((i.toUInt32 >>> ((8 : Int32) &&& 31).toUInt32).toInt32) (n + (-8 : Int32)) X16 e16 N16
    refine OEnd.of (fun t k => XS.bipush X0.here hx rfl (hb hby d7_15) k) ?_
    show OEnd p e below _ (s₁.setTop (mkF m 17 #[.val (.int p1), .unset] [(.int (31 : Int32))]))
    refine OEnd.of (fun t k => XS.istoreN X0.here hx rfl (hb hby d7_17) rfl (l' := #[.val (.int p1), .val (.int (31 : Int32))]) rfl k) ?_
    show OEnd p e below _ (s₁.setTop (mkF m 18 #[.val (.int p1), .val (.int (31 : Int32))] []))
    refine OEnd.of (fun t k => XS.iloadN X0.here hx rfl (hb hby d7_18) rfl k) ?_
    show OEnd p e below _ (s₁.setTop (mkF m 19 #[.val (.int p1), .val (.int (31 : Int32))] [(.int p1)]))
    refine OEnd.of (X0.ldcwInt hx hown (mvT hZ (hw _ (List.mem_of_getElem? (i := 45) rfl))) (g := (mkF m 19 #[.val (.int p1), .val (.int (31 : Int32))] [(.int p1)])) rfl (hb hby d7_19)) ?_
    show OEnd p e below _ (s₁.setTop (mkF m 22 #[.val (.int p1), .val (.int (31 : Int32))] [(.int (65536 : Int32)), (.int p1)]))
    by_cases hc18 : p1 < (65536 : Int32)
    · refine OEnd.of (fun t k => XS.icmpYes X0.here hx rfl (pc0 := 22) (pc' := 33) rfl (hb hby d7_22) rfl (tlt hc18).1 (by decide) (by decide) k) ?_
      show OEnd p e below _ (s₁.setTop (mkF m 33 #[.val (.int p1), .val (.int (31 : Int32))] []))
      exact J16 s₁ _ p1 (31 : Int32) X0 e0 N0
    · refine OEnd.of (fun t k => XS.icmpNo X0.here hx rfl (hb hby d7_22) rfl (flt hc18).1 k) ?_
      show OEnd p e below _ (s₁.setTop (mkF m 25 #[.val (.int p1), .val (.int (31 : Int32))] []))
      refine OEnd.of (fun t k => XS.iinc X0.here hx rfl (hb hby d7_25) rfl (l' := #[.val (.int p1), .val (.int ((31 : Int32) + (-16 : Int32)))]) rfl k) ?_
      show OEnd p e below _ (s₁.setTop (mkF m 28 #[.val (.int p1), .val (.int ((31 : Int32) + (-16 : Int32)))] []))
      refine OEnd.of (fun t k => XS.iloadN X0.here hx rfl (hb hby d7_28) rfl k) ?_
      show OEnd p e below _ (s₁.setTop (mkF m 29 #[.val (.int p1), .val (.int ((31 : Int32) + (-16 : Int32)))] [(.int p1)]))
      refine OEnd.of (fun t k => XS.bipush X0.here hx rfl (hb hby d7_29) k) ?_
      show OEnd p e below _ (s₁.setTop (mkF m 31 #[.val (.int p1), .val (.int ((31 : Int32) + (-16 : Int32)))] [(.int (16 : Int32)), (.int p1)]))
      refine OEnd.of (fun t k => XS.iushr X0.here hx rfl (hb hby d7_31) rfl k) ?_
      show OEnd p e below _ (s₁.setTop (mkF m 32 #[.val (.int p1), .val (.int ((31 : Int32) + (-16 : Int32)))] [(.int ((p1.toUInt32 >>> ((16 : Int32) &&& 31).toUInt32).toInt32))]))
      refine OEnd.of (fun t k => XS.istoreN X0.here hx rfl (hb hby d7_32) rfl (l' := #[.val (.int ((p1.toUInt32 >>> ((16 : Int32) &&& 31).toUInt32).toInt32)), .val (.int ((31 : Int32) + (-16 : Int32)))]) rfl k) ?_
      show OEnd p e below _ (s₁.setTop (mkF m 33 #[.val (.int ((p1.toUInt32 >>> ((16 : Int32) &&& 31).toUInt32).toInt32)), .val (.int ((31 : Int32) + (-16 : Int32)))] []))
      exact J16 s₁ _ ((p1.toUInt32 >>> ((16 : Int32) &&& 31).toUInt32).toInt32) ((31 : Int32) + (-16 : Int32)) X0 e0 N0
  · refine OEnd.of (fun t k => XS.ifNo X0.here hx rfl (hb hby d7_1) rfl ((if0 _ _).trans (flt hc10).2.2.1) k) ?_
    show OEnd p e below _ (s₁.setTop (mkF m 4 #[.val (.int p1), .unset] []))
    refine OEnd.of (fun t k => XS.iloadN X0.here hx rfl (hb hby d7_4) rfl k) ?_
    show OEnd p e below _ (s₁.setTop (mkF m 5 #[.val (.int p1), .unset] [(.int p1)]))
    by_cases hc19 : p1 = (0 : Int32)
    · refine OEnd.of (fun t k => XS.ifNo X0.here hx rfl (hb hby d7_5) rfl ((if0 _ _).trans (teq hc19).2) k) ?_
      show OEnd p e below _ (s₁.setTop (mkF m 8 #[.val (.int p1), .unset] []))
      refine OEnd.of (fun t k => XS.bipush X0.here hx rfl (hb hby d7_8) k) ?_
      show OEnd p e below _ (s₁.setTop (mkF m 10 #[.val (.int p1), .unset] [(.int (32 : Int32))]))
      refine OEnd.of (fun t k => XS.goto X0.here hx rfl (pc0 := 10) (pc' := 14) rfl (hb hby d7_10) (by decide) (by decide) k) ?_
      show OEnd p e below _ (s₁.setTop (mkF m 14 #[.val (.int p1), .unset] [(.int (32 : Int32))]))
      exact OEnd.retI X0 hx hlk e0 hret (hb hby d7_14) ⟨_, rfl, N0, rfl⟩ (by decide) (by decide)
    · refine OEnd.of (fun t k => XS.ifYes X0.here hx rfl (pc0 := 5) (pc' := 13) rfl (hb hby d7_5) rfl ((if0 _ _).trans (feq hc19).2) (by decide) (by decide) k) ?_
      show OEnd p e below _ (s₁.setTop (mkF m 13 #[.val (.int p1), .unset] []))
      refine OEnd.of (fun t k => XS.iconst X0.here hx rfl (hb hby d7_13) k) ?_
      show OEnd p e below _ (s₁.setTop (mkF m 14 #[.val (.int p1), .unset] [(.int (0 : Int32))]))
      exact OEnd.retI X0 hx hlk e0 hret (hb hby d7_14) ⟨_, rfl, N0, rfl⟩ (by decide) (by decide)
theorem pd_28I29I : parseMethodDescriptor "(I)I" = some ⟨[.int], some .int⟩ := by decide +kernel
theorem d6_0 : decode jdk_35_method_48_code 0 = .ok (.lload_n 0, 1) := by decide +kernel
theorem d6_1 : decode jdk_35_method_48_code 1 = .ok (.bipush 32, 2) := by decide +kernel
theorem d6_3 : decode jdk_35_method_48_code 3 = .ok (.lushr, 1) := by decide +kernel
theorem d6_4 : decode jdk_35_method_48_code 4 = .ok (.l2i, 1) := by decide +kernel
theorem d6_5 : decode jdk_35_method_48_code 5 = .ok (.istore_n 2, 1) := by decide +kernel
theorem d6_6 : decode jdk_35_method_48_code 6 = .ok (.iload_n 2, 1) := by decide +kernel
theorem d6_7 : decode jdk_35_method_48_code 7 = .ok (.ifCond .ne 14, 3) := by decide +kernel
theorem d6_10 : decode jdk_35_method_48_code 10 = .ok (.bipush 32, 2) := by decide +kernel
theorem d6_12 : decode jdk_35_method_48_code 12 = .ok (.lload_n 0, 1) := by decide +kernel
theorem d6_13 : decode jdk_35_method_48_code 13 = .ok (.l2i, 1) := by decide +kernel
theorem d6_14 : decode jdk_35_method_48_code 14 = .ok (.invokestatic 308, 3) := by decide +kernel
theorem d6_17 : decode jdk_35_method_48_code 17 = .ok (.iadd, 1) := by decide +kernel
theorem d6_18 : decode jdk_35_method_48_code 18 = .ok (.goto 7, 3) := by decide +kernel
theorem d6_21 : decode jdk_35_method_48_code 21 = .ok (.iload_n 2, 1) := by decide +kernel
theorem d6_22 : decode jdk_35_method_48_code 22 = .ok (.invokestatic 308, 3) := by decide +kernel
theorem d6_25 : decode jdk_35_method_48_code 25 = .ok (.ireturn, 1) := by decide +kernel
theorem pn_java_lang_Long : plainName "java/lang/Long" = true := by first | (simp [plainName, overriddenIn]; done) | decide +kernel
abbrev RMrm6 : Room := { frames := 1, cells := 0, slots := 0, locals := 14 }
theorem ef_rm6 (m : MethodId) (q1 : Int64) : entryFrame m #[(.long q1)] 3 = mkF m 0 #[.val (.long q1), .second, .unset] [] := by first | (simp [entryFrame, mkF, argsToLocals, Value.category]; done) | rfl
def Qrm6 (Z : State)  (q1 : Int64) (h0 : Heap) (v : Option Value) (h : Heap) (L : List Loc) : Prop := ∃ (r : Int32), v = some (.int r) ∧ Fr Z.heap.size L ∧ h = h0
set_option maxRecDepth 65536 in
set_option maxHeartbeats 40000000 in
theorem rm6 (l : Launch) (Z : State) (a0 : Array Value) (hw : ∀ d ∈ tables_1, d.before a0 Z = true)   (ws : List Jvm.Cond) (q1 : Int64) (h0 : Heap) (O0 : Ext Z.heap h0) :
    MetFree l (⟨"java/lang/Long", "numberOfLeadingZeros", "(J)I"⟩ : MethodName) (head1 (Jvm.Cond.code (⟨"java/lang/Long", "numberOfLeadingZeros", "(J)I"⟩ : MethodName) jdk_35_method_48_code 3 (some .int) :: ws) RMrm6) (fun a U => a = #[(.long q1)] ∧ Z.Warmed39 U.vm ∧ U.heap = h0) (fun _ _ _ _ _ => True) (fun _ U o U' => ∃ v L, o = .returned v ∧ Qrm6 Z q1 h0 v U'.heap L ∧ FrameEnd U o U' L RMrm6.cells RMrm6.slots) := by
  refine MetFree.of_bodySF (plainFor_of_name pn_java_lang_Long) hisR ?_
  intro p e s m args below meth c s₁ Bd hml0 hP hK
  obtain ⟨rfl, hZ, hh⟩ := hP
  have hx := Bd.exec
  have hby := Bd.bytes
  have hlk : meth.locks = false := BodyLoose.notSynchronized Bd
  have hret := Bd.returns
  have hml : c.maxLocals = 3 := hml0
  have hown : s.vm.findClass "java/lang/Long" = some m.cls := findClass_of_methodNamed Bd.named
  have hnm := (name_of_methodNamed Bd.named Bd.method).1
  have X0 : Stand p l e RMrm6 s m #[(.long q1)] below meth c s₁ [] 0 0 := Stand.of_body Bd
  have e0 : s₁.heap = h0 := by rw [← hh, Bd.state]; rfl
  have N0 := Fr.nil Z.heap.size
  show OEnd p e below (GN s (Qrm6 Z q1 h0) RMrm6.cells RMrm6.slots) _
  refine OEnd.of (fun t k => castTop (ef_rm6 m q1) k) ?_
  refine OEnd.of (fun t k => XS.lloadN X0.here hx rfl (hb hby d6_0) rfl k) ?_
  show OEnd p e below _ (s₁.setTop (mkF m 1 #[.val (.long q1), .second, .unset] [(.long q1)]))
  refine OEnd.of (fun t k => XS.bipush X0.here hx rfl (hb hby d6_1) k) ?_
  show OEnd p e below _ (s₁.setTop (mkF m 3 #[.val (.long q1), .second, .unset] [(.int (32 : Int32)), (.long q1)]))
  refine OEnd.of (fun t k => XS.lushr X0.here hx rfl (hb hby d6_3) rfl k) ?_
  show OEnd p e below _ (s₁.setTop (mkF m 4 #[.val (.long q1), .second, .unset] [(.long ((q1.toUInt64 >>> ((32 : Int32) &&& 0x3f).toInt64.toUInt64).toInt64))]))
  refine OEnd.of (fun t k => XS.l2i X0.here hx rfl (hb hby d6_4) rfl k) ?_
  show OEnd p e below _ (s₁.setTop (mkF m 5 #[.val (.long q1), .second, .unset] [(.int (((q1.toUInt64 >>> ((32 : Int32) &&& 0x3f).toInt64.toUInt64).toInt64).toInt32))]))
  refine OEnd.of (fun t k => XS.istoreN X0.here hx rfl (hb hby d6_5) rfl (l' := #[.val (.long q1), .second, .val (.int (((q1.toUInt64 >>> ((32 : Int32) &&& 0x3f).toInt64.toUInt64).toInt64).toInt32))]) rfl k) ?_
  show OEnd p e below _ (s₁.setTop (mkF m 6 #[.val (.long q1), .second, .val (.int (((q1.toUInt64 >>> ((32 : Int32) &&& 0x3f).toInt64.toUInt64).toInt64).toInt32))] []))
  refine OEnd.of (fun t k => XS.iloadN X0.here hx rfl (hb hby d6_6) rfl k) ?_
  show OEnd p e below _ (s₁.setTop (mkF m 7 #[.val (.long q1), .second, .val (.int (((q1.toUInt64 >>> ((32 : Int32) &&& 0x3f).toInt64.toUInt64).toInt64).toInt32))] [(.int (((q1.toUInt64 >>> ((32 : Int32) &&& 0x3f).toInt64.toUInt64).toInt64).toInt32))]))
  by_cases hc20 : (((q1.toUInt64 >>> ((32 : Int32) &&& 0x3f).toInt64.toUInt64).toInt64).toInt32) = (0 : Int32)
  · refine OEnd.of (fun t k => XS.ifNo X0.here hx rfl (hb hby d6_7) rfl ((if0 _ _).trans (teq hc20).2) k) ?_
    show OEnd p e below _ (s₁.setTop (mkF m 10 #[.val (.long q1), .second, .val (.int (((q1.toUInt64 >>> ((32 : Int32) &&& 0x3f).toInt64.toUInt64).toInt64).toInt32))] []))
    refine OEnd.of (fun t k => XS.bipush X0.here hx rfl (hb hby d6_10) k) ?_
    show OEnd p e below _ (s₁.setTop (mkF m 12 #[.val (.long q1), .second, .val (.int (((q1.toUInt64 >>> ((32 : Int32) &&& 0x3f).toInt64.toUInt64).toInt64).toInt32))] [(.int (32 : Int32))]))
    refine OEnd.of (fun t k => XS.lloadN X0.here hx rfl (hb hby d6_12) rfl k) ?_
    show OEnd p e below _ (s₁.setTop (mkF m 13 #[.val (.long q1), .second, .val (.int (((q1.toUInt64 >>> ((32 : Int32) &&& 0x3f).toInt64.toUInt64).toInt64).toInt32))] [(.long q1), (.int (32 : Int32))]))
    refine OEnd.of (fun t k => XS.l2i X0.here hx rfl (hb hby d6_13) rfl k) ?_
    show OEnd p e below _ (s₁.setTop (mkF m 14 #[.val (.long q1), .second, .val (.int (((q1.toUInt64 >>> ((32 : Int32) &&& 0x3f).toInt64.toUInt64).toInt64).toInt32))] [(.int (q1.toInt32)), (.int (32 : Int32))]))
    obtain ⟨_, _, ⟨T21, L21, k21, n21⟩, -, X21, ⟨Lc21, hQ21, l21, y21, z21⟩, st21⟩ := Jvm.LawKit.callS X0 hx (y := (⟨"java/lang/Integer", "numberOfLeadingZeros", "(I)I"⟩ : MethodName)) hown (mvT hZ (hw _ (List.mem_of_getElem? (i := 41) rfl))) (mvT hZ (hw _ (List.mem_of_getElem? (i := 42) rfl))) (mvT hZ (hw _ (List.mem_of_getElem? (i := 43) rfl))) (mvT hZ (hw _ (List.mem_of_getElem? (i := 44) rfl))) (by decide) (backOf (W := 1) (rm7 l Z a0 hw  [] (q1.toInt32) h0 O0 ) hZ (hw _ (List.mem_of_getElem? (i := 44) rfl)) (hw _ (List.mem_of_getElem? (i := 43) rfl)) (by decide) (by decide)) (g := (mkF m 14 #[.val (.long q1), .second, .val (.int (((q1.toUInt64 >>> ((32 : Int32) &&& 0x3f).toInt64.toUInt64).toInt64).toInt32))] [(.int (q1.toInt32)), (.int (32 : Int32))])) rfl (by rw [hml]; rfl) (argsL := [(.int (q1.toInt32))]) (rest := [(.int (32 : Int32))]) (lenOf pd_28I29I rfl) rfl (by show 2 * 0 + _ ≤ _; exact Nat.le_of_eq rfl) (hb hby d6_14) (fun _ _ => ⟨rfl, e0, (by decide : 0 + 0 ≤ _), (by decide : 0 + 0 ≤ _)⟩)
    dsimp only [Pt.U, Pt.locs, Pt.cells, Pt.slots] at X21 l21 y21 z21 st21 hQ21
    subst l21 y21 z21
    obtain ⟨r_22, rfl, Nq21, e21⟩ := hQ21
    have N23 := Fr.app N0 Nq21
    refine OEnd.of st21 ?_
    show OEnd p e below _ (T21.setTop (mkF m 17 #[.val (.long q1), .second, .val (.int (((q1.toUInt64 >>> ((32 : Int32) &&& 0x3f).toInt64.toUInt64).toInt64).toInt32))] [(.int r_22), (.int (32 : Int32))]))
    refine OEnd.of (fun t k => XS.iadd X21.here hx rfl (hb hby d6_17) rfl k) ?_
    show OEnd p e below _ (T21.setTop (mkF m 18 #[.val (.long q1), .second, .val (.int (((q1.toUInt64 >>> ((32 : Int32) &&& 0x3f).toInt64.toUInt64).toInt64).toInt32))] [(.int ((32 : Int32) + r_22))]))
    refine OEnd.of (fun t k => XS.goto X21.here hx rfl (pc0 := 18) (pc' := 25) rfl (hb hby d6_18) (by decide) (by decide) k) ?_
    show OEnd p e below _ (T21.setTop (mkF m 25 #[.val (.long q1), .second, .val (.int (((q1.toUInt64 >>> ((32 : Int32) &&& 0x3f).toInt64.toUInt64).toInt64).toInt32))] [(.int ((32 : Int32) + r_22))]))
    exact OEnd.retI X21 hx hlk e21 hret (hb hby d6_25) ⟨_, rfl, N23, rfl⟩ (by decide) (by decide)
  · refine OEnd.of (fun t k => XS.ifYes X0.here hx rfl (pc0 := 7) (pc' := 21) rfl (hb hby d6_7) rfl ((if0 _ _).trans (feq hc20).2) (by decide) (by decide) k) ?_
    show OEnd p e below _ (s₁.setTop (mkF m 21 #[.val (.long q1), .second, .val (.int (((q1.toUInt64 >>> ((32 : Int32) &&& 0x3f).toInt64.toUInt64).toInt64).toInt32))] []))
    refine OEnd.of (fun t k => XS.iloadN X0.here hx rfl (hb hby d6_21) rfl k) ?_
    show OEnd p e below _ (s₁.setTop (mkF m 22 #[.val (.long q1), .second, .val (.int (((q1.toUInt64 >>> ((32 : Int32) &&& 0x3f).toInt64.toUInt64).toInt64).toInt32))] [(.int (((q1.toUInt64 >>> ((32 : Int32) &&& 0x3f).toInt64.toUInt64).toInt64).toInt32))]))
    obtain ⟨_, _, ⟨T24, L24, k24, n24⟩, -, X24, ⟨Lc24, hQ24, l24, y24, z24⟩, st24⟩ := Jvm.LawKit.callS X0 hx (y := (⟨"java/lang/Integer", "numberOfLeadingZeros", "(I)I"⟩ : MethodName)) hown (mvT hZ (hw _ (List.mem_of_getElem? (i := 41) rfl))) (mvT hZ (hw _ (List.mem_of_getElem? (i := 42) rfl))) (mvT hZ (hw _ (List.mem_of_getElem? (i := 43) rfl))) (mvT hZ (hw _ (List.mem_of_getElem? (i := 44) rfl))) (by decide) (backOf (W := 0) (rm7 l Z a0 hw  [] (((q1.toUInt64 >>> ((32 : Int32) &&& 0x3f).toInt64.toUInt64).toInt64).toInt32) h0 O0 ) hZ (hw _ (List.mem_of_getElem? (i := 44) rfl)) (hw _ (List.mem_of_getElem? (i := 43) rfl)) (by decide) (by decide)) (g := (mkF m 22 #[.val (.long q1), .second, .val (.int (((q1.toUInt64 >>> ((32 : Int32) &&& 0x3f).toInt64.toUInt64).toInt64).toInt32))] [(.int (((q1.toUInt64 >>> ((32 : Int32) &&& 0x3f).toInt64.toUInt64).toInt64).toInt32))])) rfl (by rw [hml]; rfl) (argsL := [(.int (((q1.toUInt64 >>> ((32 : Int32) &&& 0x3f).toInt64.toUInt64).toInt64).toInt32))]) (rest := []) (lenOf pd_28I29I rfl) rfl (by show 2 * 0 + _ ≤ _; exact Nat.le_of_eq rfl) (hb hby d6_22) (fun _ _ => ⟨rfl, e0, (by decide : 0 + 0 ≤ _), (by decide : 0 + 0 ≤ _)⟩)
    dsimp only [Pt.U, Pt.locs, Pt.cells, Pt.slots] at X24 l24 y24 z24 st24 hQ24
    subst l24 y24 z24
    obtain ⟨r_25, rfl, Nq24, e24⟩ := hQ24
    have N26 := Fr.app N0 Nq24
    refine OEnd.of st24 ?_
    show OEnd p e below _ (T24.setTop (mkF m 25 #[.val (.long q1), .second, .val (.int (((q1.toUInt64 >>> ((32 : Int32) &&& 0x3f).toInt64.toUInt64).toInt64).toInt32))] [(.int r_25)]))
    exact OEnd.retI X24 hx hlk e24 hret (hb hby d6_25) ⟨_, rfl, N26, rfl⟩ (by decide) (by decide)
theorem pd_28JJ29J : parseMethodDescriptor "(JJ)J" = some ⟨[.long, .long], some .long⟩ := by decide +kernel
theorem d4_0 : decode prog_26_method_7_code 0 = .ok (.lload_n 1, 1) := by decide +kernel
theorem d4_1 : decode prog_26_method_7_code 1 = .ok (.aload_n 0, 1) := by decide +kernel
theorem d4_2 : decode prog_26_method_7_code 2 = .ok (.getfield 16, 3) := by decide +kernel
theorem d4_5 : decode prog_26_method_7_code 5 = .ok (.invokestatic 41, 3) := by decide +kernel
theorem d4_8 : decode prog_26_method_7_code 8 = .ok (.lconst 0, 1) := by decide +kernel
theorem d4_9 : decode prog_26_method_7_code 9 = .ok (.lcmp, 1) := by decide +kernel
theorem d4_10 : decode prog_26_method_7_code 10 = .ok (.ifCond .ne 12, 3) := by decide +kernel
theorem d4_13 : decode prog_26_method_7_code 13 = .ok (.lload_n 1, 1) := by decide +kernel
theorem d4_14 : decode prog_26_method_7_code 14 = .ok (.aload_n 0, 1) := by decide +kernel
theorem d4_15 : decode prog_26_method_7_code 15 = .ok (.getfield 16, 3) := by decide +kernel
theorem d4_18 : decode prog_26_method_7_code 18 = .ok (.lmul, 1) := by decide +kernel
theorem d4_19 : decode prog_26_method_7_code 19 = .ok (.goto 6, 3) := by decide +kernel
theorem d4_22 : decode prog_26_method_7_code 22 = .ok (.ldc2_w 47, 3) := by decide +kernel
theorem d4_25 : decode prog_26_method_7_code 25 = .ok (.lreturn, 1) := by decide +kernel
theorem pn_com_example_metr_metr_Parts : plainName "com/example/metr/metr/Parts" = true := by first | (simp [plainName, overriddenIn]; done) | decide +kernel
abbrev RMrm4 : Room := { frames := 1, cells := 0, slots := 0, locals := 31 }
theorem ef_rm4 (m : MethodId) (a1 : Addr) (q2 : Int64) : entryFrame m #[(.ref a1), (.long q2)] 3 = mkF m 0 #[.val (.ref a1), .val (.long q2), .second] [] := by first | (simp [entryFrame, mkF, argsToLocals, Value.category]; done) | rfl
def Qrm4 (Z : State)  (a1 : Addr) (q2 : Int64) (w3 : Int64) (h0 : Heap) (v : Option Value) (h : Heap) (L : List Loc) : Prop := ∃ (r : Int64), v = some (.long r) ∧ Fr Z.heap.size L ∧ h = h0
set_option maxRecDepth 65536 in
set_option maxHeartbeats 40000000 in
theorem rm4 (l : Launch) (Z : State) (a0 : Array Value) (hw : ∀ d ∈ tables_1, d.before a0 Z = true)   (ws : List Jvm.Cond) (a1 : Addr) (q2 : Int64) (w3 : Int64) (h0 : Heap) (O0 : Ext Z.heap h0) (Fp : Fld Z h0 a1 "com/example/metr/metr/Parts" "refillPeriod" "J" (.long w3)) :
    MetFree l (⟨"com/example/metr/metr/Parts", "parts", "(J)J"⟩ : MethodName) (head1 (Jvm.Cond.code (⟨"com/example/metr/metr/Parts", "parts", "(J)J"⟩ : MethodName) prog_26_method_7_code 3 (some .long) :: ws) RMrm4) (fun a U => a = #[(.ref a1), (.long q2)] ∧ Z.Warmed39 U.vm ∧ U.heap = h0) (fun _ _ _ _ _ => True) (fun _ U o U' => ∃ v L, o = .returned v ∧ Qrm4 Z a1 q2 w3 h0 v U'.heap L ∧ FrameEnd U o U' L RMrm4.cells RMrm4.slots) := by
  refine MetFree.of_bodySF (plainFor_of_name pn_com_example_metr_metr_Parts) hisR ?_
  intro p e s m args below meth c s₁ Bd hml0 hP hK
  obtain ⟨rfl, hZ, hh⟩ := hP
  have hx := Bd.exec
  have hby := Bd.bytes
  have hlk : meth.locks = false := BodyLoose.notSynchronized Bd
  have hret := Bd.returns
  have hml : c.maxLocals = 3 := hml0
  have hown : s.vm.findClass "com/example/metr/metr/Parts" = some m.cls := findClass_of_methodNamed Bd.named
  have hnm := (name_of_methodNamed Bd.named Bd.method).1
  have X0 : Stand p l e RMrm4 s m #[(.ref a1), (.long q2)] below meth c s₁ [] 0 0 := Stand.of_body Bd
  have e0 : s₁.heap = h0 := by rw [← hh, Bd.state]; rfl
  have N0 := Fr.nil Z.heap.size
  show OEnd p e below (GN s (Qrm4 Z a1 q2 w3 h0) RMrm4.cells RMrm4.slots) _
  refine OEnd.of (fun t k => castTop (ef_rm4 m a1 q2) k) ?_
  refine OEnd.of (fun t k => XS.lloadN X0.here hx rfl (hb hby d4_0) rfl k) ?_
  show OEnd p e below _ (s₁.setTop (mkF m 1 #[.val (.ref a1), .val (.long q2), .second] [(.long q2)]))
  refine OEnd.of (fun t k => XS.aloadN X0.here hx rfl (hb hby d4_1) rfl rfl k) ?_
  show OEnd p e below _ (s₁.setTop (mkF m 2 #[.val (.ref a1), .val (.long q2), .second] [(.ref a1), (.long q2)]))
  obtain ⟨T27, X27, e27, st27⟩ := getF X0 hx hZ hown (host := "") (Or.inl (hw _ (List.mem_of_getElem? (i := 23) rfl))) Via.refl e0 Fp (g := (mkF m 2 #[.val (.ref a1), .val (.long q2), .second] [(.ref a1), (.long q2)])) rfl rfl (hb hby d4_2)
  refine OEnd.of st27 ?_
  show OEnd p e below _ (T27.setTop (mkF m 5 #[.val (.ref a1), .val (.long q2), .second] [(.long w3), (.long q2)]))
  obtain ⟨_, _, ⟨T28, L28, k28, n28⟩, -, X28, ⟨Lc28, hQ28, l28, y28, z28⟩, st28⟩ := Jvm.LawKit.callS X27 hx (y := (⟨"java/lang/Math", "multiplyHigh", "(JJ)J"⟩ : MethodName)) hown (mvT hZ (hw _ (List.mem_of_getElem? (i := 30) rfl))) (mvT hZ (hw _ (List.mem_of_getElem? (i := 31) rfl))) (mvT hZ (hw _ (List.mem_of_getElem? (i := 32) rfl))) (mvT hZ (hw _ (List.mem_of_getElem? (i := 33) rfl))) (by decide) (backOf (W := 0) (rm5 l Z a0 hw  [] q2 w3 h0 O0 ) hZ (hw _ (List.mem_of_getElem? (i := 33) rfl)) (hw _ (List.mem_of_getElem? (i := 32) rfl)) (by decide) (by decide)) (g := (mkF m 5 #[.val (.ref a1), .val (.long q2), .second] [(.long w3), (.long q2)])) rfl (by rw [hml]; rfl) (argsL := [(.long q2), (.long w3)]) (rest := []) (lenOf pd_28JJ29J rfl) rfl (by show 2 * 0 + _ ≤ _; exact Nat.le_of_eq rfl) (hb hby d4_5) (fun _ _ => ⟨rfl, e27, (by decide : 0 + 0 ≤ _), (by decide : 0 + 0 ≤ _)⟩)
  dsimp only [Pt.U, Pt.locs, Pt.cells, Pt.slots] at X28 l28 y28 z28 st28 hQ28
  subst l28 y28 z28
  obtain ⟨r_29, rfl, Nq28, e28⟩ := hQ28
  have N30 := Fr.app N0 Nq28
  refine OEnd.of st28 ?_
  show OEnd p e below _ (T28.setTop (mkF m 8 #[.val (.ref a1), .val (.long q2), .second] [(.long r_29)]))
  refine OEnd.of (fun t k => XS.lconst X28.here hx rfl (hb hby d4_8) k) ?_
  show OEnd p e below _ (T28.setTop (mkF m 9 #[.val (.ref a1), .val (.long q2), .second] [(.long (0 : Int64)), (.long r_29)]))
  refine OEnd.of (fun t k => XS.lcmp X28.here hx rfl (hb hby d4_9) rfl k) ?_
  show OEnd p e below _ (T28.setTop (mkF m 10 #[.val (.ref a1), .val (.long q2), .second] [(.int (lcmpW r_29 (0 : Int64)))]))
  by_cases hc31 : r_29 = (0 : Int64)
  · refine OEnd.of (fun t k => XS.ifNo X28.here hx rfl (hb hby d4_10) rfl ((if0 _ _).trans (teq ((lw_eq _ _).mpr hc31)).2) k) ?_
    show OEnd p e below _ (T28.setTop (mkF m 13 #[.val (.ref a1), .val (.long q2), .second] []))
    refine OEnd.of (fun t k => XS.lloadN X28.here hx rfl (hb hby d4_13) rfl k) ?_
    show OEnd p e below _ (T28.setTop (mkF m 14 #[.val (.ref a1), .val (.long q2), .second] [(.long q2)]))
    refine OEnd.of (fun t k => XS.aloadN X28.here hx rfl (hb hby d4_14) rfl rfl k) ?_
    show OEnd p e below _ (T28.setTop (mkF m 15 #[.val (.ref a1), .val (.long q2), .second] [(.ref a1), (.long q2)]))
    obtain ⟨T32, X32, e32, st32⟩ := getF X28 hx hZ hown (host := "") (Or.inl (hw _ (List.mem_of_getElem? (i := 23) rfl))) Via.refl e28 Fp (g := (mkF m 15 #[.val (.ref a1), .val (.long q2), .second] [(.ref a1), (.long q2)])) rfl rfl (hb hby d4_15)
    refine OEnd.of st32 ?_
    show OEnd p e below _ (T32.setTop (mkF m 18 #[.val (.ref a1), .val (.long q2), .second] [(.long w3), (.long q2)]))
    refine OEnd.of (fun t k => XS.lmul X32.here hx rfl (hb hby d4_18) rfl k) ?_
    show OEnd p e below _ (T32.setTop (mkF m 19 #[.val (.ref a1), .val (.long q2), .second] [(.long (q2 * w3))]))
    refine OEnd.of (fun t k => XS.goto X32.here hx rfl (pc0 := 19) (pc' := 25) rfl (hb hby d4_19) (by decide) (by decide) k) ?_
    show OEnd p e below _ (T32.setTop (mkF m 25 #[.val (.ref a1), .val (.long q2), .second] [(.long (q2 * w3))]))
    exact OEnd.retJ X32 hx hlk e32 hret (hb hby d4_25) ⟨_, rfl, N30, rfl⟩ (by decide) (by decide)
  · refine OEnd.of (fun t k => XS.ifYes X28.here hx rfl (pc0 := 10) (pc' := 22) rfl (hb hby d4_10) rfl ((if0 _ _).trans (feq (fun z => hc31 ((lw_eq _ _).mp z))).2) (by decide) (by decide) k) ?_
    show OEnd p e below _ (T28.setTop (mkF m 22 #[.val (.ref a1), .val (.long q2), .second] []))
    refine OEnd.of (X28.ldc2Long hx hown (mvT hZ (hw _ (List.mem_of_getElem? (i := 101) rfl))) (g := (mkF m 22 #[.val (.ref a1), .val (.long q2), .second] [])) rfl (hb hby d4_22)) ?_
    show OEnd p e below _ (T28.setTop (mkF m 25 #[.val (.ref a1), .val (.long q2), .second] [(.long (-1 : Int64))]))
    exact OEnd.retJ X28 hx hlk e28 hret (hb hby d4_25) ⟨_, rfl, N30, rfl⟩ (by decide) (by decide)
theorem pd_28J29J : parseMethodDescriptor "(J)J" = some ⟨[.long], some .long⟩ := by decide +kernel
theorem pd_28J29I : parseMethodDescriptor "(J)I" = some ⟨[.long], some .int⟩ := by decide +kernel
theorem d3_0 : decode prog_26_method_1_code 0 = .ok (.aload_n 0, 1) := by decide +kernel
theorem d3_1 : decode prog_26_method_1_code 1 = .ok (.invokespecial 1, 3) := by decide +kernel
theorem d3_4 : decode prog_26_method_1_code 4 = .ok (.aload_n 0, 1) := by decide +kernel
theorem d3_5 : decode prog_26_method_1_code 5 = .ok (.lload_n 1, 1) := by decide +kernel
theorem d3_6 : decode prog_26_method_1_code 6 = .ok (.putfield 7, 3) := by decide +kernel
theorem d3_9 : decode prog_26_method_1_code 9 = .ok (.aload_n 0, 1) := by decide +kernel
theorem d3_10 : decode prog_26_method_1_code 10 = .ok (.lload_n 3, 1) := by decide +kernel
theorem d3_11 : decode prog_26_method_1_code 11 = .ok (.putfield 13, 3) := by decide +kernel
theorem d3_14 : decode prog_26_method_1_code 14 = .ok (.aload_n 0, 1) := by decide +kernel
theorem d3_15 : decode prog_26_method_1_code 15 = .ok (.lload 5, 2) := by decide +kernel
theorem d3_17 : decode prog_26_method_1_code 17 = .ok (.putfield 16, 3) := by decide +kernel
theorem d3_20 : decode prog_26_method_1_code 20 = .ok (.aload_n 0, 1) := by decide +kernel
theorem d3_21 : decode prog_26_method_1_code 21 = .ok (.aload_n 0, 1) := by decide +kernel
theorem d3_22 : decode prog_26_method_1_code 22 = .ok (.lload_n 1, 1) := by decide +kernel
theorem d3_23 : decode prog_26_method_1_code 23 = .ok (.invokevirtual 19, 3) := by decide +kernel
theorem d3_26 : decode prog_26_method_1_code 26 = .ok (.putfield 23, 3) := by decide +kernel
theorem d3_29 : decode prog_26_method_1_code 29 = .ok (.aload_n 0, 1) := by decide +kernel
theorem d3_30 : decode prog_26_method_1_code 30 = .ok (.aload_n 0, 1) := by decide +kernel
theorem d3_31 : decode prog_26_method_1_code 31 = .ok (.getfield 23, 3) := by decide +kernel
theorem d3_34 : decode prog_26_method_1_code 34 = .ok (.lconst 0, 1) := by decide +kernel
theorem d3_35 : decode prog_26_method_1_code 35 = .ok (.lcmp, 1) := by decide +kernel
theorem d3_36 : decode prog_26_method_1_code 36 = .ok (.ifCond .ge 7, 3) := by decide +kernel
theorem d3_39 : decode prog_26_method_1_code 39 = .ok (.iconst 0, 1) := by decide +kernel
theorem d3_40 : decode prog_26_method_1_code 40 = .ok (.goto 13, 3) := by decide +kernel
theorem d3_43 : decode prog_26_method_1_code 43 = .ok (.bipush 64, 2) := by decide +kernel
theorem d3_45 : decode prog_26_method_1_code 45 = .ok (.aload_n 0, 1) := by decide +kernel
theorem d3_46 : decode prog_26_method_1_code 46 = .ok (.getfield 23, 3) := by decide +kernel
theorem d3_49 : decode prog_26_method_1_code 49 = .ok (.invokestatic 28, 3) := by decide +kernel
theorem d3_52 : decode prog_26_method_1_code 52 = .ok (.isub, 1) := by decide +kernel
theorem d3_53 : decode prog_26_method_1_code 53 = .ok (.putfield 32, 3) := by decide +kernel
theorem d3_56 : decode prog_26_method_1_code 56 = .ok (.aload_n 0, 1) := by decide +kernel
theorem d3_57 : decode prog_26_method_1_code 57 = .ok (.ldc2_w 36, 3) := by decide +kernel
theorem d3_60 : decode prog_26_method_1_code 60 = .ok (.lload_n 3, 1) := by decide +kernel
theorem d3_61 : decode prog_26_method_1_code 61 = .ok (.ldiv, 1) := by decide +kernel
theorem d3_62 : decode prog_26_method_1_code 62 = .ok (.putfield 38, 3) := by decide +kernel
theorem d3_65 : decode prog_26_method_1_code 65 = .ok (.return_, 1) := by decide +kernel
abbrev RMrm3 : Room := { frames := 2, cells := 0, slots := 0, locals := 46 }
theorem ef_rm3 (m : MethodId) (a1 : Addr) (q2 : Int64) (q3 : Int64) (q4 : Int64) : entryFrame m #[(.ref a1), (.long q2), (.long q3), (.long q4)] 7 = mkF m 0 #[.val (.ref a1), .val (.long q2), .second, .val (.long q3), .second, .val (.long q4), .second] [] := by first | (simp [entryFrame, mkF, argsToLocals, Value.category]; done) | rfl
def Qrm3 (Z : State)  (a1 : Addr) (q2 : Int64) (q3 : Int64) (q4 : Int64) (h0 : Heap) (v : Option Value) (h : Heap) (L : List Loc) : Prop := v = none ∧ Fr Z.heap.size L ∧ Keep h0 h [a1] ∧ Exa Z h a1 "com/example/metr/metr/Parts" ∧ Fld Z h a1 "com/example/metr/metr/Parts" "capacity" "J" (.long q2) ∧ Fld Z h a1 "com/example/metr/metr/Parts" "refillTokens" "J" (.long q3) ∧ Fld Z h a1 "com/example/metr/metr/Parts" "refillPeriod" "J" (.long q4) ∧ Fld Z h a1 "com/example/metr/metr/Parts" "mostElapsed" "J" (.long ((9223372036854775807 : Int64) / q3))
set_option maxRecDepth 65536 in
set_option maxHeartbeats 40000000 in
theorem rm3 (l : Launch) (Z : State) (a0 : Array Value) (hw : ∀ d ∈ tables_1, d.before a0 Z = true)   (ws : List Jvm.Cond) (a1 : Addr) (q2 : Int64) (q3 : Int64) (q4 : Int64) (h0 : Heap) (O0 : Ext Z.heap h0) (E1 : Exa Z h0 a1 "com/example/metr/metr/Parts") (F_capacity : Fld Z h0 a1 "com/example/metr/metr/Parts" "capacity" "J" (.long (0 : Int64))) (F_refillTokens : Fld Z h0 a1 "com/example/metr/metr/Parts" "refillTokens" "J" (.long (0 : Int64))) (F_refillPeriod : Fld Z h0 a1 "com/example/metr/metr/Parts" "refillPeriod" "J" (.long (0 : Int64))) (F_capacityParts : Fld Z h0 a1 "com/example/metr/metr/Parts" "capacityParts" "J" (.long (0 : Int64))) (F_deficitBits : Fld Z h0 a1 "com/example/metr/metr/Parts" "deficitBits" "I" (.int (0 : Int32))) (F_mostElapsed : Fld Z h0 a1 "com/example/metr/metr/Parts" "mostElapsed" "J" (.long (0 : Int64))) (g1 : Z.heap.size ≤ a1) (ht : q3 ≠ 0) :
    MetFree l (⟨"com/example/metr/metr/Parts", "<init>", "(JJJ)V"⟩ : MethodName) (head1 (Jvm.Cond.code (⟨"com/example/metr/metr/Parts", "<init>", "(JJJ)V"⟩ : MethodName) prog_26_method_1_code 7 none :: ws) RMrm3) (fun a U => a = #[(.ref a1), (.long q2), (.long q3), (.long q4)] ∧ Z.Warmed39 U.vm ∧ U.heap = h0) (fun _ _ _ _ _ => True) (fun _ U o U' => ∃ v L, o = .returned v ∧ Qrm3 Z a1 q2 q3 q4 h0 v U'.heap L ∧ FrameEnd U o U' L RMrm3.cells RMrm3.slots) := by
  refine MetFree.of_bodySF (plainFor_of_name pn_com_example_metr_metr_Parts) hisR ?_
  intro p e s m args below meth c s₁ Bd hml0 hP hK
  obtain ⟨rfl, hZ, hh⟩ := hP
  have hx := Bd.exec
  have hby := Bd.bytes
  have hlk : meth.locks = false := BodyLoose.notSynchronized Bd
  have hret := Bd.returns
  have hml : c.maxLocals = 7 := hml0
  have hown : s.vm.findClass "com/example/metr/metr/Parts" = some m.cls := findClass_of_methodNamed Bd.named
  have hnm := (name_of_methodNamed Bd.named Bd.method).1
  have X0 : Stand p l e RMrm3 s m #[(.ref a1), (.long q2), (.long q3), (.long q4)] below meth c s₁ [] 0 0 := Stand.of_body Bd
  have e0 : s₁.heap = h0 := by rw [← hh, Bd.state]; rfl
  have N0 := Fr.nil Z.heap.size
  show OEnd p e below (GN s (Qrm3 Z a1 q2 q3 q4 h0) RMrm3.cells RMrm3.slots) _
  refine OEnd.of (fun t k => castTop (ef_rm3 m a1 q2 q3 q4) k) ?_
  refine OEnd.of (fun t k => XS.aloadN X0.here hx rfl (hb hby d3_0) rfl rfl k) ?_
  show OEnd p e below _ (s₁.setTop (mkF m 1 #[.val (.ref a1), .val (.long q2), .second, .val (.long q3), .second, .val (.long q4), .second] [(.ref a1)]))
  obtain ⟨T33, X33, e33, st33⟩ := initO X0 hx hZ hown (hw _ (List.mem_of_getElem? (i := 18) rfl)) (hw _ (List.mem_of_getElem? (i := 7) rfl)) (hw _ (List.mem_of_getElem? (i := 8) rfl)) e0 (g := (mkF m 1 #[.val (.ref a1), .val (.long q2), .second, .val (.long q3), .second, .val (.long q4), .second] [(.ref a1)])) rfl (by rw [hml]; rfl) rfl (hb hby d3_1) (by decide) (W := 0) (by show 2 * 0 + _ ≤ _; exact Nat.le_of_eq rfl) (by decide)
  refine OEnd.of st33 ?_
  show OEnd p e below _ (T33.setTop (mkF m 4 #[.val (.ref a1), .val (.long q2), .second, .val (.long q3), .second, .val (.long q4), .second] []))
  refine OEnd.of (fun t k => XS.aloadN X33.here hx rfl (hb hby d3_4) rfl rfl k) ?_
  show OEnd p e below _ (T33.setTop (mkF m 5 #[.val (.ref a1), .val (.long q2), .second, .val (.long q3), .second, .val (.long q4), .second] [(.ref a1)]))
  refine OEnd.of (fun t k => XS.lloadN X33.here hx rfl (hb hby d3_5) rfl k) ?_
  show OEnd p e below _ (T33.setTop (mkF m 6 #[.val (.ref a1), .val (.long q2), .second, .val (.long q3), .second, .val (.long q4), .second] [(.long q2), (.ref a1)]))
  obtain ⟨T34, h34, X34, e34, W34, st34⟩ := putF X33 hx hZ hown (host := "") (Or.inl (hw _ (List.mem_of_getElem? (i := 19) rfl))) Via.refl e33 F_capacity E1 (Or.inr ⟨(hw _ (List.mem_of_getElem? (i := 20) rfl)), rfl, hnm⟩) (hw _ (List.mem_of_getElem? (i := 13) rfl)) (ty := .long) (by decide) rfl rfl (g := (mkF m 6 #[.val (.ref a1), .val (.long q2), .second, .val (.long q3), .second, .val (.long q4), .second] [(.long q2), (.ref a1)])) rfl rfl (hb hby d3_6)
  refine OEnd.of st34 ?_
  have F35 : Fld Z h34 a1 "com/example/metr/metr/Parts" "capacity" "J" (.long q2) := Fld.same W34 F_capacity
  have E36 : Exa Z h34 a1 "com/example/metr/metr/Parts" := E1.wr W34
  have F37 : Fld Z h34 a1 "com/example/metr/metr/Parts" "refillTokens" "J" (.long (0 : Int64)) := F_refillTokens.other W34 (Or.inr (slot_ne (Or.inr (hw _ (List.mem_of_getElem? (i := 22) rfl))) (Or.inr (hw _ (List.mem_of_getElem? (i := 20) rfl))) (by decide) (t := .long) (t' := .long) (by decide) (by decide)))
  have F38 : Fld Z h34 a1 "com/example/metr/metr/Parts" "refillPeriod" "J" (.long (0 : Int64)) := F_refillPeriod.other W34 (Or.inr (slot_ne (Or.inr (hw _ (List.mem_of_getElem? (i := 24) rfl))) (Or.inr (hw _ (List.mem_of_getElem? (i := 20) rfl))) (by decide) (t := .long) (t' := .long) (by decide) (by decide)))
  have F39 : Fld Z h34 a1 "com/example/metr/metr/Parts" "capacityParts" "J" (.long (0 : Int64)) := F_capacityParts.other W34 (Or.inr (slot_ne (Or.inr (hw _ (List.mem_of_getElem? (i := 36) rfl))) (Or.inr (hw _ (List.mem_of_getElem? (i := 20) rfl))) (by decide) (t := .long) (t' := .long) (by decide) (by decide)))
  have F40 : Fld Z h34 a1 "com/example/metr/metr/Parts" "deficitBits" "I" (.int (0 : Int32)) := F_deficitBits.other W34 (Or.inr (slot_ne (Or.inr (hw _ (List.mem_of_getElem? (i := 47) rfl))) (Or.inr (hw _ (List.mem_of_getElem? (i := 20) rfl))) (by decide) (t := .int) (t' := .long) (by decide) (by decide)))
  have F41 : Fld Z h34 a1 "com/example/metr/metr/Parts" "mostElapsed" "J" (.long (0 : Int64)) := F_mostElapsed.other W34 (Or.inr (slot_ne (Or.inr (hw _ (List.mem_of_getElem? (i := 50) rfl))) (Or.inr (hw _ (List.mem_of_getElem? (i := 20) rfl))) (by decide) (t := .long) (t' := .long) (by decide) (by decide)))
  have N42 := Fr.snoc X34 N0 g1
  show OEnd p e below _ (T34.setTop (mkF m 9 #[.val (.ref a1), .val (.long q2), .second, .val (.long q3), .second, .val (.long q4), .second] []))
  refine OEnd.of (fun t k => XS.aloadN X34.here hx rfl (hb hby d3_9) rfl rfl k) ?_
  show OEnd p e below _ (T34.setTop (mkF m 10 #[.val (.ref a1), .val (.long q2), .second, .val (.long q3), .second, .val (.long q4), .second] [(.ref a1)]))
  refine OEnd.of (fun t k => XS.lloadN X34.here hx rfl (hb hby d3_10) rfl k) ?_
  show OEnd p e below _ (T34.setTop (mkF m 11 #[.val (.ref a1), .val (.long q2), .second, .val (.long q3), .second, .val (.long q4), .second] [(.long q3), (.ref a1)]))
  obtain ⟨T43, h43, X43, e43, W43, st43⟩ := putF X34 hx hZ hown (host := "") (Or.inl (hw _ (List.mem_of_getElem? (i := 21) rfl))) Via.refl e34 F37 E36 (Or.inr ⟨(hw _ (List.mem_of_getElem? (i := 22) rfl)), rfl, hnm⟩) (hw _ (List.mem_of_getElem? (i := 13) rfl)) (ty := .long) (by decide) rfl rfl (g := (mkF m 11 #[.val (.ref a1), .val (.long q2), .second, .val (.long q3), .second, .val (.long q4), .second] [(.long q3), (.ref a1)])) rfl rfl (hb hby d3_11)
  refine OEnd.of st43 ?_
  have F44 : Fld Z h43 a1 "com/example/metr/metr/Parts" "refillTokens" "J" (.long q3) := Fld.same W43 F37
  have E45 : Exa Z h43 a1 "com/example/metr/metr/Parts" := E36.wr W43
  have F46 : Fld Z h43 a1 "com/example/metr/metr/Parts" "refillPeriod" "J" (.long (0 : Int64)) := F38.other W43 (Or.inr (slot_ne (Or.inr (hw _ (List.mem_of_getElem? (i := 24) rfl))) (Or.inr (hw _ (List.mem_of_getElem? (i := 22) rfl))) (by decide) (t := .long) (t' := .long) (by decide) (by decide)))
  have F47 : Fld Z h43 a1 "com/example/metr/metr/Parts" "capacityParts" "J" (.long (0 : Int64)) := F39.other W43 (Or.inr (slot_ne (Or.inr (hw _ (List.mem_of_getElem? (i := 36) rfl))) (Or.inr (hw _ (List.mem_of_getElem? (i := 22) rfl))) (by decide) (t := .long) (t' := .long) (by decide) (by decide)))
  have F48 : Fld Z h43 a1 "com/example/metr/metr/Parts" "deficitBits" "I" (.int (0 : Int32)) := F40.other W43 (Or.inr (slot_ne (Or.inr (hw _ (List.mem_of_getElem? (i := 47) rfl))) (Or.inr (hw _ (List.mem_of_getElem? (i := 22) rfl))) (by decide) (t := .int) (t' := .long) (by decide) (by decide)))
  have F49 : Fld Z h43 a1 "com/example/metr/metr/Parts" "mostElapsed" "J" (.long (0 : Int64)) := F41.other W43 (Or.inr (slot_ne (Or.inr (hw _ (List.mem_of_getElem? (i := 50) rfl))) (Or.inr (hw _ (List.mem_of_getElem? (i := 22) rfl))) (by decide) (t := .long) (t' := .long) (by decide) (by decide)))
  have F50 : Fld Z h43 a1 "com/example/metr/metr/Parts" "capacity" "J" (.long q2) := F35.other W43 (Or.inr (slot_ne (Or.inr (hw _ (List.mem_of_getElem? (i := 20) rfl))) (Or.inr (hw _ (List.mem_of_getElem? (i := 22) rfl))) (by decide) (t := .long) (t' := .long) (by decide) (by decide)))
  have N51 := Fr.snoc X43 N42 g1
  show OEnd p e below _ (T43.setTop (mkF m 14 #[.val (.ref a1), .val (.long q2), .second, .val (.long q3), .second, .val (.long q4), .second] []))
  refine OEnd.of (fun t k => XS.aloadN X43.here hx rfl (hb hby d3_14) rfl rfl k) ?_
  show OEnd p e below _ (T43.setTop (mkF m 15 #[.val (.ref a1), .val (.long q2), .second, .val (.long q3), .second, .val (.long q4), .second] [(.ref a1)]))
  refine OEnd.of (fun t k => XS.lload X43.here hx rfl (hb hby d3_15) rfl k) ?_
  show OEnd p e below _ (T43.setTop (mkF m 17 #[.val (.ref a1), .val (.long q2), .second, .val (.long q3), .second, .val (.long q4), .second] [(.long q4), (.ref a1)]))
  obtain ⟨T52, h52, X52, e52, W52, st52⟩ := putF X43 hx hZ hown (host := "") (Or.inl (hw _ (List.mem_of_getElem? (i := 23) rfl))) Via.refl e43 F46 E45 (Or.inr ⟨(hw _ (List.mem_of_getElem? (i := 24) rfl)), rfl, hnm⟩) (hw _ (List.mem_of_getElem? (i := 13) rfl)) (ty := .long) (by decide) rfl rfl (g := (mkF m 17 #[.val (.ref a1), .val (.long q2), .second, .val (.long q3), .second, .val (.long q4), .second] [(.long q4), (.ref a1)])) rfl rfl (hb hby d3_17)
  refine OEnd.of st52 ?_
  have F53 : Fld Z h52 a1 "com/example/metr/metr/Parts" "refillPeriod" "J" (.long q4) := Fld.same W52 F46
  have E54 : Exa Z h52 a1 "com/example/metr/metr/Parts" := E45.wr W52
  have F55 : Fld Z h52 a1 "com/example/metr/metr/Parts" "capacityParts" "J" (.long (0 : Int64)) := F47.other W52 (Or.inr (slot_ne (Or.inr (hw _ (List.mem_of_getElem? (i := 36) rfl))) (Or.inr (hw _ (List.mem_of_getElem? (i := 24) rfl))) (by decide) (t := .long) (t' := .long) (by decide) (by decide)))
  have F56 : Fld Z h52 a1 "com/example/metr/metr/Parts" "deficitBits" "I" (.int (0 : Int32)) := F48.other W52 (Or.inr (slot_ne (Or.inr (hw _ (List.mem_of_getElem? (i := 47) rfl))) (Or.inr (hw _ (List.mem_of_getElem? (i := 24) rfl))) (by decide) (t := .int) (t' := .long) (by decide) (by decide)))
  have F57 : Fld Z h52 a1 "com/example/metr/metr/Parts" "mostElapsed" "J" (.long (0 : Int64)) := F49.other W52 (Or.inr (slot_ne (Or.inr (hw _ (List.mem_of_getElem? (i := 50) rfl))) (Or.inr (hw _ (List.mem_of_getElem? (i := 24) rfl))) (by decide) (t := .long) (t' := .long) (by decide) (by decide)))
  have F58 : Fld Z h52 a1 "com/example/metr/metr/Parts" "capacity" "J" (.long q2) := F50.other W52 (Or.inr (slot_ne (Or.inr (hw _ (List.mem_of_getElem? (i := 20) rfl))) (Or.inr (hw _ (List.mem_of_getElem? (i := 24) rfl))) (by decide) (t := .long) (t' := .long) (by decide) (by decide)))
  have F59 : Fld Z h52 a1 "com/example/metr/metr/Parts" "refillTokens" "J" (.long q3) := F44.other W52 (Or.inr (slot_ne (Or.inr (hw _ (List.mem_of_getElem? (i := 22) rfl))) (Or.inr (hw _ (List.mem_of_getElem? (i := 24) rfl))) (by decide) (t := .long) (t' := .long) (by decide) (by decide)))
  have N60 := Fr.snoc X52 N51 g1
  show OEnd p e below _ (T52.setTop (mkF m 20 #[.val (.ref a1), .val (.long q2), .second, .val (.long q3), .second, .val (.long q4), .second] []))
  refine OEnd.of (fun t k => XS.aloadN X52.here hx rfl (hb hby d3_20) rfl rfl k) ?_
  show OEnd p e below _ (T52.setTop (mkF m 21 #[.val (.ref a1), .val (.long q2), .second, .val (.long q3), .second, .val (.long q4), .second] [(.ref a1)]))
  refine OEnd.of (fun t k => XS.aloadN X52.here hx rfl (hb hby d3_21) rfl rfl k) ?_
  show OEnd p e below _ (T52.setTop (mkF m 22 #[.val (.ref a1), .val (.long q2), .second, .val (.long q3), .second, .val (.long q4), .second] [(.ref a1), (.ref a1)]))
  refine OEnd.of (fun t k => XS.lloadN X52.here hx rfl (hb hby d3_22) rfl k) ?_
  show OEnd p e below _ (T52.setTop (mkF m 23 #[.val (.ref a1), .val (.long q2), .second, .val (.long q3), .second, .val (.long q4), .second] [(.long q2), (.ref a1), (.ref a1)]))
  have K62 : Keep h0 h52 [a1] := ((((Keep.refl h0 [a1]).wr W34 (Or.inl (List.mem_of_getElem? (i := 0) rfl))).wr W43 (Or.inl (List.mem_of_getElem? (i := 0) rfl))).wr W52 (Or.inl (List.mem_of_getElem? (i := 0) rfl)))
  have O63 : Ext Z.heap h52 := own_extKeep O0 K62 (allS g1 all0)
  obtain ⟨cq61, kq61, q61a, q61b, q61c⟩ := isOf hZ e52 E54
  obtain ⟨_, _, ⟨T61, L61, k61, n61⟩, -, X61, ⟨Lc61, hQ61, l61, y61, z61⟩, st61⟩ := X52.virtualBack hx (y := (⟨"com/example/metr/metr/Parts", "parts", "(J)J"⟩ : MethodName)) (z := (⟨"com/example/metr/metr/Parts", "parts", "(J)J"⟩ : MethodName)) hown (mvT hZ (hw _ (List.mem_of_getElem? (i := 25) rfl))) (mvT hZ (hw _ (List.mem_of_getElem? (i := 26) rfl))) (notFace_of_selects (args := #[]) (mvT hZ (hw _ (List.mem_of_getElem? (i := 28) rfl)))) (mvT hZ (hw _ (List.mem_of_getElem? (i := 28) rfl))) (mvT hZ (hw _ (List.mem_of_getElem? (i := 27) rfl))) (by decide) (backOf (W := 1) (rm4 l Z a0 hw  [] a1 q2 q4 h52 O63 F53) hZ (hw _ (List.mem_of_getElem? (i := 29) rfl)) (hw _ (List.mem_of_getElem? (i := 14) rfl)) (by decide) (by decide)) q61a q61c (g := (mkF m 23 #[.val (.ref a1), .val (.long q2), .second, .val (.long q3), .second, .val (.long q4), .second] [(.long q2), (.ref a1), (.ref a1)])) rfl (by rw [hml]; rfl) (Steps.refl _) (argsL := [(.long q2)]) (rest := [(.ref a1)]) (lenOf pd_28J29J rfl) rfl (by show 2 * 0 + _ ≤ _; exact Nat.le_of_eq rfl) (hb hby d3_23) (fun _ _ => ⟨rfl, e52, (by decide : 0 + 0 ≤ _), (by decide : 0 + 0 ≤ _)⟩)
  dsimp only [Pt.U, Pt.locs, Pt.cells, Pt.slots] at X61 l61 y61 z61 st61 hQ61
  subst l61 y61 z61
  obtain ⟨r_64, rfl, Nq61, e61⟩ := hQ61
  have N65 := Fr.app N60 Nq61
  refine OEnd.of (fun t k => st61.trans k) ?_
  show OEnd p e below _ (T61.setTop (mkF m 26 #[.val (.ref a1), .val (.long q2), .second, .val (.long q3), .second, .val (.long q4), .second] [(.long r_64), (.ref a1)]))
  obtain ⟨T66, h66, X66, e66, W66, st66⟩ := putF X61 hx hZ hown (host := "") (Or.inl (hw _ (List.mem_of_getElem? (i := 35) rfl))) Via.refl e61 F55 E54 (Or.inr ⟨(hw _ (List.mem_of_getElem? (i := 36) rfl)), rfl, hnm⟩) (hw _ (List.mem_of_getElem? (i := 13) rfl)) (ty := .long) (by decide) rfl rfl (g := (mkF m 26 #[.val (.ref a1), .val (.long q2), .second, .val (.long q3), .second, .val (.long q4), .second] [(.long r_64), (.ref a1)])) rfl rfl (hb hby d3_26)
  refine OEnd.of st66 ?_
  have F67 : Fld Z h66 a1 "com/example/metr/metr/Parts" "capacityParts" "J" (.long r_64) := Fld.same W66 F55
  have E68 : Exa Z h66 a1 "com/example/metr/metr/Parts" := E54.wr W66
  have F69 : Fld Z h66 a1 "com/example/metr/metr/Parts" "deficitBits" "I" (.int (0 : Int32)) := F56.other W66 (Or.inr (slot_ne (Or.inr (hw _ (List.mem_of_getElem? (i := 47) rfl))) (Or.inr (hw _ (List.mem_of_getElem? (i := 36) rfl))) (by decide) (t := .int) (t' := .long) (by decide) (by decide)))
  have F70 : Fld Z h66 a1 "com/example/metr/metr/Parts" "mostElapsed" "J" (.long (0 : Int64)) := F57.other W66 (Or.inr (slot_ne (Or.inr (hw _ (List.mem_of_getElem? (i := 50) rfl))) (Or.inr (hw _ (List.mem_of_getElem? (i := 36) rfl))) (by decide) (t := .long) (t' := .long) (by decide) (by decide)))
  have F71 : Fld Z h66 a1 "com/example/metr/metr/Parts" "capacity" "J" (.long q2) := F58.other W66 (Or.inr (slot_ne (Or.inr (hw _ (List.mem_of_getElem? (i := 20) rfl))) (Or.inr (hw _ (List.mem_of_getElem? (i := 36) rfl))) (by decide) (t := .long) (t' := .long) (by decide) (by decide)))
  have F72 : Fld Z h66 a1 "com/example/metr/metr/Parts" "refillTokens" "J" (.long q3) := F59.other W66 (Or.inr (slot_ne (Or.inr (hw _ (List.mem_of_getElem? (i := 22) rfl))) (Or.inr (hw _ (List.mem_of_getElem? (i := 36) rfl))) (by decide) (t := .long) (t' := .long) (by decide) (by decide)))
  have F73 : Fld Z h66 a1 "com/example/metr/metr/Parts" "refillPeriod" "J" (.long q4) := F53.other W66 (Or.inr (slot_ne (Or.inr (hw _ (List.mem_of_getElem? (i := 24) rfl))) (Or.inr (hw _ (List.mem_of_getElem? (i := 36) rfl))) (by decide) (t := .long) (t' := .long) (by decide) (by decide)))
  have N74 := Fr.snoc X66 N65 g1
  show OEnd p e below _ (T66.setTop (mkF m 29 #[.val (.ref a1), .val (.long q2), .second, .val (.long q3), .second, .val (.long q4), .second] []))
  refine OEnd.of (fun t k => XS.aloadN X66.here hx rfl (hb hby d3_29) rfl rfl k) ?_
  show OEnd p e below _ (T66.setTop (mkF m 30 #[.val (.ref a1), .val (.long q2), .second, .val (.long q3), .second, .val (.long q4), .second] [(.ref a1)]))
  refine OEnd.of (fun t k => XS.aloadN X66.here hx rfl (hb hby d3_30) rfl rfl k) ?_
  show OEnd p e below _ (T66.setTop (mkF m 31 #[.val (.ref a1), .val (.long q2), .second, .val (.long q3), .second, .val (.long q4), .second] [(.ref a1), (.ref a1)]))
  obtain ⟨T75, X75, e75, st75⟩ := getF X66 hx hZ hown (host := "") (Or.inl (hw _ (List.mem_of_getElem? (i := 35) rfl))) Via.refl e66 F67 (g := (mkF m 31 #[.val (.ref a1), .val (.long q2), .second, .val (.long q3), .second, .val (.long q4), .second] [(.ref a1), (.ref a1)])) rfl rfl (hb hby d3_31)
  refine OEnd.of st75 ?_
  show OEnd p e below _ (T75.setTop (mkF m 34 #[.val (.ref a1), .val (.long q2), .second, .val (.long q3), .second, .val (.long q4), .second] [(.long r_64), (.ref a1)]))
  refine OEnd.of (fun t k => XS.lconst X75.here hx rfl (hb hby d3_34) k) ?_
  show OEnd p e below _ (T75.setTop (mkF m 35 #[.val (.ref a1), .val (.long q2), .second, .val (.long q3), .second, .val (.long q4), .second] [(.long (0 : Int64)), (.long r_64), (.ref a1)]))
  refine OEnd.of (fun t k => XS.lcmp X75.here hx rfl (hb hby d3_35) rfl k) ?_
  show OEnd p e below _ (T75.setTop (mkF m 36 #[.val (.ref a1), .val (.long q2), .second, .val (.long q3), .second, .val (.long q4), .second] [(.int (lcmpW r_64 (0 : Int64))), (.ref a1)]))
  have J76 : ∀ (T76 : State) (Lo76 : List Loc) (n53 : Int32), Stand p l e RMrm3 s m #[(.ref a1), (.long q2), (.long q3), (.long q4)] below meth c T76 Lo76 0 0 → T76.heap = h66 → Fr Z.heap.size Lo76 → OEnd p e below (GN s (Qrm3 Z a1 q2 q3 q4 h0) RMrm3.cells RMrm3.slots) (T76.setTop (mkF m 53 #[.val (.ref a1), .val (.long q2), .second, .val (.long q3), .second, .val (.long q4), .second] [(.int n53), (.ref a1)])) := by
    rintro T76 Lo76 n53 X76 e76 N76
    show OEnd p e below _ (T76.setTop (mkF m 53 #[.val (.ref a1), .val (.long q2), .second, .val (.long q3), .second, .val (.long q4), .second] [(.int n53), (.ref a1)]))
    obtain ⟨T77, h77, X77, e77, W77, st77⟩ := putF X76 hx hZ hown (host := "") (Or.inl (hw _ (List.mem_of_getElem? (i := 46) rfl))) Via.refl e76 F69 E68 (Or.inr ⟨(hw _ (List.mem_of_getElem? (i := 47) rfl)), rfl, hnm⟩) (hw _ (List.mem_of_getElem? (i := 13) rfl)) (ty := .int) (by decide) rfl rfl (g := (mkF m 53 #[.val (.ref a1), .val (.long q2), .second, .val (.long q3), .second, .val (.long q4), .second] [(.int n53), (.ref a1)])) rfl rfl (hb hby d3_53)
    refine OEnd.of st77 ?_
    have F78 : Fld Z h77 a1 "com/example/metr/metr/Parts" "deficitBits" "I" (.int n53) := Fld.same W77 F69
    have E79 : Exa Z h77 a1 "com/example/metr/metr/Parts" := E68.wr W77
    have F80 : Fld Z h77 a1 "com/example/metr/metr/Parts" "mostElapsed" "J" (.long (0 : Int64)) := F70.other W77 (Or.inr (slot_ne (Or.inr (hw _ (List.mem_of_getElem? (i := 50) rfl))) (Or.inr (hw _ (List.mem_of_getElem? (i := 47) rfl))) (by decide) (t := .long) (t' := .int) (by decide) (by decide)))
    have F81 : Fld Z h77 a1 "com/example/metr/metr/Parts" "capacity" "J" (.long q2) := F71.other W77 (Or.inr (slot_ne (Or.inr (hw _ (List.mem_of_getElem? (i := 20) rfl))) (Or.inr (hw _ (List.mem_of_getElem? (i := 47) rfl))) (by decide) (t := .long) (t' := .int) (by decide) (by decide)))
    have F82 : Fld Z h77 a1 "com/example/metr/metr/Parts" "refillTokens" "J" (.long q3) := F72.other W77 (Or.inr (slot_ne (Or.inr (hw _ (List.mem_of_getElem? (i := 22) rfl))) (Or.inr (hw _ (List.mem_of_getElem? (i := 47) rfl))) (by decide) (t := .long) (t' := .int) (by decide) (by decide)))
    have F83 : Fld Z h77 a1 "com/example/metr/metr/Parts" "refillPeriod" "J" (.long q4) := F73.other W77 (Or.inr (slot_ne (Or.inr (hw _ (List.mem_of_getElem? (i := 24) rfl))) (Or.inr (hw _ (List.mem_of_getElem? (i := 47) rfl))) (by decide) (t := .long) (t' := .int) (by decide) (by decide)))
    have F84 : Fld Z h77 a1 "com/example/metr/metr/Parts" "capacityParts" "J" (.long r_64) := F67.other W77 (Or.inr (slot_ne (Or.inr (hw _ (List.mem_of_getElem? (i := 36) rfl))) (Or.inr (hw _ (List.mem_of_getElem? (i := 47) rfl))) (by decide) (t := .long) (t' := .int) (by decide) (by decide)))
    have N85 := Fr.snoc X77 N76 g1
    show OEnd p e below _ (T77.setTop (mkF m 56 #[.val (.ref a1), .val (.long q2), .second, .val (.long q3), .second, .val (.long q4), .second] []))
    refine OEnd.of (fun t k => XS.aloadN X77.here hx rfl (hb hby d3_56) rfl rfl k) ?_
    show OEnd p e below _ (T77.setTop (mkF m 57 #[.val (.ref a1), .val (.long q2), .second, .val (.long q3), .second, .val (.long q4), .second] [(.ref a1)]))
    refine OEnd.of (X77.ldc2Long hx hown (mvT hZ (hw _ (List.mem_of_getElem? (i := 48) rfl))) (g := (mkF m 57 #[.val (.ref a1), .val (.long q2), .second, .val (.long q3), .second, .val (.long q4), .second] [(.ref a1)])) rfl (hb hby d3_57)) ?_
    show OEnd p e below _ (T77.setTop (mkF m 60 #[.val (.ref a1), .val (.long q2), .second, .val (.long q3), .second, .val (.long q4), .second] [(.long (9223372036854775807 : Int64)), (.ref a1)]))
    refine OEnd.of (fun t k => XS.lloadN X77.here hx rfl (hb hby d3_60) rfl k) ?_
    show OEnd p e below _ (T77.setTop (mkF m 61 #[.val (.ref a1), .val (.long q2), .second, .val (.long q3), .second, .val (.long q4), .second] [(.long q3), (.long (9223372036854775807 : Int64)), (.ref a1)]))
    refine OEnd.of (fun t k => XS.ldiv X77.here hx rfl (hb hby d3_61) rfl ht k) ?_
    show OEnd p e below _ (T77.setTop (mkF m 62 #[.val (.ref a1), .val (.long q2), .second, .val (.long q3), .second, .val (.long q4), .second] [(.long ((9223372036854775807 : Int64) / q3)), (.ref a1)]))
    obtain ⟨T86, h86, X86, e86, W86, st86⟩ := putF X77 hx hZ hown (host := "") (Or.inl (hw _ (List.mem_of_getElem? (i := 49) rfl))) Via.refl e77 F80 E79 (Or.inr ⟨(hw _ (List.mem_of_getElem? (i := 50) rfl)), rfl, hnm⟩) (hw _ (List.mem_of_getElem? (i := 13) rfl)) (ty := .long) (by decide) rfl rfl (g := (mkF m 62 #[.val (.ref a1), .val (.long q2), .second, .val (.long q3), .second, .val (.long q4), .second] [(.long ((9223372036854775807 : Int64) / q3)), (.ref a1)])) rfl rfl (hb hby d3_62)
    refine OEnd.of st86 ?_
    have F87 : Fld Z h86 a1 "com/example/metr/metr/Parts" "mostElapsed" "J" (.long ((9223372036854775807 : Int64) / q3)) := Fld.same W86 F80
    have E88 : Exa Z h86 a1 "com/example/metr/metr/Parts" := E79.wr W86
    have F89 : Fld Z h86 a1 "com/example/metr/metr/Parts" "capacity" "J" (.long q2) := F81.other W86 (Or.inr (slot_ne (Or.inr (hw _ (List.mem_of_getElem? (i := 20) rfl))) (Or.inr (hw _ (List.mem_of_getElem? (i := 50) rfl))) (by decide) (t := .long) (t' := .long) (by decide) (by decide)))
    have F90 : Fld Z h86 a1 "com/example/metr/metr/Parts" "refillTokens" "J" (.long q3) := F82.other W86 (Or.inr (slot_ne (Or.inr (hw _ (List.mem_of_getElem? (i := 22) rfl))) (Or.inr (hw _ (List.mem_of_getElem? (i := 50) rfl))) (by decide) (t := .long) (t' := .long) (by decide) (by decide)))
    have F91 : Fld Z h86 a1 "com/example/metr/metr/Parts" "refillPeriod" "J" (.long q4) := F83.other W86 (Or.inr (slot_ne (Or.inr (hw _ (List.mem_of_getElem? (i := 24) rfl))) (Or.inr (hw _ (List.mem_of_getElem? (i := 50) rfl))) (by decide) (t := .long) (t' := .long) (by decide) (by decide)))
    have F92 : Fld Z h86 a1 "com/example/metr/metr/Parts" "capacityParts" "J" (.long r_64) := F84.other W86 (Or.inr (slot_ne (Or.inr (hw _ (List.mem_of_getElem? (i := 36) rfl))) (Or.inr (hw _ (List.mem_of_getElem? (i := 50) rfl))) (by decide) (t := .long) (t' := .long) (by decide) (by decide)))
    have F93 : Fld Z h86 a1 "com/example/metr/metr/Parts" "deficitBits" "I" (.int n53) := F78.other W86 (Or.inr (slot_ne (Or.inr (hw _ (List.mem_of_getElem? (i := 47) rfl))) (Or.inr (hw _ (List.mem_of_getElem? (i := 50) rfl))) (by decide) (t := .int) (t' := .long) (by decide) (by decide)))
    have N94 := Fr.snoc X86 N85 g1
    show OEnd p e below _ (T86.setTop (mkF m 65 #[.val (.ref a1), .val (.long q2), .second, .val (.long q3), .second, .val (.long q4), .second] []))
    have K95 : Keep h0 h86 [a1] := (((K62.wr W66 (Or.inl (List.mem_of_getElem? (i := 0) rfl))).wr W77 (Or.inl (List.mem_of_getElem? (i := 0) rfl))).wr W86 (Or.inl (List.mem_of_getElem? (i := 0) rfl)))
    exact OEnd.retV X86 hx hlk e86 hret (hb hby d3_65) ⟨rfl, N94, K95, E88, F89, F90, F91, F87⟩ (by decide) (by decide)
  by_cases hc96 : r_64 < (0 : Int64)
  · refine OEnd.of (fun t k => XS.ifNo X75.here hx rfl (hb hby d3_36) rfl ((if0 _ _).trans (tlt ((lw_lt _ _).mpr hc96)).2.1) k) ?_
    show OEnd p e below _ (T75.setTop (mkF m 39 #[.val (.ref a1), .val (.long q2), .second, .val (.long q3), .second, .val (.long q4), .second] [(.ref a1)]))
    refine OEnd.of (fun t k => XS.iconst X75.here hx rfl (hb hby d3_39) k) ?_
    show OEnd p e below _ (T75.setTop (mkF m 40 #[.val (.ref a1), .val (.long q2), .second, .val (.long q3), .second, .val (.long q4), .second] [(.int (0 : Int32)), (.ref a1)]))
    refine OEnd.of (fun t k => XS.goto X75.here hx rfl (pc0 := 40) (pc' := 53) rfl (hb hby d3_40) (by decide) (by decide) k) ?_
    show OEnd p e below _ (T75.setTop (mkF m 53 #[.val (.ref a1), .val (.long q2), .second, .val (.long q3), .second, .val (.long q4), .second] [(.int (0 : Int32)), (.ref a1)]))
    exact J76 T75 _ (0 : Int32) X75 e75 N74
  · refine OEnd.of (fun t k => XS.ifYes X75.here hx rfl (pc0 := 36) (pc' := 43) rfl (hb hby d3_36) rfl ((if0 _ _).trans (flt (fun z => hc96 ((lw_lt _ _).mp z))).2.1) (by decide) (by decide) k) ?_
    show OEnd p e below _ (T75.setTop (mkF m 43 #[.val (.ref a1), .val (.long q2), .second, .val (.long q3), .second, .val (.long q4), .second] [(.ref a1)]))
    refine OEnd.of (fun t k => XS.bipush X75.here hx rfl (hb hby d3_43) k) ?_
    show OEnd p e below _ (T75.setTop (mkF m 45 #[.val (.ref a1), .val (.long q2), .second, .val (.long q3), .second, .val (.long q4), .second] [(.int (64 : Int32)), (.ref a1)]))
    refine OEnd.of (fun t k => XS.aloadN X75.here hx rfl (hb hby d3_45) rfl rfl k) ?_
    show OEnd p e below _ (T75.setTop (mkF m 46 #[.val (.ref a1), .val (.long q2), .second, .val (.long q3), .second, .val (.long q4), .second] [(.ref a1), (.int (64 : Int32)), (.ref a1)]))
    obtain ⟨T97, X97, e97, st97⟩ := getF X75 hx hZ hown (host := "") (Or.inl (hw _ (List.mem_of_getElem? (i := 35) rfl))) Via.refl e75 F67 (g := (mkF m 46 #[.val (.ref a1), .val (.long q2), .second, .val (.long q3), .second, .val (.long q4), .second] [(.ref a1), (.int (64 : Int32)), (.ref a1)])) rfl rfl (hb hby d3_46)
    refine OEnd.of st97 ?_
    show OEnd p e below _ (T97.setTop (mkF m 49 #[.val (.ref a1), .val (.long q2), .second, .val (.long q3), .second, .val (.long q4), .second] [(.long r_64), (.int (64 : Int32)), (.ref a1)]))
    have K99 : Keep h52 h66 [a1] := ((Keep.refl h52 [a1]).wr W66 (Or.inl (List.mem_of_getElem? (i := 0) rfl)))
    have O100 : Ext Z.heap h66 := own_extKeep O63 K99 (allS g1 all0)
    obtain ⟨_, _, ⟨T98, L98, k98, n98⟩, -, X98, ⟨Lc98, hQ98, l98, y98, z98⟩, st98⟩ := Jvm.LawKit.callS X97 hx (y := (⟨"java/lang/Long", "numberOfLeadingZeros", "(J)I"⟩ : MethodName)) hown (mvT hZ (hw _ (List.mem_of_getElem? (i := 37) rfl))) (mvT hZ (hw _ (List.mem_of_getElem? (i := 38) rfl))) (mvT hZ (hw _ (List.mem_of_getElem? (i := 39) rfl))) (mvT hZ (hw _ (List.mem_of_getElem? (i := 40) rfl))) (by decide) (backOf (W := 2) (rm6 l Z a0 hw  [] r_64 h66 O100 ) hZ (hw _ (List.mem_of_getElem? (i := 40) rfl)) (hw _ (List.mem_of_getElem? (i := 39) rfl)) (by decide) (by decide)) (g := (mkF m 49 #[.val (.ref a1), .val (.long q2), .second, .val (.long q3), .second, .val (.long q4), .second] [(.long r_64), (.int (64 : Int32)), (.ref a1)])) rfl (by rw [hml]; rfl) (argsL := [(.long r_64)]) (rest := [(.int (64 : Int32)), (.ref a1)]) (lenOf pd_28J29I rfl) rfl (by show 2 * 0 + _ ≤ _; exact Nat.le_of_eq rfl) (hb hby d3_49) (fun _ _ => ⟨rfl, e97, (by decide : 0 + 0 ≤ _), (by decide : 0 + 0 ≤ _)⟩)
    dsimp only [Pt.U, Pt.locs, Pt.cells, Pt.slots] at X98 l98 y98 z98 st98 hQ98
    subst l98 y98 z98
    obtain ⟨r_101, rfl, Nq98, e98⟩ := hQ98
    have N102 := Fr.app N74 Nq98
    refine OEnd.of st98 ?_
    show OEnd p e below _ (T98.setTop (mkF m 52 #[.val (.ref a1), .val (.long q2), .second, .val (.long q3), .second, .val (.long q4), .second] [(.int r_101), (.int (64 : Int32)), (.ref a1)]))
    refine OEnd.of (fun t k => XS.isub X98.here hx rfl (hb hby d3_52) rfl k) ?_
    show OEnd p e below _ (T98.setTop (mkF m 53 #[.val (.ref a1), .val (.long q2), .second, .val (.long q3), .second, .val (.long q4), .second] [(.int ((64 : Int32) - r_101)), (.ref a1)]))
    exact J76 T98 _ ((64 : Int32) - r_101) X98 e98 N102
/-- what the decision's fields mean: e says whether it is granted -/
def own_rel (pv : Value) (gv : Int32) (dv : Int64) (e : Int32) : Prop := (pv = .null → gv = e) ∧ (pv ≠ .null → (if dv < 0 then (0 : Int32) else 1) = e) ∧ (e = 0 ∨ e = 1)
theorem own_bool {e : Int32} (h : e = 0 ∨ e = 1) : nar .boolean e = e := by rcases h with rfl | rfl <;> rfl
theorem own_rel0 {gv e : Int32} {dv : Int64} (h : own_rel .null gv dv e) : some (Value.int (nar .boolean gv)) = some (.int e) := by rw [h.1 rfl, own_bool h.2.2]
theorem own_rel1 {gv e : Int32} {dv : Int64} {a : Addr} (h : own_rel (.ref a) gv dv e) (hd : dv < 0) : some (Value.int (nar .boolean 0)) = some (.int e) := by
  have q := h.2.1 nofun
  rw [if_pos hd] at q
  rw [← q]; rfl
theorem own_rel2 {gv e : Int32} {dv : Int64} {a : Addr} (h : own_rel (.ref a) gv dv e) (hd : ¬ dv < 0) : some (Value.int (nar .boolean 1)) = some (.int e) := by
  have q := h.2.1 nofun
  rw [if_neg hd] at q
  rw [← q]; rfl
theorem own_rel_start : own_rel .null (0 : Int32) (0 : Int64) (0 : Int32) := ⟨fun _ => rfl, fun q => absurd rfl q, Or.inl rfl⟩
theorem own_relN0 {dv : Int64} : own_rel .null (nar .boolean (0 : Int32)) dv (0 : Int32) := ⟨fun _ => rfl, fun q => absurd rfl q, Or.inl rfl⟩
theorem own_relN1 {dv : Int64} : own_rel .null (nar .boolean (1 : Int32)) dv (1 : Int32) := ⟨fun _ => rfl, fun q => absurd rfl q, Or.inr rfl⟩
theorem own_mask (x : Int64) : (x &&& 9223372036854775807).toInt = x.toInt % 9223372036854775808 := by
  have e := Jvm.Kit.i64_mask x 9223372036854775807 (k := 63) (by decide) (by decide)
  exact e
theorem own_relG (x : Int64) {a : Addr} {gv : Int32} : own_rel (.ref a) gv (x &&& 9223372036854775807) (1 : Int32) := ⟨nofun, fun _ => by
  rw [if_neg]
  intro q
  have := Int64.lt_iff_toInt_lt.mp q
  have e := own_mask x
  have z : (0 : Int64).toInt = 0 := rfl
  omega, Or.inr rfl⟩
theorem own_xor (x : Int64) : x ^^^ (-1 : Int64) = -x - 1 := by
  have q : x ^^^ (-1 : Int64) = ~~~x := by
    apply Int64.toBitVec_inj.mp
    rw [Int64.toBitVec_xor, Int64.toBitVec_not]
    show x.toBitVec ^^^ BitVec.allOnes 64 = _
    rw [BitVec.xor_allOnes]
  rw [q]
  apply Int64.toBitVec_inj.mp
  rw [Int64.toBitVec_not, Int64.toBitVec_sub, Int64.toBitVec_neg]
  show ~~~ x.toBitVec = - x.toBitVec - 1#64
  rw [BitVec.neg_eq_not_add]
  exact (BitVec.add_sub_cancel _ _).symm
theorem own_relR (x : Int64) {a : Addr} {gv : Int32} : own_rel (.ref a) gv ((x &&& 9223372036854775807) ^^^ (-1 : Int64)) (0 : Int32) := ⟨nofun, fun _ => by
  rw [if_pos]
  have e := own_mask x
  rw [own_xor]
  apply Int64.lt_iff_toInt_lt.mpr
  have z : (0 : Int64).toInt = 0 := rfl
  have o1 : (1 : Int64).toInt = 1 := rfl
  generalize (x &&& 9223372036854775807) = y at e ⊢
  have n1 : (-y).toInt = -y.toInt := Jvm.Kit.i64_neg (by omega)
  rw [Jvm.Kit.i64_sub (by rw [o1, n1]; omega) (by rw [o1, n1]; omega), n1, o1, z]
  omega, Or.inl rfl⟩

theorem d1_0 : decode prog_4_method_1_code 0 = .ok (.aload_n 0, 1) := by decide +kernel
theorem d1_1 : decode prog_4_method_1_code 1 = .ok (.invokespecial 1, 3) := by decide +kernel
theorem d1_4 : decode prog_4_method_1_code 4 = .ok (.aload_n 0, 1) := by decide +kernel
theorem d1_5 : decode prog_4_method_1_code 5 = .ok (.ldc2_w 9, 3) := by decide +kernel
theorem d1_8 : decode prog_4_method_1_code 8 = .ok (.putfield 11, 3) := by decide +kernel
theorem d1_11 : decode prog_4_method_1_code 11 = .ok (.return_, 1) := by decide +kernel
theorem pn_com_example_metr_metr_Decision : plainName "com/example/metr/metr/Decision" = true := by first | (simp [plainName, overriddenIn]; done) | decide +kernel
abbrev RMrm1 : Room := { frames := 1, cells := 0, slots := 0, locals := 12 }
theorem ef_rm1 (m : MethodId) (d : Addr) : entryFrame m #[(.ref d)] 1 = mkF m 0 #[.val (.ref d)] [] := by first | (simp [entryFrame, mkF, argsToLocals, Value.category]; done) | rfl
def Qrm1 (Z : State)  (d : Addr) (h0 : Heap) (v : Option Value) (h : Heap) (L : List Loc) : Prop := v = none ∧ Fr Z.heap.size L ∧ Keep h0 h [d] ∧ Exa Z h d "com/example/metr/metr/Decision" ∧ Fld Z h d "com/example/metr/metr/Decision" "parts" "Lcom/example/metr/metr/Parts;" .null ∧ Fld Z h d "com/example/metr/metr/Decision" "granted" "Z" (.int (0 : Int32)) ∧ Fld Z h d "com/example/metr/metr/Decision" "decided" "J" (.long (0 : Int64)) ∧ Fld Z h d "com/example/metr/metr/Decision" "tokensLeft" "J" (.long (0 : Int64)) ∧ Fld Z h d "com/example/metr/metr/Decision" "wait" "J" (.long (-1 : Int64)) ∧ Fld Z h d "com/example/metr/metr/Decision" "behind" "J" (.long (0 : Int64)) ∧ Fld Z h d "com/example/metr/metr/Decision" "tokens" "J" (.long (0 : Int64))
set_option maxRecDepth 65536 in
set_option maxHeartbeats 40000000 in
theorem rm1 (l : Launch) (Z : State) (a0 : Array Value) (hw : ∀ d ∈ tables_1, d.before a0 Z = true)   (ws : List Jvm.Cond) (d : Addr) (h0 : Heap) (O0 : Ext Z.heap h0) (E1 : Exa Z h0 d "com/example/metr/metr/Decision") (F_parts : Fld Z h0 d "com/example/metr/metr/Decision" "parts" "Lcom/example/metr/metr/Parts;" .null) (F_granted : Fld Z h0 d "com/example/metr/metr/Decision" "granted" "Z" (.int (0 : Int32))) (F_decided : Fld Z h0 d "com/example/metr/metr/Decision" "decided" "J" (.long (0 : Int64))) (F_tokensLeft : Fld Z h0 d "com/example/metr/metr/Decision" "tokensLeft" "J" (.long (0 : Int64))) (F_wait : Fld Z h0 d "com/example/metr/metr/Decision" "wait" "J" (.long (0 : Int64))) (F_behind : Fld Z h0 d "com/example/metr/metr/Decision" "behind" "J" (.long (0 : Int64))) (F_tokens : Fld Z h0 d "com/example/metr/metr/Decision" "tokens" "J" (.long (0 : Int64))) (g1 : Z.heap.size ≤ d) :
    MetFree l (⟨"com/example/metr/metr/Decision", "<init>", "()V"⟩ : MethodName) (head1 (Jvm.Cond.code (⟨"com/example/metr/metr/Decision", "<init>", "()V"⟩ : MethodName) prog_4_method_1_code 1 none :: ws) RMrm1) (fun a U => a = #[(.ref d)] ∧ Z.Warmed39 U.vm ∧ U.heap = h0) (fun _ _ _ _ _ => True) (fun _ U o U' => ∃ v L, o = .returned v ∧ Qrm1 Z d h0 v U'.heap L ∧ FrameEnd U o U' L RMrm1.cells RMrm1.slots) := by
  refine MetFree.of_bodySF (plainFor_of_name pn_com_example_metr_metr_Decision) hisR ?_
  intro p e s m args below meth c s₁ Bd hml0 hP hK
  obtain ⟨rfl, hZ, hh⟩ := hP
  have hx := Bd.exec
  have hby := Bd.bytes
  have hlk : meth.locks = false := BodyLoose.notSynchronized Bd
  have hret := Bd.returns
  have hml : c.maxLocals = 1 := hml0
  have hown : s.vm.findClass "com/example/metr/metr/Decision" = some m.cls := findClass_of_methodNamed Bd.named
  have hnm := (name_of_methodNamed Bd.named Bd.method).1
  have X0 : Stand p l e RMrm1 s m #[(.ref d)] below meth c s₁ [] 0 0 := Stand.of_body Bd
  have e0 : s₁.heap = h0 := by rw [← hh, Bd.state]; rfl
  have N0 := Fr.nil Z.heap.size
  show OEnd p e below (GN s (Qrm1 Z d h0) RMrm1.cells RMrm1.slots) _
  refine OEnd.of (fun t k => castTop (ef_rm1 m d) k) ?_
  refine OEnd.of (fun t k => XS.aloadN X0.here hx rfl (hb hby d1_0) rfl rfl k) ?_
  show OEnd p e below _ (s₁.setTop (mkF m 1 #[.val (.ref d)] [(.ref d)]))
  obtain ⟨T103, X103, e103, st103⟩ := initO X0 hx hZ hown (hw _ (List.mem_of_getElem? (i := 6) rfl)) (hw _ (List.mem_of_getElem? (i := 7) rfl)) (hw _ (List.mem_of_getElem? (i := 8) rfl)) e0 (g := (mkF m 1 #[.val (.ref d)] [(.ref d)])) rfl (by rw [hml]; rfl) rfl (hb hby d1_1) (by decide) (W := 0) (by show 2 * 0 + _ ≤ _; exact Nat.le_of_eq rfl) (by decide)
  refine OEnd.of st103 ?_
  show OEnd p e below _ (T103.setTop (mkF m 4 #[.val (.ref d)] []))
  refine OEnd.of (fun t k => XS.aloadN X103.here hx rfl (hb hby d1_4) rfl rfl k) ?_
  show OEnd p e below _ (T103.setTop (mkF m 5 #[.val (.ref d)] [(.ref d)]))
  refine OEnd.of (X103.ldc2Long hx hown (mvT hZ (hw _ (List.mem_of_getElem? (i := 9) rfl))) (g := (mkF m 5 #[.val (.ref d)] [(.ref d)])) rfl (hb hby d1_5)) ?_
  show OEnd p e below _ (T103.setTop (mkF m 8 #[.val (.ref d)] [(.long (-1 : Int64)), (.ref d)]))
  obtain ⟨T104, h104, X104, e104, W104, st104⟩ := putF X103 hx hZ hown (host := "") (Or.inl (hw _ (List.mem_of_getElem? (i := 10) rfl))) Via.refl e103 F_wait E1 (Or.inl (hw _ (List.mem_of_getElem? (i := 11) rfl))) (hw _ (List.mem_of_getElem? (i := 1) rfl)) (ty := .long) (by decide) rfl rfl (g := (mkF m 8 #[.val (.ref d)] [(.long (-1 : Int64)), (.ref d)])) rfl rfl (hb hby d1_8)
  refine OEnd.of st104 ?_
  have F105 : Fld Z h104 d "com/example/metr/metr/Decision" "wait" "J" (.long (-1 : Int64)) := Fld.same W104 F_wait
  have E106 : Exa Z h104 d "com/example/metr/metr/Decision" := E1.wr W104
  have F107 : Fld Z h104 d "com/example/metr/metr/Decision" "parts" "Lcom/example/metr/metr/Parts;" .null := F_parts.other W104 (Or.inr (slot_ne (Or.inl (hw _ (List.mem_of_getElem? (i := 60) rfl))) (Or.inl (hw _ (List.mem_of_getElem? (i := 11) rfl))) (by decide) (t := (.object "com/example/metr/metr/Parts")) (t' := .long) (by decide) (by decide)))
  have F108 : Fld Z h104 d "com/example/metr/metr/Decision" "granted" "Z" (.int (0 : Int32)) := F_granted.other W104 (Or.inr (slot_ne (Or.inl (hw _ (List.mem_of_getElem? (i := 62) rfl))) (Or.inl (hw _ (List.mem_of_getElem? (i := 11) rfl))) (by decide) (t := .boolean) (t' := .long) (by decide) (by decide)))
  have F109 : Fld Z h104 d "com/example/metr/metr/Decision" "decided" "J" (.long (0 : Int64)) := F_decided.other W104 (Or.inr (slot_ne (Or.inl (hw _ (List.mem_of_getElem? (i := 93) rfl))) (Or.inl (hw _ (List.mem_of_getElem? (i := 11) rfl))) (by decide) (t := .long) (t' := .long) (by decide) (by decide)))
  have F110 : Fld Z h104 d "com/example/metr/metr/Decision" "tokensLeft" "J" (.long (0 : Int64)) := F_tokensLeft.other W104 (Or.inr (slot_ne (Or.inl (hw _ (List.mem_of_getElem? (i := 75) rfl))) (Or.inl (hw _ (List.mem_of_getElem? (i := 11) rfl))) (by decide) (t := .long) (t' := .long) (by decide) (by decide)))
  have F111 : Fld Z h104 d "com/example/metr/metr/Decision" "behind" "J" (.long (0 : Int64)) := F_behind.other W104 (Or.inr (slot_ne (Or.inl (hw _ (List.mem_of_getElem? (i := 82) rfl))) (Or.inl (hw _ (List.mem_of_getElem? (i := 11) rfl))) (by decide) (t := .long) (t' := .long) (by decide) (by decide)))
  have F112 : Fld Z h104 d "com/example/metr/metr/Decision" "tokens" "J" (.long (0 : Int64)) := F_tokens.other W104 (Or.inr (slot_ne (Or.inl (hw _ (List.mem_of_getElem? (i := 95) rfl))) (Or.inl (hw _ (List.mem_of_getElem? (i := 11) rfl))) (by decide) (t := .long) (t' := .long) (by decide) (by decide)))
  have N113 := Fr.snoc X104 N0 g1
  show OEnd p e below _ (T104.setTop (mkF m 11 #[.val (.ref d)] []))
  have K114 : Keep h0 h104 [d] := ((Keep.refl h0 [d]).wr W104 (Or.inl (List.mem_of_getElem? (i := 0) rfl)))
  exact OEnd.retV X104 hx hlk e104 hret (hb hby d1_11) ⟨rfl, N113, K114, E106, F107, F108, F109, F110, F105, F111, F112⟩ (by decide) (by decide)
theorem d13_0 : decode prog_4_method_10_code 0 = .ok (.aload_n 0, 1) := by decide +kernel
theorem d13_1 : decode prog_4_method_10_code 1 = .ok (.getfield 15, 3) := by decide +kernel
theorem d13_4 : decode prog_4_method_10_code 4 = .ok (.aload_n 1, 1) := by decide +kernel
theorem d13_5 : decode prog_4_method_10_code 5 = .ok (.if_acmp .eq 8, 3) := by decide +kernel
theorem d13_8 : decode prog_4_method_10_code 8 = .ok (.aload_n 0, 1) := by decide +kernel
theorem d13_9 : decode prog_4_method_10_code 9 = .ok (.aload_n 1, 1) := by decide +kernel
theorem d13_10 : decode prog_4_method_10_code 10 = .ok (.putfield 15, 3) := by decide +kernel
theorem d13_13 : decode prog_4_method_10_code 13 = .ok (.return_, 1) := by decide +kernel
abbrev RMrm13 : Room := { frames := 0, cells := 0, slots := 0, locals := 0 }
theorem ef_rm13 (m : MethodId) (d : Addr) (pr : Addr) : entryFrame m #[(.ref d), (.ref pr)] 2 = mkF m 0 #[.val (.ref d), .val (.ref pr)] [] := by first | (simp [entryFrame, mkF, argsToLocals, Value.category]; done) | rfl
def Qrm13 (Z : State)  (d : Addr) (pr : Addr) (pv : Value) (gv : Int32) (dv : Int64) (tl : Int64) (wt : Int64) (bh : Int64) (tk : Int64) (h0 : Heap) (v : Option Value) (h : Heap) (L : List Loc) : Prop := v = none ∧ Fr Z.heap.size L ∧ Keep h0 h [d] ∧ Exa Z h d "com/example/metr/metr/Decision" ∧ Fld Z h d "com/example/metr/metr/Decision" "parts" "Lcom/example/metr/metr/Parts;" (.ref pr) ∧ Fld Z h d "com/example/metr/metr/Decision" "granted" "Z" (.int gv) ∧ Fld Z h d "com/example/metr/metr/Decision" "decided" "J" (.long dv) ∧ Fld Z h d "com/example/metr/metr/Decision" "tokensLeft" "J" (.long tl) ∧ Fld Z h d "com/example/metr/metr/Decision" "wait" "J" (.long wt) ∧ Fld Z h d "com/example/metr/metr/Decision" "behind" "J" (.long bh) ∧ Fld Z h d "com/example/metr/metr/Decision" "tokens" "J" (.long tk)
set_option maxRecDepth 65536 in
set_option maxHeartbeats 40000000 in
theorem rm13 (l : Launch) (Z : State) (a0 : Array Value) (hw : ∀ d ∈ tables_1, d.before a0 Z = true)   (ws : List Jvm.Cond) (d : Addr) (pr : Addr) (pv : Value) (gv : Int32) (dv : Int64) (tl : Int64) (wt : Int64) (bh : Int64) (tk : Int64) (h0 : Heap) (O0 : Ext Z.heap h0) (E1 : Exa Z h0 d "com/example/metr/metr/Decision") (F_parts : Fld Z h0 d "com/example/metr/metr/Decision" "parts" "Lcom/example/metr/metr/Parts;" pv) (F_granted : Fld Z h0 d "com/example/metr/metr/Decision" "granted" "Z" (.int gv)) (F_decided : Fld Z h0 d "com/example/metr/metr/Decision" "decided" "J" (.long dv)) (F_tokensLeft : Fld Z h0 d "com/example/metr/metr/Decision" "tokensLeft" "J" (.long tl)) (F_wait : Fld Z h0 d "com/example/metr/metr/Decision" "wait" "J" (.long wt)) (F_behind : Fld Z h0 d "com/example/metr/metr/Decision" "behind" "J" (.long bh)) (F_tokens : Fld Z h0 d "com/example/metr/metr/Decision" "tokens" "J" (.long tk)) (g1 : Z.heap.size ≤ d) (h_pv : pv.isRef = true) :
    MetFree l (⟨"com/example/metr/metr/Decision", "keep", "(Lcom/example/metr/metr/Parts;)V"⟩ : MethodName) (head1 (Jvm.Cond.code (⟨"com/example/metr/metr/Decision", "keep", "(Lcom/example/metr/metr/Parts;)V"⟩ : MethodName) prog_4_method_10_code 2 none :: ws) RMrm13) (fun a U => a = #[(.ref d), (.ref pr)] ∧ Z.Warmed39 U.vm ∧ U.heap = h0) (fun _ _ _ _ _ => True) (fun _ U o U' => ∃ v L, o = .returned v ∧ Qrm13 Z d pr pv gv dv tl wt bh tk h0 v U'.heap L ∧ FrameEnd U o U' L RMrm13.cells RMrm13.slots) := by
  refine MetFree.of_bodySF (plainFor_of_name pn_com_example_metr_metr_Decision) hisR ?_
  intro p e s m args below meth c s₁ Bd hml0 hP hK
  obtain ⟨rfl, hZ, hh⟩ := hP
  have hx := Bd.exec
  have hby := Bd.bytes
  have hlk : meth.locks = false := BodyLoose.notSynchronized Bd
  have hret := Bd.returns
  have hml : c.maxLocals = 2 := hml0
  have hown : s.vm.findClass "com/example/metr/metr/Decision" = some m.cls := findClass_of_methodNamed Bd.named
  have hnm := (name_of_methodNamed Bd.named Bd.method).1
  have X0 : Stand p l e RMrm13 s m #[(.ref d), (.ref pr)] below meth c s₁ [] 0 0 := Stand.of_body Bd
  have e0 : s₁.heap = h0 := by rw [← hh, Bd.state]; rfl
  have N0 := Fr.nil Z.heap.size
  show OEnd p e below (GN s (Qrm13 Z d pr pv gv dv tl wt bh tk h0) RMrm13.cells RMrm13.slots) _
  refine OEnd.of (fun t k => castTop (ef_rm13 m d pr) k) ?_
  refine OEnd.of (fun t k => XS.aloadN X0.here hx rfl (hb hby d13_0) rfl rfl k) ?_
  show OEnd p e below _ (s₁.setTop (mkF m 1 #[.val (.ref d), .val (.ref pr)] [(.ref d)]))
  obtain ⟨T115, X115, e115, st115⟩ := getF X0 hx hZ hown (host := "") (Or.inl (hw _ (List.mem_of_getElem? (i := 59) rfl))) Via.refl e0 F_parts (g := (mkF m 1 #[.val (.ref d), .val (.ref pr)] [(.ref d)])) rfl rfl (hb hby d13_1)
  refine OEnd.of st115 ?_
  show OEnd p e below _ (T115.setTop (mkF m 4 #[.val (.ref d), .val (.ref pr)] [pv]))
  refine OEnd.of (fun t k => XS.aloadN X115.here hx rfl (hb hby d13_4) rfl rfl k) ?_
  show OEnd p e below _ (T115.setTop (mkF m 5 #[.val (.ref d), .val (.ref pr)] [(.ref pr), pv]))
  by_cases hc116 : pv = (Value.ref pr)
  · refine OEnd.of (fun t k => Jvm.RoadKit.acmp (g := (mkF m 5 #[.val (.ref d), .val (.ref pr)] [(.ref pr), pv])) X115 hx rfl h_pv rfl (pc0 := 5) (pc' := 13) (same := true) rfl (hb hby d13_5) rfl (decide_eq_true hc116) (by decide) (by decide) k) ?_
    show OEnd p e below _ (T115.setTop (mkF m 13 #[.val (.ref d), .val (.ref pr)] []))
    subst hc116
    exact OEnd.retV X115 hx hlk e115 hret (hb hby d13_13) ⟨rfl, N0, (own_keepMono (Keep.refl h0 []) (by simp)), E1, F_parts, F_granted, F_decided, F_tokensLeft, F_wait, F_behind, F_tokens⟩ (by decide) (by decide)
  · refine OEnd.of (fun t k => Jvm.RoadKit.acmp (g := (mkF m 5 #[.val (.ref d), .val (.ref pr)] [(.ref pr), pv])) X115 hx rfl h_pv rfl (pc0 := 5) (pc' := 8) (same := false) rfl (hb hby d13_5) rfl (decide_eq_false hc116) (by decide) (by decide) k) ?_
    show OEnd p e below _ (T115.setTop (mkF m 8 #[.val (.ref d), .val (.ref pr)] []))
    refine OEnd.of (fun t k => XS.aloadN X115.here hx rfl (hb hby d13_8) rfl rfl k) ?_
    show OEnd p e below _ (T115.setTop (mkF m 9 #[.val (.ref d), .val (.ref pr)] [(.ref d)]))
    refine OEnd.of (fun t k => XS.aloadN X115.here hx rfl (hb hby d13_9) rfl rfl k) ?_
    show OEnd p e below _ (T115.setTop (mkF m 10 #[.val (.ref d), .val (.ref pr)] [(.ref pr), (.ref d)]))
    obtain ⟨T117, h117, X117, e117, W117, st117⟩ := putF X115 hx hZ hown (host := "") (Or.inl (hw _ (List.mem_of_getElem? (i := 59) rfl))) Via.refl e115 F_parts E1 (Or.inl (hw _ (List.mem_of_getElem? (i := 60) rfl))) (hw _ (List.mem_of_getElem? (i := 1) rfl)) (ty := (.object "com/example/metr/metr/Parts")) (by decide) rfl rfl (g := (mkF m 10 #[.val (.ref d), .val (.ref pr)] [(.ref pr), (.ref d)])) rfl rfl (hb hby d13_10)
    refine OEnd.of st117 ?_
    have F118 : Fld Z h117 d "com/example/metr/metr/Decision" "parts" "Lcom/example/metr/metr/Parts;" (.ref pr) := Fld.same W117 F_parts
    have E119 : Exa Z h117 d "com/example/metr/metr/Decision" := E1.wr W117
    have F120 : Fld Z h117 d "com/example/metr/metr/Decision" "granted" "Z" (.int gv) := F_granted.other W117 (Or.inr (slot_ne (Or.inl (hw _ (List.mem_of_getElem? (i := 62) rfl))) (Or.inl (hw _ (List.mem_of_getElem? (i := 60) rfl))) (by decide) (t := .boolean) (t' := (.object "com/example/metr/metr/Parts")) (by decide) (by decide)))
    have F121 : Fld Z h117 d "com/example/metr/metr/Decision" "decided" "J" (.long dv) := F_decided.other W117 (Or.inr (slot_ne (Or.inl (hw _ (List.mem_of_getElem? (i := 93) rfl))) (Or.inl (hw _ (List.mem_of_getElem? (i := 60) rfl))) (by decide) (t := .long) (t' := (.object "com/example/metr/metr/Parts")) (by decide) (by decide)))
    have F122 : Fld Z h117 d "com/example/metr/metr/Decision" "tokensLeft" "J" (.long tl) := F_tokensLeft.other W117 (Or.inr (slot_ne (Or.inl (hw _ (List.mem_of_getElem? (i := 75) rfl))) (Or.inl (hw _ (List.mem_of_getElem? (i := 60) rfl))) (by decide) (t := .long) (t' := (.object "com/example/metr/metr/Parts")) (by decide) (by decide)))
    have F123 : Fld Z h117 d "com/example/metr/metr/Decision" "wait" "J" (.long wt) := F_wait.other W117 (Or.inr (slot_ne (Or.inl (hw _ (List.mem_of_getElem? (i := 11) rfl))) (Or.inl (hw _ (List.mem_of_getElem? (i := 60) rfl))) (by decide) (t := .long) (t' := (.object "com/example/metr/metr/Parts")) (by decide) (by decide)))
    have F124 : Fld Z h117 d "com/example/metr/metr/Decision" "behind" "J" (.long bh) := F_behind.other W117 (Or.inr (slot_ne (Or.inl (hw _ (List.mem_of_getElem? (i := 82) rfl))) (Or.inl (hw _ (List.mem_of_getElem? (i := 60) rfl))) (by decide) (t := .long) (t' := (.object "com/example/metr/metr/Parts")) (by decide) (by decide)))
    have F125 : Fld Z h117 d "com/example/metr/metr/Decision" "tokens" "J" (.long tk) := F_tokens.other W117 (Or.inr (slot_ne (Or.inl (hw _ (List.mem_of_getElem? (i := 95) rfl))) (Or.inl (hw _ (List.mem_of_getElem? (i := 60) rfl))) (by decide) (t := .long) (t' := (.object "com/example/metr/metr/Parts")) (by decide) (by decide)))
    have N126 := Fr.snoc X117 N0 g1
    show OEnd p e below _ (T117.setTop (mkF m 13 #[.val (.ref d), .val (.ref pr)] []))
    have K127 : Keep h0 h117 [d] := ((Keep.refl h0 [d]).wr W117 (Or.inl (List.mem_of_getElem? (i := 0) rfl)))
    exact OEnd.retV X117 hx hlk e117 hret (hb hby d13_13) ⟨rfl, N126, K127, E119, F118, F120, F121, F122, F123, F124, F125⟩ (by decide) (by decide)
theorem d10_0 : decode prog_4_method_6_code 0 = .ok (.aload_n 0, 1) := by decide +kernel
theorem d10_1 : decode prog_4_method_6_code 1 = .ok (.iload_n 1, 1) := by decide +kernel
theorem d10_2 : decode prog_4_method_6_code 2 = .ok (.putfield 19, 3) := by decide +kernel
theorem d10_5 : decode prog_4_method_6_code 5 = .ok (.aload_n 0, 1) := by decide +kernel
theorem d10_6 : decode prog_4_method_6_code 6 = .ok (.aconst_null, 1) := by decide +kernel
theorem d10_7 : decode prog_4_method_6_code 7 = .ok (.putfield 15, 3) := by decide +kernel
theorem d10_10 : decode prog_4_method_6_code 10 = .ok (.aload_n 0, 1) := by decide +kernel
theorem d10_11 : decode prog_4_method_6_code 11 = .ok (.lload_n 2, 1) := by decide +kernel
theorem d10_12 : decode prog_4_method_6_code 12 = .ok (.putfield 26, 3) := by decide +kernel
theorem d10_15 : decode prog_4_method_6_code 15 = .ok (.aload_n 0, 1) := by decide +kernel
theorem d10_16 : decode prog_4_method_6_code 16 = .ok (.lload 4, 2) := by decide +kernel
theorem d10_18 : decode prog_4_method_6_code 18 = .ok (.putfield 11, 3) := by decide +kernel
theorem d10_21 : decode prog_4_method_6_code 21 = .ok (.return_, 1) := by decide +kernel
abbrev RMrm10 : Room := { frames := 0, cells := 0, slots := 0, locals := 0 }
theorem ef_rm10 (m : MethodId) (d : Addr) (fl : Int32) (x1 : Int64) (y1 : Int64) : entryFrame m #[(.ref d), (.int fl), (.long x1), (.long y1)] 6 = mkF m 0 #[.val (.ref d), .val (.int fl), .val (.long x1), .second, .val (.long y1), .second] [] := by first | (simp [entryFrame, mkF, argsToLocals, Value.category]; done) | rfl
def Qrm10 (Z : State)  (d : Addr) (fl : Int32) (x1 : Int64) (y1 : Int64) (pv : Value) (gv : Int32) (dv : Int64) (tl : Int64) (wt : Int64) (bh : Int64) (tk : Int64) (h0 : Heap) (v : Option Value) (h : Heap) (L : List Loc) : Prop := v = none ∧ Fr Z.heap.size L ∧ Keep h0 h [d] ∧ Exa Z h d "com/example/metr/metr/Decision" ∧ Fld Z h d "com/example/metr/metr/Decision" "parts" "Lcom/example/metr/metr/Parts;" .null ∧ Fld Z h d "com/example/metr/metr/Decision" "granted" "Z" (.int (nar .boolean fl)) ∧ Fld Z h d "com/example/metr/metr/Decision" "decided" "J" (.long dv) ∧ Fld Z h d "com/example/metr/metr/Decision" "tokensLeft" "J" (.long x1) ∧ Fld Z h d "com/example/metr/metr/Decision" "wait" "J" (.long y1) ∧ Fld Z h d "com/example/metr/metr/Decision" "behind" "J" (.long bh) ∧ Fld Z h d "com/example/metr/metr/Decision" "tokens" "J" (.long tk)
set_option maxRecDepth 65536 in
set_option maxHeartbeats 40000000 in
theorem rm10 (l : Launch) (Z : State) (a0 : Array Value) (hw : ∀ d ∈ tables_1, d.before a0 Z = true)   (ws : List Jvm.Cond) (d : Addr) (fl : Int32) (x1 : Int64) (y1 : Int64) (pv : Value) (gv : Int32) (dv : Int64) (tl : Int64) (wt : Int64) (bh : Int64) (tk : Int64) (h0 : Heap) (O0 : Ext Z.heap h0) (E1 : Exa Z h0 d "com/example/metr/metr/Decision") (F_parts : Fld Z h0 d "com/example/metr/metr/Decision" "parts" "Lcom/example/metr/metr/Parts;" pv) (F_granted : Fld Z h0 d "com/example/metr/metr/Decision" "granted" "Z" (.int gv)) (F_decided : Fld Z h0 d "com/example/metr/metr/Decision" "decided" "J" (.long dv)) (F_tokensLeft : Fld Z h0 d "com/example/metr/metr/Decision" "tokensLeft" "J" (.long tl)) (F_wait : Fld Z h0 d "com/example/metr/metr/Decision" "wait" "J" (.long wt)) (F_behind : Fld Z h0 d "com/example/metr/metr/Decision" "behind" "J" (.long bh)) (F_tokens : Fld Z h0 d "com/example/metr/metr/Decision" "tokens" "J" (.long tk)) (g1 : Z.heap.size ≤ d) (h_pv : pv.isRef = true) :
    MetFree l (⟨"com/example/metr/metr/Decision", "set", "(ZJJ)V"⟩ : MethodName) (head1 (Jvm.Cond.code (⟨"com/example/metr/metr/Decision", "set", "(ZJJ)V"⟩ : MethodName) prog_4_method_6_code 6 none :: ws) RMrm10) (fun a U => a = #[(.ref d), (.int fl), (.long x1), (.long y1)] ∧ Z.Warmed39 U.vm ∧ U.heap = h0) (fun _ _ _ _ _ => True) (fun _ U o U' => ∃ v L, o = .returned v ∧ Qrm10 Z d fl x1 y1 pv gv dv tl wt bh tk h0 v U'.heap L ∧ FrameEnd U o U' L RMrm10.cells RMrm10.slots) := by
  refine MetFree.of_bodySF (plainFor_of_name pn_com_example_metr_metr_Decision) hisR ?_
  intro p e s m args below meth c s₁ Bd hml0 hP hK
  obtain ⟨rfl, hZ, hh⟩ := hP
  have hx := Bd.exec
  have hby := Bd.bytes
  have hlk : meth.locks = false := BodyLoose.notSynchronized Bd
  have hret := Bd.returns
  have hml : c.maxLocals = 6 := hml0
  have hown : s.vm.findClass "com/example/metr/metr/Decision" = some m.cls := findClass_of_methodNamed Bd.named
  have hnm := (name_of_methodNamed Bd.named Bd.method).1
  have X0 : Stand p l e RMrm10 s m #[(.ref d), (.int fl), (.long x1), (.long y1)] below meth c s₁ [] 0 0 := Stand.of_body Bd
  have e0 : s₁.heap = h0 := by rw [← hh, Bd.state]; rfl
  have N0 := Fr.nil Z.heap.size
  show OEnd p e below (GN s (Qrm10 Z d fl x1 y1 pv gv dv tl wt bh tk h0) RMrm10.cells RMrm10.slots) _
  refine OEnd.of (fun t k => castTop (ef_rm10 m d fl x1 y1) k) ?_
  refine OEnd.of (fun t k => XS.aloadN X0.here hx rfl (hb hby d10_0) rfl rfl k) ?_
  show OEnd p e below _ (s₁.setTop (mkF m 1 #[.val (.ref d), .val (.int fl), .val (.long x1), .second, .val (.long y1), .second] [(.ref d)]))
  refine OEnd.of (fun t k => XS.iloadN X0.here hx rfl (hb hby d10_1) rfl k) ?_
  show OEnd p e below _ (s₁.setTop (mkF m 2 #[.val (.ref d), .val (.int fl), .val (.long x1), .second, .val (.long y1), .second] [(.int fl), (.ref d)]))
  obtain ⟨T128, h128, X128, e128, W128, st128⟩ := putFN X0 hx hZ hown (hw _ (List.mem_of_getElem? (i := 61) rfl)) Via.refl e0 F_granted E1 (Or.inl (hw _ (List.mem_of_getElem? (i := 62) rfl))) (hw _ (List.mem_of_getElem? (i := 1) rfl)) (ty := .boolean) (v' := (.int (nar .boolean fl))) (by decide) rfl (fits_nar_bool _) (g := (mkF m 2 #[.val (.ref d), .val (.int fl), .val (.long x1), .second, .val (.long y1), .second] [(.int fl), (.ref d)])) rfl rfl (hb hby d10_2)
  refine OEnd.of st128 ?_
  have F129 : Fld Z h128 d "com/example/metr/metr/Decision" "granted" "Z" (.int (nar .boolean fl)) := Fld.same W128 F_granted
  have E130 : Exa Z h128 d "com/example/metr/metr/Decision" := E1.wr W128
  have F131 : Fld Z h128 d "com/example/metr/metr/Decision" "parts" "Lcom/example/metr/metr/Parts;" pv := F_parts.other W128 (Or.inr (slot_ne (Or.inl (hw _ (List.mem_of_getElem? (i := 60) rfl))) (Or.inl (hw _ (List.mem_of_getElem? (i := 62) rfl))) (by decide) (t := (.object "com/example/metr/metr/Parts")) (t' := .boolean) (by decide) (by decide)))
  have F132 : Fld Z h128 d "com/example/metr/metr/Decision" "decided" "J" (.long dv) := F_decided.other W128 (Or.inr (slot_ne (Or.inl (hw _ (List.mem_of_getElem? (i := 93) rfl))) (Or.inl (hw _ (List.mem_of_getElem? (i := 62) rfl))) (by decide) (t := .long) (t' := .boolean) (by decide) (by decide)))
  have F133 : Fld Z h128 d "com/example/metr/metr/Decision" "tokensLeft" "J" (.long tl) := F_tokensLeft.other W128 (Or.inr (slot_ne (Or.inl (hw _ (List.mem_of_getElem? (i := 75) rfl))) (Or.inl (hw _ (List.mem_of_getElem? (i := 62) rfl))) (by decide) (t := .long) (t' := .boolean) (by decide) (by decide)))
  have F134 : Fld Z h128 d "com/example/metr/metr/Decision" "wait" "J" (.long wt) := F_wait.other W128 (Or.inr (slot_ne (Or.inl (hw _ (List.mem_of_getElem? (i := 11) rfl))) (Or.inl (hw _ (List.mem_of_getElem? (i := 62) rfl))) (by decide) (t := .long) (t' := .boolean) (by decide) (by decide)))
  have F135 : Fld Z h128 d "com/example/metr/metr/Decision" "behind" "J" (.long bh) := F_behind.other W128 (Or.inr (slot_ne (Or.inl (hw _ (List.mem_of_getElem? (i := 82) rfl))) (Or.inl (hw _ (List.mem_of_getElem? (i := 62) rfl))) (by decide) (t := .long) (t' := .boolean) (by decide) (by decide)))
  have F136 : Fld Z h128 d "com/example/metr/metr/Decision" "tokens" "J" (.long tk) := F_tokens.other W128 (Or.inr (slot_ne (Or.inl (hw _ (List.mem_of_getElem? (i := 95) rfl))) (Or.inl (hw _ (List.mem_of_getElem? (i := 62) rfl))) (by decide) (t := .long) (t' := .boolean) (by decide) (by decide)))
  have N137 := Fr.snoc X128 N0 g1
  show OEnd p e below _ (T128.setTop (mkF m 5 #[.val (.ref d), .val (.int fl), .val (.long x1), .second, .val (.long y1), .second] []))
  refine OEnd.of (fun t k => XS.aloadN X128.here hx rfl (hb hby d10_5) rfl rfl k) ?_
  show OEnd p e below _ (T128.setTop (mkF m 6 #[.val (.ref d), .val (.int fl), .val (.long x1), .second, .val (.long y1), .second] [(.ref d)]))
  refine OEnd.of (fun t k => XS.aconstNull X128.here hx rfl (hb hby d10_6) k) ?_
  show OEnd p e below _ (T128.setTop (mkF m 7 #[.val (.ref d), .val (.int fl), .val (.long x1), .second, .val (.long y1), .second] [.null, (.ref d)]))
  obtain ⟨T138, h138, X138, e138, W138, st138⟩ := putF X128 hx hZ hown (host := "") (Or.inl (hw _ (List.mem_of_getElem? (i := 59) rfl))) Via.refl e128 F131 E130 (Or.inl (hw _ (List.mem_of_getElem? (i := 60) rfl))) (hw _ (List.mem_of_getElem? (i := 1) rfl)) (ty := (.object "com/example/metr/metr/Parts")) (by decide) rfl rfl (g := (mkF m 7 #[.val (.ref d), .val (.int fl), .val (.long x1), .second, .val (.long y1), .second] [.null, (.ref d)])) rfl rfl (hb hby d10_7)
  refine OEnd.of st138 ?_
  have F139 : Fld Z h138 d "com/example/metr/metr/Decision" "parts" "Lcom/example/metr/metr/Parts;" .null := Fld.same W138 F131
  have E140 : Exa Z h138 d "com/example/metr/metr/Decision" := E130.wr W138
  have F141 : Fld Z h138 d "com/example/metr/metr/Decision" "decided" "J" (.long dv) := F132.other W138 (Or.inr (slot_ne (Or.inl (hw _ (List.mem_of_getElem? (i := 93) rfl))) (Or.inl (hw _ (List.mem_of_getElem? (i := 60) rfl))) (by decide) (t := .long) (t' := (.object "com/example/metr/metr/Parts")) (by decide) (by decide)))
  have F142 : Fld Z h138 d "com/example/metr/metr/Decision" "tokensLeft" "J" (.long tl) := F133.other W138 (Or.inr (slot_ne (Or.inl (hw _ (List.mem_of_getElem? (i := 75) rfl))) (Or.inl (hw _ (List.mem_of_getElem? (i := 60) rfl))) (by decide) (t := .long) (t' := (.object "com/example/metr/metr/Parts")) (by decide) (by decide)))
  have F143 : Fld Z h138 d "com/example/metr/metr/Decision" "wait" "J" (.long wt) := F134.other W138 (Or.inr (slot_ne (Or.inl (hw _ (List.mem_of_getElem? (i := 11) rfl))) (Or.inl (hw _ (List.mem_of_getElem? (i := 60) rfl))) (by decide) (t := .long) (t' := (.object "com/example/metr/metr/Parts")) (by decide) (by decide)))
  have F144 : Fld Z h138 d "com/example/metr/metr/Decision" "behind" "J" (.long bh) := F135.other W138 (Or.inr (slot_ne (Or.inl (hw _ (List.mem_of_getElem? (i := 82) rfl))) (Or.inl (hw _ (List.mem_of_getElem? (i := 60) rfl))) (by decide) (t := .long) (t' := (.object "com/example/metr/metr/Parts")) (by decide) (by decide)))
  have F145 : Fld Z h138 d "com/example/metr/metr/Decision" "tokens" "J" (.long tk) := F136.other W138 (Or.inr (slot_ne (Or.inl (hw _ (List.mem_of_getElem? (i := 95) rfl))) (Or.inl (hw _ (List.mem_of_getElem? (i := 60) rfl))) (by decide) (t := .long) (t' := (.object "com/example/metr/metr/Parts")) (by decide) (by decide)))
  have F146 : Fld Z h138 d "com/example/metr/metr/Decision" "granted" "Z" (.int (nar .boolean fl)) := F129.other W138 (Or.inr (slot_ne (Or.inl (hw _ (List.mem_of_getElem? (i := 62) rfl))) (Or.inl (hw _ (List.mem_of_getElem? (i := 60) rfl))) (by decide) (t := .boolean) (t' := (.object "com/example/metr/metr/Parts")) (by decide) (by decide)))
  have N147 := Fr.snoc X138 N137 g1
  show OEnd p e below _ (T138.setTop (mkF m 10 #[.val (.ref d), .val (.int fl), .val (.long x1), .second, .val (.long y1), .second] []))
  refine OEnd.of (fun t k => XS.aloadN X138.here hx rfl (hb hby d10_10) rfl rfl k) ?_
  show OEnd p e below _ (T138.setTop (mkF m 11 #[.val (.ref d), .val (.int fl), .val (.long x1), .second, .val (.long y1), .second] [(.ref d)]))
  refine OEnd.of (fun t k => XS.lloadN X138.here hx rfl (hb hby d10_11) rfl k) ?_
  show OEnd p e below _ (T138.setTop (mkF m 12 #[.val (.ref d), .val (.int fl), .val (.long x1), .second, .val (.long y1), .second] [(.long x1), (.ref d)]))
  obtain ⟨T148, h148, X148, e148, W148, st148⟩ := putF X138 hx hZ hown (host := "") (Or.inl (hw _ (List.mem_of_getElem? (i := 74) rfl))) Via.refl e138 F142 E140 (Or.inl (hw _ (List.mem_of_getElem? (i := 75) rfl))) (hw _ (List.mem_of_getElem? (i := 1) rfl)) (ty := .long) (by decide) rfl rfl (g := (mkF m 12 #[.val (.ref d), .val (.int fl), .val (.long x1), .second, .val (.long y1), .second] [(.long x1), (.ref d)])) rfl rfl (hb hby d10_12)
  refine OEnd.of st148 ?_
  have F149 : Fld Z h148 d "com/example/metr/metr/Decision" "tokensLeft" "J" (.long x1) := Fld.same W148 F142
  have E150 : Exa Z h148 d "com/example/metr/metr/Decision" := E140.wr W148
  have F151 : Fld Z h148 d "com/example/metr/metr/Decision" "decided" "J" (.long dv) := F141.other W148 (Or.inr (slot_ne (Or.inl (hw _ (List.mem_of_getElem? (i := 93) rfl))) (Or.inl (hw _ (List.mem_of_getElem? (i := 75) rfl))) (by decide) (t := .long) (t' := .long) (by decide) (by decide)))
  have F152 : Fld Z h148 d "com/example/metr/metr/Decision" "wait" "J" (.long wt) := F143.other W148 (Or.inr (slot_ne (Or.inl (hw _ (List.mem_of_getElem? (i := 11) rfl))) (Or.inl (hw _ (List.mem_of_getElem? (i := 75) rfl))) (by decide) (t := .long) (t' := .long) (by decide) (by decide)))
  have F153 : Fld Z h148 d "com/example/metr/metr/Decision" "behind" "J" (.long bh) := F144.other W148 (Or.inr (slot_ne (Or.inl (hw _ (List.mem_of_getElem? (i := 82) rfl))) (Or.inl (hw _ (List.mem_of_getElem? (i := 75) rfl))) (by decide) (t := .long) (t' := .long) (by decide) (by decide)))
  have F154 : Fld Z h148 d "com/example/metr/metr/Decision" "tokens" "J" (.long tk) := F145.other W148 (Or.inr (slot_ne (Or.inl (hw _ (List.mem_of_getElem? (i := 95) rfl))) (Or.inl (hw _ (List.mem_of_getElem? (i := 75) rfl))) (by decide) (t := .long) (t' := .long) (by decide) (by decide)))
  have F155 : Fld Z h148 d "com/example/metr/metr/Decision" "granted" "Z" (.int (nar .boolean fl)) := F146.other W148 (Or.inr (slot_ne (Or.inl (hw _ (List.mem_of_getElem? (i := 62) rfl))) (Or.inl (hw _ (List.mem_of_getElem? (i := 75) rfl))) (by decide) (t := .boolean) (t' := .long) (by decide) (by decide)))
  have F156 : Fld Z h148 d "com/example/metr/metr/Decision" "parts" "Lcom/example/metr/metr/Parts;" .null := F139.other W148 (Or.inr (slot_ne (Or.inl (hw _ (List.mem_of_getElem? (i := 60) rfl))) (Or.inl (hw _ (List.mem_of_getElem? (i := 75) rfl))) (by decide) (t := (.object "com/example/metr/metr/Parts")) (t' := .long) (by decide) (by decide)))
  have N157 := Fr.snoc X148 N147 g1
  show OEnd p e below _ (T148.setTop (mkF m 15 #[.val (.ref d), .val (.int fl), .val (.long x1), .second, .val (.long y1), .second] []))
  refine OEnd.of (fun t k => XS.aloadN X148.here hx rfl (hb hby d10_15) rfl rfl k) ?_
  show OEnd p e below _ (T148.setTop (mkF m 16 #[.val (.ref d), .val (.int fl), .val (.long x1), .second, .val (.long y1), .second] [(.ref d)]))
  refine OEnd.of (fun t k => XS.lload X148.here hx rfl (hb hby d10_16) rfl k) ?_
  show OEnd p e below _ (T148.setTop (mkF m 18 #[.val (.ref d), .val (.int fl), .val (.long x1), .second, .val (.long y1), .second] [(.long y1), (.ref d)]))
  obtain ⟨T158, h158, X158, e158, W158, st158⟩ := putF X148 hx hZ hown (host := "") (Or.inl (hw _ (List.mem_of_getElem? (i := 10) rfl))) Via.refl e148 F152 E150 (Or.inl (hw _ (List.mem_of_getElem? (i := 11) rfl))) (hw _ (List.mem_of_getElem? (i := 1) rfl)) (ty := .long) (by decide) rfl rfl (g := (mkF m 18 #[.val (.ref d), .val (.int fl), .val (.long x1), .second, .val (.long y1), .second] [(.long y1), (.ref d)])) rfl rfl (hb hby d10_18)
  refine OEnd.of st158 ?_
  have F159 : Fld Z h158 d "com/example/metr/metr/Decision" "wait" "J" (.long y1) := Fld.same W158 F152
  have E160 : Exa Z h158 d "com/example/metr/metr/Decision" := E150.wr W158
  have F161 : Fld Z h158 d "com/example/metr/metr/Decision" "decided" "J" (.long dv) := F151.other W158 (Or.inr (slot_ne (Or.inl (hw _ (List.mem_of_getElem? (i := 93) rfl))) (Or.inl (hw _ (List.mem_of_getElem? (i := 11) rfl))) (by decide) (t := .long) (t' := .long) (by decide) (by decide)))
  have F162 : Fld Z h158 d "com/example/metr/metr/Decision" "behind" "J" (.long bh) := F153.other W158 (Or.inr (slot_ne (Or.inl (hw _ (List.mem_of_getElem? (i := 82) rfl))) (Or.inl (hw _ (List.mem_of_getElem? (i := 11) rfl))) (by decide) (t := .long) (t' := .long) (by decide) (by decide)))
  have F163 : Fld Z h158 d "com/example/metr/metr/Decision" "tokens" "J" (.long tk) := F154.other W158 (Or.inr (slot_ne (Or.inl (hw _ (List.mem_of_getElem? (i := 95) rfl))) (Or.inl (hw _ (List.mem_of_getElem? (i := 11) rfl))) (by decide) (t := .long) (t' := .long) (by decide) (by decide)))
  have F164 : Fld Z h158 d "com/example/metr/metr/Decision" "granted" "Z" (.int (nar .boolean fl)) := F155.other W158 (Or.inr (slot_ne (Or.inl (hw _ (List.mem_of_getElem? (i := 62) rfl))) (Or.inl (hw _ (List.mem_of_getElem? (i := 11) rfl))) (by decide) (t := .boolean) (t' := .long) (by decide) (by decide)))
  have F165 : Fld Z h158 d "com/example/metr/metr/Decision" "parts" "Lcom/example/metr/metr/Parts;" .null := F156.other W158 (Or.inr (slot_ne (Or.inl (hw _ (List.mem_of_getElem? (i := 60) rfl))) (Or.inl (hw _ (List.mem_of_getElem? (i := 11) rfl))) (by decide) (t := (.object "com/example/metr/metr/Parts")) (t' := .long) (by decide) (by decide)))
  have F166 : Fld Z h158 d "com/example/metr/metr/Decision" "tokensLeft" "J" (.long x1) := F149.other W158 (Or.inr (slot_ne (Or.inl (hw _ (List.mem_of_getElem? (i := 75) rfl))) (Or.inl (hw _ (List.mem_of_getElem? (i := 11) rfl))) (by decide) (t := .long) (t' := .long) (by decide) (by decide)))
  have N167 := Fr.snoc X158 N157 g1
  show OEnd p e below _ (T158.setTop (mkF m 21 #[.val (.ref d), .val (.int fl), .val (.long x1), .second, .val (.long y1), .second] []))
  have K168 : Keep h0 h158 [d] := (((((Keep.refl h0 [d]).wr W128 (Or.inl (List.mem_of_getElem? (i := 0) rfl))).wr W138 (Or.inl (List.mem_of_getElem? (i := 0) rfl))).wr W148 (Or.inl (List.mem_of_getElem? (i := 0) rfl))).wr W158 (Or.inl (List.mem_of_getElem? (i := 0) rfl)))
  exact OEnd.retV X158 hx hlk e158 hret (hb hby d10_21) ⟨rfl, N167, K168, E160, F165, F164, F161, F166, F159, F162, F163⟩ (by decide) (by decide)
theorem d11_0 : decode prog_4_method_5_code 0 = .ok (.aload_n 0, 1) := by decide +kernel
theorem d11_1 : decode prog_4_method_5_code 1 = .ok (.lload_n 1, 1) := by decide +kernel
theorem d11_2 : decode prog_4_method_5_code 2 = .ok (.putfield 47, 3) := by decide +kernel
theorem d11_5 : decode prog_4_method_5_code 5 = .ok (.return_, 1) := by decide +kernel
abbrev RMrm11 : Room := { frames := 0, cells := 0, slots := 0, locals := 0 }
theorem ef_rm11 (m : MethodId) (d : Addr) (x1 : Int64) : entryFrame m #[(.ref d), (.long x1)] 3 = mkF m 0 #[.val (.ref d), .val (.long x1), .second] [] := by first | (simp [entryFrame, mkF, argsToLocals, Value.category]; done) | rfl
def Qrm11 (Z : State)  (d : Addr) (x1 : Int64) (pv : Value) (gv : Int32) (dv : Int64) (tl : Int64) (wt : Int64) (bh : Int64) (tk : Int64) (h0 : Heap) (v : Option Value) (h : Heap) (L : List Loc) : Prop := v = none ∧ Fr Z.heap.size L ∧ Keep h0 h [d] ∧ Exa Z h d "com/example/metr/metr/Decision" ∧ Fld Z h d "com/example/metr/metr/Decision" "parts" "Lcom/example/metr/metr/Parts;" pv ∧ Fld Z h d "com/example/metr/metr/Decision" "granted" "Z" (.int gv) ∧ Fld Z h d "com/example/metr/metr/Decision" "decided" "J" (.long dv) ∧ Fld Z h d "com/example/metr/metr/Decision" "tokensLeft" "J" (.long tl) ∧ Fld Z h d "com/example/metr/metr/Decision" "wait" "J" (.long wt) ∧ Fld Z h d "com/example/metr/metr/Decision" "behind" "J" (.long x1) ∧ Fld Z h d "com/example/metr/metr/Decision" "tokens" "J" (.long tk)
set_option maxRecDepth 65536 in
set_option maxHeartbeats 40000000 in
theorem rm11 (l : Launch) (Z : State) (a0 : Array Value) (hw : ∀ d ∈ tables_1, d.before a0 Z = true)   (ws : List Jvm.Cond) (d : Addr) (x1 : Int64) (pv : Value) (gv : Int32) (dv : Int64) (tl : Int64) (wt : Int64) (bh : Int64) (tk : Int64) (h0 : Heap) (O0 : Ext Z.heap h0) (E1 : Exa Z h0 d "com/example/metr/metr/Decision") (F_parts : Fld Z h0 d "com/example/metr/metr/Decision" "parts" "Lcom/example/metr/metr/Parts;" pv) (F_granted : Fld Z h0 d "com/example/metr/metr/Decision" "granted" "Z" (.int gv)) (F_decided : Fld Z h0 d "com/example/metr/metr/Decision" "decided" "J" (.long dv)) (F_tokensLeft : Fld Z h0 d "com/example/metr/metr/Decision" "tokensLeft" "J" (.long tl)) (F_wait : Fld Z h0 d "com/example/metr/metr/Decision" "wait" "J" (.long wt)) (F_behind : Fld Z h0 d "com/example/metr/metr/Decision" "behind" "J" (.long bh)) (F_tokens : Fld Z h0 d "com/example/metr/metr/Decision" "tokens" "J" (.long tk)) (g1 : Z.heap.size ≤ d) (h_pv : pv.isRef = true) :
    MetFree l (⟨"com/example/metr/metr/Decision", "setBehind", "(J)V"⟩ : MethodName) (head1 (Jvm.Cond.code (⟨"com/example/metr/metr/Decision", "setBehind", "(J)V"⟩ : MethodName) prog_4_method_5_code 3 none :: ws) RMrm11) (fun a U => a = #[(.ref d), (.long x1)] ∧ Z.Warmed39 U.vm ∧ U.heap = h0) (fun _ _ _ _ _ => True) (fun _ U o U' => ∃ v L, o = .returned v ∧ Qrm11 Z d x1 pv gv dv tl wt bh tk h0 v U'.heap L ∧ FrameEnd U o U' L RMrm11.cells RMrm11.slots) := by
  refine MetFree.of_bodySF (plainFor_of_name pn_com_example_metr_metr_Decision) hisR ?_
  intro p e s m args below meth c s₁ Bd hml0 hP hK
  obtain ⟨rfl, hZ, hh⟩ := hP
  have hx := Bd.exec
  have hby := Bd.bytes
  have hlk : meth.locks = false := BodyLoose.notSynchronized Bd
  have hret := Bd.returns
  have hml : c.maxLocals = 3 := hml0
  have hown : s.vm.findClass "com/example/metr/metr/Decision" = some m.cls := findClass_of_methodNamed Bd.named
  have hnm := (name_of_methodNamed Bd.named Bd.method).1
  have X0 : Stand p l e RMrm11 s m #[(.ref d), (.long x1)] below meth c s₁ [] 0 0 := Stand.of_body Bd
  have e0 : s₁.heap = h0 := by rw [← hh, Bd.state]; rfl
  have N0 := Fr.nil Z.heap.size
  show OEnd p e below (GN s (Qrm11 Z d x1 pv gv dv tl wt bh tk h0) RMrm11.cells RMrm11.slots) _
  refine OEnd.of (fun t k => castTop (ef_rm11 m d x1) k) ?_
  refine OEnd.of (fun t k => XS.aloadN X0.here hx rfl (hb hby d11_0) rfl rfl k) ?_
  show OEnd p e below _ (s₁.setTop (mkF m 1 #[.val (.ref d), .val (.long x1), .second] [(.ref d)]))
  refine OEnd.of (fun t k => XS.lloadN X0.here hx rfl (hb hby d11_1) rfl k) ?_
  show OEnd p e below _ (s₁.setTop (mkF m 2 #[.val (.ref d), .val (.long x1), .second] [(.long x1), (.ref d)]))
  obtain ⟨T169, h169, X169, e169, W169, st169⟩ := putF X0 hx hZ hown (host := "") (Or.inl (hw _ (List.mem_of_getElem? (i := 81) rfl))) Via.refl e0 F_behind E1 (Or.inl (hw _ (List.mem_of_getElem? (i := 82) rfl))) (hw _ (List.mem_of_getElem? (i := 1) rfl)) (ty := .long) (by decide) rfl rfl (g := (mkF m 2 #[.val (.ref d), .val (.long x1), .second] [(.long x1), (.ref d)])) rfl rfl (hb hby d11_2)
  refine OEnd.of st169 ?_
  have F170 : Fld Z h169 d "com/example/metr/metr/Decision" "behind" "J" (.long x1) := Fld.same W169 F_behind
  have E171 : Exa Z h169 d "com/example/metr/metr/Decision" := E1.wr W169
  have F172 : Fld Z h169 d "com/example/metr/metr/Decision" "parts" "Lcom/example/metr/metr/Parts;" pv := F_parts.other W169 (Or.inr (slot_ne (Or.inl (hw _ (List.mem_of_getElem? (i := 60) rfl))) (Or.inl (hw _ (List.mem_of_getElem? (i := 82) rfl))) (by decide) (t := (.object "com/example/metr/metr/Parts")) (t' := .long) (by decide) (by decide)))
  have F173 : Fld Z h169 d "com/example/metr/metr/Decision" "granted" "Z" (.int gv) := F_granted.other W169 (Or.inr (slot_ne (Or.inl (hw _ (List.mem_of_getElem? (i := 62) rfl))) (Or.inl (hw _ (List.mem_of_getElem? (i := 82) rfl))) (by decide) (t := .boolean) (t' := .long) (by decide) (by decide)))
  have F174 : Fld Z h169 d "com/example/metr/metr/Decision" "decided" "J" (.long dv) := F_decided.other W169 (Or.inr (slot_ne (Or.inl (hw _ (List.mem_of_getElem? (i := 93) rfl))) (Or.inl (hw _ (List.mem_of_getElem? (i := 82) rfl))) (by decide) (t := .long) (t' := .long) (by decide) (by decide)))
  have F175 : Fld Z h169 d "com/example/metr/metr/Decision" "tokensLeft" "J" (.long tl) := F_tokensLeft.other W169 (Or.inr (slot_ne (Or.inl (hw _ (List.mem_of_getElem? (i := 75) rfl))) (Or.inl (hw _ (List.mem_of_getElem? (i := 82) rfl))) (by decide) (t := .long) (t' := .long) (by decide) (by decide)))
  have F176 : Fld Z h169 d "com/example/metr/metr/Decision" "wait" "J" (.long wt) := F_wait.other W169 (Or.inr (slot_ne (Or.inl (hw _ (List.mem_of_getElem? (i := 11) rfl))) (Or.inl (hw _ (List.mem_of_getElem? (i := 82) rfl))) (by decide) (t := .long) (t' := .long) (by decide) (by decide)))
  have F177 : Fld Z h169 d "com/example/metr/metr/Decision" "tokens" "J" (.long tk) := F_tokens.other W169 (Or.inr (slot_ne (Or.inl (hw _ (List.mem_of_getElem? (i := 95) rfl))) (Or.inl (hw _ (List.mem_of_getElem? (i := 82) rfl))) (by decide) (t := .long) (t' := .long) (by decide) (by decide)))
  have N178 := Fr.snoc X169 N0 g1
  show OEnd p e below _ (T169.setTop (mkF m 5 #[.val (.ref d), .val (.long x1), .second] []))
  have K179 : Keep h0 h169 [d] := ((Keep.refl h0 [d]).wr W169 (Or.inl (List.mem_of_getElem? (i := 0) rfl)))
  exact OEnd.retV X169 hx hlk e169 hret (hb hby d11_5) ⟨rfl, N178, K179, E171, F172, F173, F174, F175, F176, F170, F177⟩ (by decide) (by decide)
theorem pd_28Lcom2fexample2fmetr2fmetr2fParts3b29V : parseMethodDescriptor "(Lcom/example/metr/metr/Parts;)V" = some ⟨[(.object "com/example/metr/metr/Parts")], none⟩ := by decide +kernel
theorem d14_0 : decode prog_4_method_8_code 0 = .ok (.aload_n 0, 1) := by decide +kernel
theorem d14_1 : decode prog_4_method_8_code 1 = .ok (.aload_n 1, 1) := by decide +kernel
theorem d14_2 : decode prog_4_method_8_code 2 = .ok (.invokevirtual 79, 3) := by decide +kernel
theorem d14_5 : decode prog_4_method_8_code 5 = .ok (.aload_n 0, 1) := by decide +kernel
theorem d14_6 : decode prog_4_method_8_code 6 = .ok (.lload_n 2, 1) := by decide +kernel
theorem d14_7 : decode prog_4_method_8_code 7 = .ok (.putfield 23, 3) := by decide +kernel
theorem d14_10 : decode prog_4_method_8_code 10 = .ok (.return_, 1) := by decide +kernel
abbrev RMrm14 : Room := { frames := 1, cells := 0, slots := 0, locals := 13 }
theorem ef_rm14 (m : MethodId) (d : Addr) (pr : Addr) (x1 : Int64) : entryFrame m #[(.ref d), (.ref pr), (.long x1)] 4 = mkF m 0 #[.val (.ref d), .val (.ref pr), .val (.long x1), .second] [] := by first | (simp [entryFrame, mkF, argsToLocals, Value.category]; done) | rfl
def Qrm14 (Z : State)  (d : Addr) (pr : Addr) (x1 : Int64) (pv : Value) (gv : Int32) (dv : Int64) (tl : Int64) (wt : Int64) (bh : Int64) (tk : Int64) (h0 : Heap) (v : Option Value) (h : Heap) (L : List Loc) : Prop := v = none ∧ Fr Z.heap.size L ∧ Keep h0 h [d] ∧ Exa Z h d "com/example/metr/metr/Decision" ∧ Fld Z h d "com/example/metr/metr/Decision" "parts" "Lcom/example/metr/metr/Parts;" (.ref pr) ∧ Fld Z h d "com/example/metr/metr/Decision" "granted" "Z" (.int gv) ∧ Fld Z h d "com/example/metr/metr/Decision" "decided" "J" (.long x1) ∧ Fld Z h d "com/example/metr/metr/Decision" "tokensLeft" "J" (.long tl) ∧ Fld Z h d "com/example/metr/metr/Decision" "wait" "J" (.long wt) ∧ Fld Z h d "com/example/metr/metr/Decision" "behind" "J" (.long bh) ∧ Fld Z h d "com/example/metr/metr/Decision" "tokens" "J" (.long tk)
set_option maxRecDepth 65536 in
set_option maxHeartbeats 40000000 in
theorem rm14 (l : Launch) (Z : State) (a0 : Array Value) (hw : ∀ d ∈ tables_1, d.before a0 Z = true)   (ws : List Jvm.Cond) (d : Addr) (pr : Addr) (x1 : Int64) (pv : Value) (gv : Int32) (dv : Int64) (tl : Int64) (wt : Int64) (bh : Int64) (tk : Int64) (h0 : Heap) (O0 : Ext Z.heap h0) (E1 : Exa Z h0 d "com/example/metr/metr/Decision") (F_parts : Fld Z h0 d "com/example/metr/metr/Decision" "parts" "Lcom/example/metr/metr/Parts;" pv) (F_granted : Fld Z h0 d "com/example/metr/metr/Decision" "granted" "Z" (.int gv)) (F_decided : Fld Z h0 d "com/example/metr/metr/Decision" "decided" "J" (.long dv)) (F_tokensLeft : Fld Z h0 d "com/example/metr/metr/Decision" "tokensLeft" "J" (.long tl)) (F_wait : Fld Z h0 d "com/example/metr/metr/Decision" "wait" "J" (.long wt)) (F_behind : Fld Z h0 d "com/example/metr/metr/Decision" "behind" "J" (.long bh)) (F_tokens : Fld Z h0 d "com/example/metr/metr/Decision" "tokens" "J" (.long tk)) (g1 : Z.heap.size ≤ d) (h_pv : pv.isRef = true) :
    MetFree l (⟨"com/example/metr/metr/Decision", "setGranted", "(Lcom/example/metr/metr/Parts;J)V"⟩ : MethodName) (head1 (Jvm.Cond.code (⟨"com/example/metr/metr/Decision", "setGranted", "(Lcom/example/metr/metr/Parts;J)V"⟩ : MethodName) prog_4_method_8_code 4 none :: ws) RMrm14) (fun a U => a = #[(.ref d), (.ref pr), (.long x1)] ∧ Z.Warmed39 U.vm ∧ U.heap = h0) (fun _ _ _ _ _ => True) (fun _ U o U' => ∃ v L, o = .returned v ∧ Qrm14 Z d pr x1 pv gv dv tl wt bh tk h0 v U'.heap L ∧ FrameEnd U o U' L RMrm14.cells RMrm14.slots) := by
  refine MetFree.of_bodySF (plainFor_of_name pn_com_example_metr_metr_Decision) hisR ?_
  intro p e s m args below meth c s₁ Bd hml0 hP hK
  obtain ⟨rfl, hZ, hh⟩ := hP
  have hx := Bd.exec
  have hby := Bd.bytes
  have hlk : meth.locks = false := BodyLoose.notSynchronized Bd
  have hret := Bd.returns
  have hml : c.maxLocals = 4 := hml0
  have hown : s.vm.findClass "com/example/metr/metr/Decision" = some m.cls := findClass_of_methodNamed Bd.named
  have hnm := (name_of_methodNamed Bd.named Bd.method).1
  have X0 : Stand p l e RMrm14 s m #[(.ref d), (.ref pr), (.long x1)] below meth c s₁ [] 0 0 := Stand.of_body Bd
  have e0 : s₁.heap = h0 := by rw [← hh, Bd.state]; rfl
  have N0 := Fr.nil Z.heap.size
  show OEnd p e below (GN s (Qrm14 Z d pr x1 pv gv dv tl wt bh tk h0) RMrm14.cells RMrm14.slots) _
  refine OEnd.of (fun t k => castTop (ef_rm14 m d pr x1) k) ?_
  refine OEnd.of (fun t k => XS.aloadN X0.here hx rfl (hb hby d14_0) rfl rfl k) ?_
  show OEnd p e below _ (s₁.setTop (mkF m 1 #[.val (.ref d), .val (.ref pr), .val (.long x1), .second] [(.ref d)]))
  refine OEnd.of (fun t k => XS.aloadN X0.here hx rfl (hb hby d14_1) rfl rfl k) ?_
  show OEnd p e below _ (s₁.setTop (mkF m 2 #[.val (.ref d), .val (.ref pr), .val (.long x1), .second] [(.ref pr), (.ref d)]))
  obtain ⟨cq180, q180, q180'⟩ := E1.cell
  obtain ⟨_, _, ⟨T180, L180, k180, n180⟩, -, X180, ⟨Lc180, hQ180, l180, y180, z180⟩, st180⟩ := X0.privateBack hx (y := (⟨"com/example/metr/metr/Decision", "keep", "(Lcom/example/metr/metr/Parts;)V"⟩ : MethodName)) hown (mvT hZ (hw _ (List.mem_of_getElem? (i := 88) rfl))) (mvT hZ (hw _ (List.mem_of_getElem? (i := 89) rfl))) (own_selPriv hZ (hw _ (List.mem_of_getElem? (i := 1) rfl)) (hw _ (List.mem_of_getElem? (i := 90) rfl)) (hw _ (List.mem_of_getElem? (i := 89) rfl)) (by decide)) (Cond.privateMethod_at (mvP hZ (hw _ (List.mem_of_getElem? (i := 90) rfl)) (args := #[]))) (mvT hZ (hw _ (List.mem_of_getElem? (i := 91) rfl))) (by decide) (backOf (W := 0) (rm13 l Z a0 hw  [] d pr pv gv dv tl wt bh tk h0 O0 E1 F_parts F_granted F_decided F_tokensLeft F_wait F_behind F_tokens g1 h_pv) hZ (hw _ (List.mem_of_getElem? (i := 91) rfl)) (hw _ (List.mem_of_getElem? (i := 2) rfl)) (by decide) (by decide)) (g := (mkF m 2 #[.val (.ref d), .val (.ref pr), .val (.long x1), .second] [(.ref pr), (.ref d)])) rfl (by rw [hml]; rfl) (Steps.refl _) (a := d) (by rw [e0]; exact q180) q180' (argsL := [(.ref pr)]) (rest := []) (lenOf pd_28Lcom2fexample2fmetr2fmetr2fParts3b29V rfl) rfl (by show 2 * 0 + _ ≤ _; exact Nat.le_of_eq rfl) (hb hby d14_2) (fun _ _ => ⟨rfl, e0, (by decide : 0 + 0 ≤ _), (by decide : 0 + 0 ≤ _)⟩)
  dsimp only [Pt.U, Pt.locs, Pt.cells, Pt.slots] at X180 l180 y180 z180 st180 hQ180
  subst l180 y180 z180
  obtain ⟨h180, e180⟩ : ∃ z, T180.heap = z := ⟨_, rfl⟩
  rw [e180] at hQ180
  obtain ⟨rfl, Nq180, Kq180, E_181, P_parts_182, P_granted_183, P_decided_184, P_tokensLeft_185, P_wait_186, P_behind_187, P_tokens_188⟩ := hQ180
  have N189 := Fr.app N0 Nq180
  refine OEnd.of (fun t k => st180.trans k) ?_
  show OEnd p e below _ (T180.setTop (mkF m 5 #[.val (.ref d), .val (.ref pr), .val (.long x1), .second] []))
  refine OEnd.of (fun t k => XS.aloadN X180.here hx rfl (hb hby d14_5) rfl rfl k) ?_
  show OEnd p e below _ (T180.setTop (mkF m 6 #[.val (.ref d), .val (.ref pr), .val (.long x1), .second] [(.ref d)]))
  refine OEnd.of (fun t k => XS.lloadN X180.here hx rfl (hb hby d14_6) rfl k) ?_
  show OEnd p e below _ (T180.setTop (mkF m 7 #[.val (.ref d), .val (.ref pr), .val (.long x1), .second] [(.long x1), (.ref d)]))
  obtain ⟨T190, h190, X190, e190, W190, st190⟩ := putF X180 hx hZ hown (host := "") (Or.inl (hw _ (List.mem_of_getElem? (i := 92) rfl))) Via.refl e180 P_decided_184 E_181 (Or.inl (hw _ (List.mem_of_getElem? (i := 93) rfl))) (hw _ (List.mem_of_getElem? (i := 1) rfl)) (ty := .long) (by decide) rfl rfl (g := (mkF m 7 #[.val (.ref d), .val (.ref pr), .val (.long x1), .second] [(.long x1), (.ref d)])) rfl rfl (hb hby d14_7)
  refine OEnd.of st190 ?_
  have F191 : Fld Z h190 d "com/example/metr/metr/Decision" "decided" "J" (.long x1) := Fld.same W190 P_decided_184
  have E192 : Exa Z h190 d "com/example/metr/metr/Decision" := E_181.wr W190
  have F193 : Fld Z h190 d "com/example/metr/metr/Decision" "parts" "Lcom/example/metr/metr/Parts;" (.ref pr) := P_parts_182.other W190 (Or.inr (slot_ne (Or.inl (hw _ (List.mem_of_getElem? (i := 60) rfl))) (Or.inl (hw _ (List.mem_of_getElem? (i := 93) rfl))) (by decide) (t := (.object "com/example/metr/metr/Parts")) (t' := .long) (by decide) (by decide)))
  have F194 : Fld Z h190 d "com/example/metr/metr/Decision" "granted" "Z" (.int gv) := P_granted_183.other W190 (Or.inr (slot_ne (Or.inl (hw _ (List.mem_of_getElem? (i := 62) rfl))) (Or.inl (hw _ (List.mem_of_getElem? (i := 93) rfl))) (by decide) (t := .boolean) (t' := .long) (by decide) (by decide)))
  have F195 : Fld Z h190 d "com/example/metr/metr/Decision" "tokensLeft" "J" (.long tl) := P_tokensLeft_185.other W190 (Or.inr (slot_ne (Or.inl (hw _ (List.mem_of_getElem? (i := 75) rfl))) (Or.inl (hw _ (List.mem_of_getElem? (i := 93) rfl))) (by decide) (t := .long) (t' := .long) (by decide) (by decide)))
  have F196 : Fld Z h190 d "com/example/metr/metr/Decision" "wait" "J" (.long wt) := P_wait_186.other W190 (Or.inr (slot_ne (Or.inl (hw _ (List.mem_of_getElem? (i := 11) rfl))) (Or.inl (hw _ (List.mem_of_getElem? (i := 93) rfl))) (by decide) (t := .long) (t' := .long) (by decide) (by decide)))
  have F197 : Fld Z h190 d "com/example/metr/metr/Decision" "behind" "J" (.long bh) := P_behind_187.other W190 (Or.inr (slot_ne (Or.inl (hw _ (List.mem_of_getElem? (i := 82) rfl))) (Or.inl (hw _ (List.mem_of_getElem? (i := 93) rfl))) (by decide) (t := .long) (t' := .long) (by decide) (by decide)))
  have F198 : Fld Z h190 d "com/example/metr/metr/Decision" "tokens" "J" (.long tk) := P_tokens_188.other W190 (Or.inr (slot_ne (Or.inl (hw _ (List.mem_of_getElem? (i := 95) rfl))) (Or.inl (hw _ (List.mem_of_getElem? (i := 93) rfl))) (by decide) (t := .long) (t' := .long) (by decide) (by decide)))
  have N199 := Fr.snoc X190 N189 g1
  show OEnd p e below _ (T190.setTop (mkF m 10 #[.val (.ref d), .val (.ref pr), .val (.long x1), .second] []))
  have K200 : Keep h0 h190 [d] := (((Keep.refl h0 [d]).trans Kq180 (allS (Or.inl (List.mem_of_getElem? (i := 0) rfl)) all0)).wr W190 (Or.inl (List.mem_of_getElem? (i := 0) rfl)))
  exact OEnd.retV X190 hx hlk e190 hret (hb hby d14_10) ⟨rfl, N199, K200, E192, F193, F194, F191, F195, F196, F197, F198⟩ (by decide) (by decide)
theorem d12_0 : decode prog_4_method_9_code 0 = .ok (.aload_n 0, 1) := by decide +kernel
theorem d12_1 : decode prog_4_method_9_code 1 = .ok (.aload_n 1, 1) := by decide +kernel
theorem d12_2 : decode prog_4_method_9_code 2 = .ok (.invokevirtual 79, 3) := by decide +kernel
theorem d12_5 : decode prog_4_method_9_code 5 = .ok (.aload_n 0, 1) := by decide +kernel
theorem d12_6 : decode prog_4_method_9_code 6 = .ok (.lload_n 2, 1) := by decide +kernel
theorem d12_7 : decode prog_4_method_9_code 7 = .ok (.ldc2_w 9, 3) := by decide +kernel
theorem d12_10 : decode prog_4_method_9_code 10 = .ok (.lxor, 1) := by decide +kernel
theorem d12_11 : decode prog_4_method_9_code 11 = .ok (.putfield 23, 3) := by decide +kernel
theorem d12_14 : decode prog_4_method_9_code 14 = .ok (.aload_n 0, 1) := by decide +kernel
theorem d12_15 : decode prog_4_method_9_code 15 = .ok (.lload 4, 2) := by decide +kernel
theorem d12_17 : decode prog_4_method_9_code 17 = .ok (.putfield 41, 3) := by decide +kernel
theorem d12_20 : decode prog_4_method_9_code 20 = .ok (.return_, 1) := by decide +kernel
abbrev RMrm12 : Room := { frames := 1, cells := 0, slots := 0, locals := 13 }
theorem ef_rm12 (m : MethodId) (d : Addr) (pr : Addr) (x1 : Int64) (y1 : Int64) : entryFrame m #[(.ref d), (.ref pr), (.long x1), (.long y1)] 6 = mkF m 0 #[.val (.ref d), .val (.ref pr), .val (.long x1), .second, .val (.long y1), .second] [] := by first | (simp [entryFrame, mkF, argsToLocals, Value.category]; done) | rfl
def Qrm12 (Z : State)  (d : Addr) (pr : Addr) (x1 : Int64) (y1 : Int64) (pv : Value) (gv : Int32) (dv : Int64) (tl : Int64) (wt : Int64) (bh : Int64) (tk : Int64) (h0 : Heap) (v : Option Value) (h : Heap) (L : List Loc) : Prop := v = none ∧ Fr Z.heap.size L ∧ Keep h0 h [d] ∧ Exa Z h d "com/example/metr/metr/Decision" ∧ Fld Z h d "com/example/metr/metr/Decision" "parts" "Lcom/example/metr/metr/Parts;" (.ref pr) ∧ Fld Z h d "com/example/metr/metr/Decision" "granted" "Z" (.int gv) ∧ Fld Z h d "com/example/metr/metr/Decision" "decided" "J" (.long (x1 ^^^ (-1 : Int64))) ∧ Fld Z h d "com/example/metr/metr/Decision" "tokensLeft" "J" (.long tl) ∧ Fld Z h d "com/example/metr/metr/Decision" "wait" "J" (.long wt) ∧ Fld Z h d "com/example/metr/metr/Decision" "behind" "J" (.long bh) ∧ Fld Z h d "com/example/metr/metr/Decision" "tokens" "J" (.long y1)
set_option maxRecDepth 65536 in
set_option maxHeartbeats 40000000 in
theorem rm12 (l : Launch) (Z : State) (a0 : Array Value) (hw : ∀ d ∈ tables_1, d.before a0 Z = true)   (ws : List Jvm.Cond) (d : Addr) (pr : Addr) (x1 : Int64) (y1 : Int64) (pv : Value) (gv : Int32) (dv : Int64) (tl : Int64) (wt : Int64) (bh : Int64) (tk : Int64) (h0 : Heap) (O0 : Ext Z.heap h0) (E1 : Exa Z h0 d "com/example/metr/metr/Decision") (F_parts : Fld Z h0 d "com/example/metr/metr/Decision" "parts" "Lcom/example/metr/metr/Parts;" pv) (F_granted : Fld Z h0 d "com/example/metr/metr/Decision" "granted" "Z" (.int gv)) (F_decided : Fld Z h0 d "com/example/metr/metr/Decision" "decided" "J" (.long dv)) (F_tokensLeft : Fld Z h0 d "com/example/metr/metr/Decision" "tokensLeft" "J" (.long tl)) (F_wait : Fld Z h0 d "com/example/metr/metr/Decision" "wait" "J" (.long wt)) (F_behind : Fld Z h0 d "com/example/metr/metr/Decision" "behind" "J" (.long bh)) (F_tokens : Fld Z h0 d "com/example/metr/metr/Decision" "tokens" "J" (.long tk)) (g1 : Z.heap.size ≤ d) (h_pv : pv.isRef = true) :
    MetFree l (⟨"com/example/metr/metr/Decision", "setRefused", "(Lcom/example/metr/metr/Parts;JJ)V"⟩ : MethodName) (head1 (Jvm.Cond.code (⟨"com/example/metr/metr/Decision", "setRefused", "(Lcom/example/metr/metr/Parts;JJ)V"⟩ : MethodName) prog_4_method_9_code 6 none :: ws) RMrm12) (fun a U => a = #[(.ref d), (.ref pr), (.long x1), (.long y1)] ∧ Z.Warmed39 U.vm ∧ U.heap = h0) (fun _ _ _ _ _ => True) (fun _ U o U' => ∃ v L, o = .returned v ∧ Qrm12 Z d pr x1 y1 pv gv dv tl wt bh tk h0 v U'.heap L ∧ FrameEnd U o U' L RMrm12.cells RMrm12.slots) := by
  refine MetFree.of_bodySF (plainFor_of_name pn_com_example_metr_metr_Decision) hisR ?_
  intro p e s m args below meth c s₁ Bd hml0 hP hK
  obtain ⟨rfl, hZ, hh⟩ := hP
  have hx := Bd.exec
  have hby := Bd.bytes
  have hlk : meth.locks = false := BodyLoose.notSynchronized Bd
  have hret := Bd.returns
  have hml : c.maxLocals = 6 := hml0
  have hown : s.vm.findClass "com/example/metr/metr/Decision" = some m.cls := findClass_of_methodNamed Bd.named
  have hnm := (name_of_methodNamed Bd.named Bd.method).1
  have X0 : Stand p l e RMrm12 s m #[(.ref d), (.ref pr), (.long x1), (.long y1)] below meth c s₁ [] 0 0 := Stand.of_body Bd
  have e0 : s₁.heap = h0 := by rw [← hh, Bd.state]; rfl
  have N0 := Fr.nil Z.heap.size
  show OEnd p e below (GN s (Qrm12 Z d pr x1 y1 pv gv dv tl wt bh tk h0) RMrm12.cells RMrm12.slots) _
  refine OEnd.of (fun t k => castTop (ef_rm12 m d pr x1 y1) k) ?_
  refine OEnd.of (fun t k => XS.aloadN X0.here hx rfl (hb hby d12_0) rfl rfl k) ?_
  show OEnd p e below _ (s₁.setTop (mkF m 1 #[.val (.ref d), .val (.ref pr), .val (.long x1), .second, .val (.long y1), .second] [(.ref d)]))
  refine OEnd.of (fun t k => XS.aloadN X0.here hx rfl (hb hby d12_1) rfl rfl k) ?_
  show OEnd p e below _ (s₁.setTop (mkF m 2 #[.val (.ref d), .val (.ref pr), .val (.long x1), .second, .val (.long y1), .second] [(.ref pr), (.ref d)]))
  obtain ⟨cq201, q201, q201'⟩ := E1.cell
  obtain ⟨_, _, ⟨T201, L201, k201, n201⟩, -, X201, ⟨Lc201, hQ201, l201, y201, z201⟩, st201⟩ := X0.privateBack hx (y := (⟨"com/example/metr/metr/Decision", "keep", "(Lcom/example/metr/metr/Parts;)V"⟩ : MethodName)) hown (mvT hZ (hw _ (List.mem_of_getElem? (i := 88) rfl))) (mvT hZ (hw _ (List.mem_of_getElem? (i := 89) rfl))) (own_selPriv hZ (hw _ (List.mem_of_getElem? (i := 1) rfl)) (hw _ (List.mem_of_getElem? (i := 90) rfl)) (hw _ (List.mem_of_getElem? (i := 89) rfl)) (by decide)) (Cond.privateMethod_at (mvP hZ (hw _ (List.mem_of_getElem? (i := 90) rfl)) (args := #[]))) (mvT hZ (hw _ (List.mem_of_getElem? (i := 91) rfl))) (by decide) (backOf (W := 0) (rm13 l Z a0 hw  [] d pr pv gv dv tl wt bh tk h0 O0 E1 F_parts F_granted F_decided F_tokensLeft F_wait F_behind F_tokens g1 h_pv) hZ (hw _ (List.mem_of_getElem? (i := 91) rfl)) (hw _ (List.mem_of_getElem? (i := 2) rfl)) (by decide) (by decide)) (g := (mkF m 2 #[.val (.ref d), .val (.ref pr), .val (.long x1), .second, .val (.long y1), .second] [(.ref pr), (.ref d)])) rfl (by rw [hml]; rfl) (Steps.refl _) (a := d) (by rw [e0]; exact q201) q201' (argsL := [(.ref pr)]) (rest := []) (lenOf pd_28Lcom2fexample2fmetr2fmetr2fParts3b29V rfl) rfl (by show 2 * 0 + _ ≤ _; exact Nat.le_of_eq rfl) (hb hby d12_2) (fun _ _ => ⟨rfl, e0, (by decide : 0 + 0 ≤ _), (by decide : 0 + 0 ≤ _)⟩)
  dsimp only [Pt.U, Pt.locs, Pt.cells, Pt.slots] at X201 l201 y201 z201 st201 hQ201
  subst l201 y201 z201
  obtain ⟨h201, e201⟩ : ∃ z, T201.heap = z := ⟨_, rfl⟩
  rw [e201] at hQ201
  obtain ⟨rfl, Nq201, Kq201, E_202, P_parts_203, P_granted_204, P_decided_205, P_tokensLeft_206, P_wait_207, P_behind_208, P_tokens_209⟩ := hQ201
  have N210 := Fr.app N0 Nq201
  refine OEnd.of (fun t k => st201.trans k) ?_
  show OEnd p e below _ (T201.setTop (mkF m 5 #[.val (.ref d), .val (.ref pr), .val (.long x1), .second, .val (.long y1), .second] []))
  refine OEnd.of (fun t k => XS.aloadN X201.here hx rfl (hb hby d12_5) rfl rfl k) ?_
  show OEnd p e below _ (T201.setTop (mkF m 6 #[.val (.ref d), .val (.ref pr), .val (.long x1), .second, .val (.long y1), .second] [(.ref d)]))
  refine OEnd.of (fun t k => XS.lloadN X201.here hx rfl (hb hby d12_6) rfl k) ?_
  show OEnd p e below _ (T201.setTop (mkF m 7 #[.val (.ref d), .val (.ref pr), .val (.long x1), .second, .val (.long y1), .second] [(.long x1), (.ref d)]))
  refine OEnd.of (X201.ldc2Long hx hown (mvT hZ (hw _ (List.mem_of_getElem? (i := 9) rfl))) (g := (mkF m 7 #[.val (.ref d), .val (.ref pr), .val (.long x1), .second, .val (.long y1), .second] [(.long x1), (.ref d)])) rfl (hb hby d12_7)) ?_
  show OEnd p e below _ (T201.setTop (mkF m 10 #[.val (.ref d), .val (.ref pr), .val (.long x1), .second, .val (.long y1), .second] [(.long (-1 : Int64)), (.long x1), (.ref d)]))
  refine OEnd.of (fun t k => XS.lxor X201.here hx rfl (hb hby d12_10) rfl k) ?_
  show OEnd p e below _ (T201.setTop (mkF m 11 #[.val (.ref d), .val (.ref pr), .val (.long x1), .second, .val (.long y1), .second] [(.long (x1 ^^^ (-1 : Int64))), (.ref d)]))
  obtain ⟨T211, h211, X211, e211, W211, st211⟩ := putF X201 hx hZ hown (host := "") (Or.inl (hw _ (List.mem_of_getElem? (i := 92) rfl))) Via.refl e201 P_decided_205 E_202 (Or.inl (hw _ (List.mem_of_getElem? (i := 93) rfl))) (hw _ (List.mem_of_getElem? (i := 1) rfl)) (ty := .long) (by decide) rfl rfl (g := (mkF m 11 #[.val (.ref d), .val (.ref pr), .val (.long x1), .second, .val (.long y1), .second] [(.long (x1 ^^^ (-1 : Int64))), (.ref d)])) rfl rfl (hb hby d12_11)
  refine OEnd.of st211 ?_
  have F212 : Fld Z h211 d "com/example/metr/metr/Decision" "decided" "J" (.long (x1 ^^^ (-1 : Int64))) := Fld.same W211 P_decided_205
  have E213 : Exa Z h211 d "com/example/metr/metr/Decision" := E_202.wr W211
  have F214 : Fld Z h211 d "com/example/metr/metr/Decision" "parts" "Lcom/example/metr/metr/Parts;" (.ref pr) := P_parts_203.other W211 (Or.inr (slot_ne (Or.inl (hw _ (List.mem_of_getElem? (i := 60) rfl))) (Or.inl (hw _ (List.mem_of_getElem? (i := 93) rfl))) (by decide) (t := (.object "com/example/metr/metr/Parts")) (t' := .long) (by decide) (by decide)))
  have F215 : Fld Z h211 d "com/example/metr/metr/Decision" "granted" "Z" (.int gv) := P_granted_204.other W211 (Or.inr (slot_ne (Or.inl (hw _ (List.mem_of_getElem? (i := 62) rfl))) (Or.inl (hw _ (List.mem_of_getElem? (i := 93) rfl))) (by decide) (t := .boolean) (t' := .long) (by decide) (by decide)))
  have F216 : Fld Z h211 d "com/example/metr/metr/Decision" "tokensLeft" "J" (.long tl) := P_tokensLeft_206.other W211 (Or.inr (slot_ne (Or.inl (hw _ (List.mem_of_getElem? (i := 75) rfl))) (Or.inl (hw _ (List.mem_of_getElem? (i := 93) rfl))) (by decide) (t := .long) (t' := .long) (by decide) (by decide)))
  have F217 : Fld Z h211 d "com/example/metr/metr/Decision" "wait" "J" (.long wt) := P_wait_207.other W211 (Or.inr (slot_ne (Or.inl (hw _ (List.mem_of_getElem? (i := 11) rfl))) (Or.inl (hw _ (List.mem_of_getElem? (i := 93) rfl))) (by decide) (t := .long) (t' := .long) (by decide) (by decide)))
  have F218 : Fld Z h211 d "com/example/metr/metr/Decision" "behind" "J" (.long bh) := P_behind_208.other W211 (Or.inr (slot_ne (Or.inl (hw _ (List.mem_of_getElem? (i := 82) rfl))) (Or.inl (hw _ (List.mem_of_getElem? (i := 93) rfl))) (by decide) (t := .long) (t' := .long) (by decide) (by decide)))
  have F219 : Fld Z h211 d "com/example/metr/metr/Decision" "tokens" "J" (.long tk) := P_tokens_209.other W211 (Or.inr (slot_ne (Or.inl (hw _ (List.mem_of_getElem? (i := 95) rfl))) (Or.inl (hw _ (List.mem_of_getElem? (i := 93) rfl))) (by decide) (t := .long) (t' := .long) (by decide) (by decide)))
  have N220 := Fr.snoc X211 N210 g1
  show OEnd p e below _ (T211.setTop (mkF m 14 #[.val (.ref d), .val (.ref pr), .val (.long x1), .second, .val (.long y1), .second] []))
  refine OEnd.of (fun t k => XS.aloadN X211.here hx rfl (hb hby d12_14) rfl rfl k) ?_
  show OEnd p e below _ (T211.setTop (mkF m 15 #[.val (.ref d), .val (.ref pr), .val (.long x1), .second, .val (.long y1), .second] [(.ref d)]))
  refine OEnd.of (fun t k => XS.lload X211.here hx rfl (hb hby d12_15) rfl k) ?_
  show OEnd p e below _ (T211.setTop (mkF m 17 #[.val (.ref d), .val (.ref pr), .val (.long x1), .second, .val (.long y1), .second] [(.long y1), (.ref d)]))
  obtain ⟨T221, h221, X221, e221, W221, st221⟩ := putF X211 hx hZ hown (host := "") (Or.inl (hw _ (List.mem_of_getElem? (i := 94) rfl))) Via.refl e211 F219 E213 (Or.inl (hw _ (List.mem_of_getElem? (i := 95) rfl))) (hw _ (List.mem_of_getElem? (i := 1) rfl)) (ty := .long) (by decide) rfl rfl (g := (mkF m 17 #[.val (.ref d), .val (.ref pr), .val (.long x1), .second, .val (.long y1), .second] [(.long y1), (.ref d)])) rfl rfl (hb hby d12_17)
  refine OEnd.of st221 ?_
  have F222 : Fld Z h221 d "com/example/metr/metr/Decision" "tokens" "J" (.long y1) := Fld.same W221 F219
  have E223 : Exa Z h221 d "com/example/metr/metr/Decision" := E213.wr W221
  have F224 : Fld Z h221 d "com/example/metr/metr/Decision" "parts" "Lcom/example/metr/metr/Parts;" (.ref pr) := F214.other W221 (Or.inr (slot_ne (Or.inl (hw _ (List.mem_of_getElem? (i := 60) rfl))) (Or.inl (hw _ (List.mem_of_getElem? (i := 95) rfl))) (by decide) (t := (.object "com/example/metr/metr/Parts")) (t' := .long) (by decide) (by decide)))
  have F225 : Fld Z h221 d "com/example/metr/metr/Decision" "granted" "Z" (.int gv) := F215.other W221 (Or.inr (slot_ne (Or.inl (hw _ (List.mem_of_getElem? (i := 62) rfl))) (Or.inl (hw _ (List.mem_of_getElem? (i := 95) rfl))) (by decide) (t := .boolean) (t' := .long) (by decide) (by decide)))
  have F226 : Fld Z h221 d "com/example/metr/metr/Decision" "tokensLeft" "J" (.long tl) := F216.other W221 (Or.inr (slot_ne (Or.inl (hw _ (List.mem_of_getElem? (i := 75) rfl))) (Or.inl (hw _ (List.mem_of_getElem? (i := 95) rfl))) (by decide) (t := .long) (t' := .long) (by decide) (by decide)))
  have F227 : Fld Z h221 d "com/example/metr/metr/Decision" "wait" "J" (.long wt) := F217.other W221 (Or.inr (slot_ne (Or.inl (hw _ (List.mem_of_getElem? (i := 11) rfl))) (Or.inl (hw _ (List.mem_of_getElem? (i := 95) rfl))) (by decide) (t := .long) (t' := .long) (by decide) (by decide)))
  have F228 : Fld Z h221 d "com/example/metr/metr/Decision" "behind" "J" (.long bh) := F218.other W221 (Or.inr (slot_ne (Or.inl (hw _ (List.mem_of_getElem? (i := 82) rfl))) (Or.inl (hw _ (List.mem_of_getElem? (i := 95) rfl))) (by decide) (t := .long) (t' := .long) (by decide) (by decide)))
  have F229 : Fld Z h221 d "com/example/metr/metr/Decision" "decided" "J" (.long (x1 ^^^ (-1 : Int64))) := F212.other W221 (Or.inr (slot_ne (Or.inl (hw _ (List.mem_of_getElem? (i := 93) rfl))) (Or.inl (hw _ (List.mem_of_getElem? (i := 95) rfl))) (by decide) (t := .long) (t' := .long) (by decide) (by decide)))
  have N230 := Fr.snoc X221 N220 g1
  show OEnd p e below _ (T221.setTop (mkF m 20 #[.val (.ref d), .val (.ref pr), .val (.long x1), .second, .val (.long y1), .second] []))
  have K231 : Keep h0 h221 [d] := ((((Keep.refl h0 [d]).trans Kq201 (allS (Or.inl (List.mem_of_getElem? (i := 0) rfl)) all0)).wr W211 (Or.inl (List.mem_of_getElem? (i := 0) rfl))).wr W221 (Or.inl (List.mem_of_getElem? (i := 0) rfl)))
  exact OEnd.retV X221 hx hlk e221 hret (hb hby d12_20) ⟨rfl, N230, K231, E223, F224, F225, F229, F226, F227, F228, F222⟩ (by decide) (by decide)
theorem d8_0 : decode prog_4_method_2_code 0 = .ok (.aload_n 0, 1) := by decide +kernel
theorem d8_1 : decode prog_4_method_2_code 1 = .ok (.getfield 15, 3) := by decide +kernel
theorem d8_4 : decode prog_4_method_2_code 4 = .ok (.ifnonnull 10, 3) := by decide +kernel
theorem d8_7 : decode prog_4_method_2_code 7 = .ok (.aload_n 0, 1) := by decide +kernel
theorem d8_8 : decode prog_4_method_2_code 8 = .ok (.getfield 19, 3) := by decide +kernel
theorem d8_11 : decode prog_4_method_2_code 11 = .ok (.goto 17, 3) := by decide +kernel
theorem d8_14 : decode prog_4_method_2_code 14 = .ok (.aload_n 0, 1) := by decide +kernel
theorem d8_15 : decode prog_4_method_2_code 15 = .ok (.getfield 23, 3) := by decide +kernel
theorem d8_18 : decode prog_4_method_2_code 18 = .ok (.lconst 0, 1) := by decide +kernel
theorem d8_19 : decode prog_4_method_2_code 19 = .ok (.lcmp, 1) := by decide +kernel
theorem d8_20 : decode prog_4_method_2_code 20 = .ok (.ifCond .lt 7, 3) := by decide +kernel
theorem d8_23 : decode prog_4_method_2_code 23 = .ok (.iconst 1, 1) := by decide +kernel
theorem d8_24 : decode prog_4_method_2_code 24 = .ok (.goto 4, 3) := by decide +kernel
theorem d8_27 : decode prog_4_method_2_code 27 = .ok (.iconst 0, 1) := by decide +kernel
theorem d8_28 : decode prog_4_method_2_code 28 = .ok (.ireturn, 1) := by decide +kernel
abbrev RMrm8 : Room := { frames := 0, cells := 0, slots := 0, locals := 0 }
theorem ef_rm8 (m : MethodId) (d : Addr) : entryFrame m #[(.ref d)] 1 = mkF m 0 #[.val (.ref d)] [] := by first | (simp [entryFrame, mkF, argsToLocals, Value.category]; done) | rfl
def Qrm8 (Z : State)  (d : Addr) (pv : Value) (gv : Int32) (dv : Int64) (ee : Int32) (h0 : Heap) (v : Option Value) (h : Heap) (L : List Loc) : Prop := v = some (.int ee) ∧ Fr Z.heap.size L ∧ h = h0
set_option maxRecDepth 65536 in
set_option maxHeartbeats 40000000 in
theorem rm8 (l : Launch) (Z : State) (a0 : Array Value) (hw : ∀ d ∈ tables_1, d.before a0 Z = true)   (ws : List Jvm.Cond) (d : Addr) (pv : Value) (gv : Int32) (dv : Int64) (ee : Int32) (h0 : Heap) (O0 : Ext Z.heap h0) (F_parts : Fld Z h0 d "com/example/metr/metr/Decision" "parts" "Lcom/example/metr/metr/Parts;" pv) (F_granted : Fld Z h0 d "com/example/metr/metr/Decision" "granted" "Z" (.int gv)) (F_decided : Fld Z h0 d "com/example/metr/metr/Decision" "decided" "J" (.long dv)) (h_pv : pv.isRef = true) (hrel : own_rel pv gv dv ee) :
    MetFree l (⟨"com/example/metr/metr/Decision", "granted", "()Z"⟩ : MethodName) (head1 (Jvm.Cond.code (⟨"com/example/metr/metr/Decision", "granted", "()Z"⟩ : MethodName) prog_4_method_2_code 1 (some .boolean) :: ws) RMrm8) (fun a U => a = #[(.ref d)] ∧ Z.Warmed39 U.vm ∧ U.heap = h0) (fun _ _ _ _ _ => True) (fun _ U o U' => ∃ v L, o = .returned v ∧ Qrm8 Z d pv gv dv ee h0 v U'.heap L ∧ FrameEnd U o U' L RMrm8.cells RMrm8.slots) := by
  refine MetFree.of_bodySF (plainFor_of_name pn_com_example_metr_metr_Decision) hisR ?_
  intro p e s m args below meth c s₁ Bd hml0 hP hK
  obtain ⟨rfl, hZ, hh⟩ := hP
  have hx := Bd.exec
  have hby := Bd.bytes
  have hlk : meth.locks = false := BodyLoose.notSynchronized Bd
  have hret := Bd.returns
  have hml : c.maxLocals = 1 := hml0
  have hown : s.vm.findClass "com/example/metr/metr/Decision" = some m.cls := findClass_of_methodNamed Bd.named
  have hnm := (name_of_methodNamed Bd.named Bd.method).1
  have X0 : Stand p l e RMrm8 s m #[(.ref d)] below meth c s₁ [] 0 0 := Stand.of_body Bd
  have e0 : s₁.heap = h0 := by rw [← hh, Bd.state]; rfl
  have N0 := Fr.nil Z.heap.size
  show OEnd p e below (GN s (Qrm8 Z d pv gv dv ee h0) RMrm8.cells RMrm8.slots) _
  refine OEnd.of (fun t k => castTop (ef_rm8 m d) k) ?_
  refine OEnd.of (fun t k => XS.aloadN X0.here hx rfl (hb hby d8_0) rfl rfl k) ?_
  show OEnd p e below _ (s₁.setTop (mkF m 1 #[.val (.ref d)] [(.ref d)]))
  obtain ⟨T232, X232, e232, st232⟩ := getF X0 hx hZ hown (host := "") (Or.inl (hw _ (List.mem_of_getElem? (i := 59) rfl))) Via.refl e0 F_parts (g := (mkF m 1 #[.val (.ref d)] [(.ref d)])) rfl rfl (hb hby d8_1)
  refine OEnd.of st232 ?_
  show OEnd p e below _ (T232.setTop (mkF m 4 #[.val (.ref d)] [pv]))
  rcases ref_cases h_pv with hnav233 | ⟨av233, hnav233⟩
  · subst hnav233
    refine OEnd.of (fun t k => XS.ifnonnullNo X232.here hx rfl (hb hby d8_4) rfl k) ?_
    show OEnd p e below _ (T232.setTop (mkF m 7 #[.val (.ref d)] []))
    refine OEnd.of (fun t k => XS.aloadN X232.here hx rfl (hb hby d8_7) rfl rfl k) ?_
    show OEnd p e below _ (T232.setTop (mkF m 8 #[.val (.ref d)] [(.ref d)]))
    obtain ⟨T234, X234, e234, st234⟩ := getF X232 hx hZ hown (host := "") (Or.inl (hw _ (List.mem_of_getElem? (i := 61) rfl))) Via.refl e232 F_granted (g := (mkF m 8 #[.val (.ref d)] [(.ref d)])) rfl rfl (hb hby d8_8)
    refine OEnd.of st234 ?_
    show OEnd p e below _ (T234.setTop (mkF m 11 #[.val (.ref d)] [(.int gv)]))
    refine OEnd.of (fun t k => XS.goto X234.here hx rfl (pc0 := 11) (pc' := 28) rfl (hb hby d8_11) (by decide) (by decide) k) ?_
    show OEnd p e below _ (T234.setTop (mkF m 28 #[.val (.ref d)] [(.int gv)]))
    exact OEnd.retN X234 hx hlk e234 (t := .boolean) hret (by simp) (hb hby d8_28) ⟨(own_rel0 hrel), N0, rfl⟩ (by decide) (by decide)
  · subst hnav233
    refine OEnd.of (fun t k => XS.ifnonnullYes X232.here hx rfl (pc0 := 4) (pc' := 14) rfl (hb hby d8_4) rfl (by decide) (by decide) k) ?_
    show OEnd p e below _ (T232.setTop (mkF m 14 #[.val (.ref d)] []))
    refine OEnd.of (fun t k => XS.aloadN X232.here hx rfl (hb hby d8_14) rfl rfl k) ?_
    show OEnd p e below _ (T232.setTop (mkF m 15 #[.val (.ref d)] [(.ref d)]))
    obtain ⟨T235, X235, e235, st235⟩ := getF X232 hx hZ hown (host := "") (Or.inl (hw _ (List.mem_of_getElem? (i := 92) rfl))) Via.refl e232 F_decided (g := (mkF m 15 #[.val (.ref d)] [(.ref d)])) rfl rfl (hb hby d8_15)
    refine OEnd.of st235 ?_
    show OEnd p e below _ (T235.setTop (mkF m 18 #[.val (.ref d)] [(.long dv)]))
    refine OEnd.of (fun t k => XS.lconst X235.here hx rfl (hb hby d8_18) k) ?_
    show OEnd p e below _ (T235.setTop (mkF m 19 #[.val (.ref d)] [(.long (0 : Int64)), (.long dv)]))
    refine OEnd.of (fun t k => XS.lcmp X235.here hx rfl (hb hby d8_19) rfl k) ?_
    show OEnd p e below _ (T235.setTop (mkF m 20 #[.val (.ref d)] [(.int (lcmpW dv (0 : Int64)))]))
    by_cases hc236 : dv < (0 : Int64)
    · refine OEnd.of (fun t k => XS.ifYes X235.here hx rfl (pc0 := 20) (pc' := 27) rfl (hb hby d8_20) rfl ((if0 _ _).trans (tlt ((lw_lt _ _).mpr hc236)).1) (by decide) (by decide) k) ?_
      show OEnd p e below _ (T235.setTop (mkF m 27 #[.val (.ref d)] []))
      refine OEnd.of (fun t k => XS.iconst X235.here hx rfl (hb hby d8_27) k) ?_
      show OEnd p e below _ (T235.setTop (mkF m 28 #[.val (.ref d)] [(.int (0 : Int32))]))
      exact OEnd.retN X235 hx hlk e235 (t := .boolean) hret (by simp) (hb hby d8_28) ⟨(own_rel1 hrel hc236), N0, rfl⟩ (by decide) (by decide)
    · refine OEnd.of (fun t k => XS.ifNo X235.here hx rfl (hb hby d8_20) rfl ((if0 _ _).trans (flt (fun z => hc236 ((lw_lt _ _).mp z))).1) k) ?_
      show OEnd p e below _ (T235.setTop (mkF m 23 #[.val (.ref d)] []))
      refine OEnd.of (fun t k => XS.iconst X235.here hx rfl (hb hby d8_23) k) ?_
      show OEnd p e below _ (T235.setTop (mkF m 24 #[.val (.ref d)] [(.int (1 : Int32))]))
      refine OEnd.of (fun t k => XS.goto X235.here hx rfl (pc0 := 24) (pc' := 28) rfl (hb hby d8_24) (by decide) (by decide) k) ?_
      show OEnd p e below _ (T235.setTop (mkF m 28 #[.val (.ref d)] [(.int (1 : Int32))]))
      exact OEnd.retN X235 hx hlk e235 (t := .boolean) hret (by simp) (hb hby d8_28) ⟨(own_rel2 hrel hc236), N0, rfl⟩ (by decide) (by decide)
theorem pd_28ZJJ29V : parseMethodDescriptor "(ZJJ)V" = some ⟨[.boolean, .long, .long], none⟩ := by decide +kernel
theorem pd_28Lcom2fexample2fmetr2fmetr2fParts3bJ29V : parseMethodDescriptor "(Lcom/example/metr/metr/Parts;J)V" = some ⟨[(.object "com/example/metr/metr/Parts"), .long], none⟩ := by decide +kernel
theorem pd_28Lcom2fexample2fmetr2fmetr2fParts3bJJ29V : parseMethodDescriptor "(Lcom/example/metr/metr/Parts;JJ)V" = some ⟨[(.object "com/example/metr/metr/Parts"), .long, .long], none⟩ := by decide +kernel
theorem pd_28J29V : parseMethodDescriptor "(J)V" = some ⟨[.long], none⟩ := by decide +kernel
theorem d9_0 : decode method_2_code 0 = .ok (.iload_n 1, 1) := by decide +kernel
theorem d9_1 : decode method_2_code 1 = .ok (.iconst 3, 1) := by decide +kernel
theorem d9_2 : decode method_2_code 2 = .ok (.iand, 1) := by decide +kernel
theorem d9_3 : decode method_2_code 3 = .ok (.istore 5, 2) := by decide +kernel
theorem d9_5 : decode method_2_code 5 = .ok (.lload_n 2, 1) := by decide +kernel
theorem d9_6 : decode method_2_code 6 = .ok (.ldc2_w 9, 3) := by decide +kernel
theorem d9_9 : decode method_2_code 9 = .ok (.land, 1) := by decide +kernel
theorem d9_10 : decode method_2_code 10 = .ok (.lstore 6, 2) := by decide +kernel
theorem d9_12 : decode method_2_code 12 = .ok (.iload 5, 2) := by decide +kernel
theorem d9_14 : decode method_2_code 14 = .ok (.ifCond .ne 35, 3) := by decide +kernel
theorem d9_17 : decode method_2_code 17 = .ok (.iload_n 1, 1) := by decide +kernel
theorem d9_18 : decode method_2_code 18 = .ok (.iconst 4, 1) := by decide +kernel
theorem d9_19 : decode method_2_code 19 = .ok (.iand, 1) := by decide +kernel
theorem d9_20 : decode method_2_code 20 = .ok (.ifCond .eq 7, 3) := by decide +kernel
theorem d9_23 : decode method_2_code 23 = .ok (.iconst 1, 1) := by decide +kernel
theorem d9_24 : decode method_2_code 24 = .ok (.goto 4, 3) := by decide +kernel
theorem d9_27 : decode method_2_code 27 = .ok (.iconst 0, 1) := by decide +kernel
theorem d9_28 : decode method_2_code 28 = .ok (.istore 9, 2) := by decide +kernel
theorem d9_30 : decode method_2_code 30 = .ok (.aload_n 0, 1) := by decide +kernel
theorem d9_31 : decode method_2_code 31 = .ok (.iload 9, 2) := by decide +kernel
theorem d9_33 : decode method_2_code 33 = .ok (.lload_n 2, 1) := by decide +kernel
theorem d9_34 : decode method_2_code 34 = .ok (.lload_n 2, 1) := by decide +kernel
theorem d9_35 : decode method_2_code 35 = .ok (.ldc2_w 11, 3) := by decide +kernel
theorem d9_38 : decode method_2_code 38 = .ok (.lxor, 1) := by decide +kernel
theorem d9_39 : decode method_2_code 39 = .ok (.invokevirtual 13, 3) := by decide +kernel
theorem d9_42 : decode method_2_code 42 = .ok (.iload 9, 2) := by decide +kernel
theorem d9_44 : decode method_2_code 44 = .ok (.istore 8, 2) := by decide +kernel
theorem d9_46 : decode method_2_code 46 = .ok (.goto 64, 3) := by decide +kernel
theorem d9_49 : decode method_2_code 49 = .ok (.iload 5, 2) := by decide +kernel
theorem d9_51 : decode method_2_code 51 = .ok (.iconst 1, 1) := by decide +kernel
theorem d9_52 : decode method_2_code 52 = .ok (.if_icmp .ne 17, 3) := by decide +kernel
theorem d9_55 : decode method_2_code 55 = .ok (.aload_n 0, 1) := by decide +kernel
theorem d9_56 : decode method_2_code 56 = .ok (.aload 4, 2) := by decide +kernel
theorem d9_58 : decode method_2_code 58 = .ok (.lload 6, 2) := by decide +kernel
theorem d9_60 : decode method_2_code 60 = .ok (.invokevirtual 19, 3) := by decide +kernel
theorem d9_63 : decode method_2_code 63 = .ok (.iconst 1, 1) := by decide +kernel
theorem d9_64 : decode method_2_code 64 = .ok (.istore 8, 2) := by decide +kernel
theorem d9_66 : decode method_2_code 66 = .ok (.goto 44, 3) := by decide +kernel
theorem d9_69 : decode method_2_code 69 = .ok (.iload 5, 2) := by decide +kernel
theorem d9_71 : decode method_2_code 71 = .ok (.iconst 2, 1) := by decide +kernel
theorem d9_72 : decode method_2_code 72 = .ok (.if_icmp .ne 21, 3) := by decide +kernel
theorem d9_75 : decode method_2_code 75 = .ok (.aload_n 0, 1) := by decide +kernel
theorem d9_76 : decode method_2_code 76 = .ok (.aload 4, 2) := by decide +kernel
theorem d9_78 : decode method_2_code 78 = .ok (.lload 6, 2) := by decide +kernel
theorem d9_80 : decode method_2_code 80 = .ok (.iload_n 1, 1) := by decide +kernel
theorem d9_81 : decode method_2_code 81 = .ok (.iconst 4, 1) := by decide +kernel
theorem d9_82 : decode method_2_code 82 = .ok (.iushr, 1) := by decide +kernel
theorem d9_83 : decode method_2_code 83 = .ok (.i2l, 1) := by decide +kernel
theorem d9_84 : decode method_2_code 84 = .ok (.invokevirtual 23, 3) := by decide +kernel
theorem d9_87 : decode method_2_code 87 = .ok (.iconst 0, 1) := by decide +kernel
theorem d9_88 : decode method_2_code 88 = .ok (.istore 8, 2) := by decide +kernel
theorem d9_90 : decode method_2_code 90 = .ok (.goto 20, 3) := by decide +kernel
theorem d9_93 : decode method_2_code 93 = .ok (.aload_n 0, 1) := by decide +kernel
theorem d9_94 : decode method_2_code 94 = .ok (.lload_n 2, 1) := by decide +kernel
theorem d9_95 : decode method_2_code 95 = .ok (.invokevirtual 27, 3) := by decide +kernel
theorem d9_98 : decode method_2_code 98 = .ok (.aload_n 0, 1) := by decide +kernel
theorem d9_99 : decode method_2_code 99 = .ok (.aload 4, 2) := by decide +kernel
theorem d9_101 : decode method_2_code 101 = .ok (.lload 6, 2) := by decide +kernel
theorem d9_103 : decode method_2_code 103 = .ok (.lload_n 2, 1) := by decide +kernel
theorem d9_104 : decode method_2_code 104 = .ok (.invokevirtual 23, 3) := by decide +kernel
theorem d9_107 : decode method_2_code 107 = .ok (.iconst 0, 1) := by decide +kernel
theorem d9_108 : decode method_2_code 108 = .ok (.istore 8, 2) := by decide +kernel
theorem d9_110 : decode method_2_code 110 = .ok (.iload 8, 2) := by decide +kernel
theorem d9_112 : decode method_2_code 112 = .ok (.ireturn, 1) := by decide +kernel
theorem pn_com_example_metr_metr_DecisionGrantedPinLaw : plainName "com/example/metr/metr/DecisionGrantedPinLaw" = true := by first | (simp [plainName, overriddenIn]; done) | decide +kernel
abbrev RMrm9 : Room := { frames := 2, cells := 0, slots := 0, locals := 30 }
theorem ef_rm9 (m : MethodId) (d : Addr) (op : Int32) (x1 : Int64) (pr : Addr) : entryFrame m #[(.ref d), (.int op), (.long x1), (.ref pr)] 10 = mkF m 0 #[.val (.ref d), .val (.int op), .val (.long x1), .second, .val (.ref pr), .unset, .unset, .unset, .unset, .unset] [] := by first | (simp [entryFrame, mkF, argsToLocals, Value.category]; done) | rfl
def Qrm9 (Z : State)  (d : Addr) (op : Int32) (x1 : Int64) (pr : Addr) (pv : Value) (gv : Int32) (dv : Int64) (tl : Int64) (wt : Int64) (bh : Int64) (tk : Int64) (h0 : Heap) (v : Option Value) (h : Heap) (L : List Loc) : Prop := ∃ (ee : Int32) (pv' : Value) (gv' : Int32) (dv' : Int64) (tl' : Int64) (wt' : Int64) (bh' : Int64) (tk' : Int64), v = some (.int ee) ∧ Fr Z.heap.size L ∧ Keep h0 h [d] ∧ Exa Z h d "com/example/metr/metr/Decision" ∧ Fld Z h d "com/example/metr/metr/Decision" "parts" "Lcom/example/metr/metr/Parts;" pv' ∧ Fld Z h d "com/example/metr/metr/Decision" "granted" "Z" (.int gv') ∧ Fld Z h d "com/example/metr/metr/Decision" "decided" "J" (.long dv') ∧ Fld Z h d "com/example/metr/metr/Decision" "tokensLeft" "J" (.long tl') ∧ Fld Z h d "com/example/metr/metr/Decision" "wait" "J" (.long wt') ∧ Fld Z h d "com/example/metr/metr/Decision" "behind" "J" (.long bh') ∧ Fld Z h d "com/example/metr/metr/Decision" "tokens" "J" (.long tk') ∧ (pv'.isRef = true) ∧ (own_rel pv' gv' dv' ee)
set_option maxRecDepth 65536 in
set_option maxHeartbeats 40000000 in
theorem rm9 (l : Launch) (Z : State) (a0 : Array Value) (hw : ∀ d ∈ tables_1, d.before a0 Z = true)   (ws : List Jvm.Cond) (d : Addr) (op : Int32) (x1 : Int64) (pr : Addr) (pv : Value) (gv : Int32) (dv : Int64) (tl : Int64) (wt : Int64) (bh : Int64) (tk : Int64) (h0 : Heap) (O0 : Ext Z.heap h0) (E1 : Exa Z h0 d "com/example/metr/metr/Decision") (F_parts : Fld Z h0 d "com/example/metr/metr/Decision" "parts" "Lcom/example/metr/metr/Parts;" pv) (F_granted : Fld Z h0 d "com/example/metr/metr/Decision" "granted" "Z" (.int gv)) (F_decided : Fld Z h0 d "com/example/metr/metr/Decision" "decided" "J" (.long dv)) (F_tokensLeft : Fld Z h0 d "com/example/metr/metr/Decision" "tokensLeft" "J" (.long tl)) (F_wait : Fld Z h0 d "com/example/metr/metr/Decision" "wait" "J" (.long wt)) (F_behind : Fld Z h0 d "com/example/metr/metr/Decision" "behind" "J" (.long bh)) (F_tokens : Fld Z h0 d "com/example/metr/metr/Decision" "tokens" "J" (.long tk)) (g1 : Z.heap.size ≤ d) (h_pv : pv.isRef = true) :
    MetFree l (⟨"com/example/metr/metr/DecisionGrantedPinLaw", "step", "(Lcom/example/metr/metr/Decision;IJLcom/example/metr/metr/Parts;)Z"⟩ : MethodName) (head1 (Jvm.Cond.code (⟨"com/example/metr/metr/DecisionGrantedPinLaw", "step", "(Lcom/example/metr/metr/Decision;IJLcom/example/metr/metr/Parts;)Z"⟩ : MethodName) method_2_code 10 (some .boolean) :: ws) RMrm9) (fun a U => a = #[(.ref d), (.int op), (.long x1), (.ref pr)] ∧ Z.Warmed39 U.vm ∧ U.heap = h0) (fun _ _ _ _ _ => True) (fun _ U o U' => ∃ v L, o = .returned v ∧ Qrm9 Z d op x1 pr pv gv dv tl wt bh tk h0 v U'.heap L ∧ FrameEnd U o U' L RMrm9.cells RMrm9.slots) := by
  refine MetFree.of_bodySF (plainFor_of_name pn_com_example_metr_metr_DecisionGrantedPinLaw) hisR ?_
  intro p e s m args below meth c s₁ Bd hml0 hP hK
  obtain ⟨rfl, hZ, hh⟩ := hP
  have hx := Bd.exec
  have hby := Bd.bytes
  have hlk : meth.locks = false := BodyLoose.notSynchronized Bd
  have hret := Bd.returns
  have hml : c.maxLocals = 10 := hml0
  have hown : s.vm.findClass "com/example/metr/metr/DecisionGrantedPinLaw" = some m.cls := findClass_of_methodNamed Bd.named
  have hnm := (name_of_methodNamed Bd.named Bd.method).1
  have X0 : Stand p l e RMrm9 s m #[(.ref d), (.int op), (.long x1), (.ref pr)] below meth c s₁ [] 0 0 := Stand.of_body Bd
  have e0 : s₁.heap = h0 := by rw [← hh, Bd.state]; rfl
  have N0 := Fr.nil Z.heap.size
  show OEnd p e below (GN s (Qrm9 Z d op x1 pr pv gv dv tl wt bh tk h0) RMrm9.cells RMrm9.slots) _
  refine OEnd.of (fun t k => castTop (ef_rm9 m d op x1 pr) k) ?_
  refine OEnd.of (fun t k => XS.iloadN X0.here hx rfl (hb hby d9_0) rfl k) ?_
  show OEnd p e below _ (s₁.setTop (mkF m 1 #[.val (.ref d), .val (.int op), .val (.long x1), .second, .val (.ref pr), .unset, .unset, .unset, .unset, .unset] [(.int op)]))
  refine OEnd.of (fun t k => XS.iconst X0.here hx rfl (hb hby d9_1) k) ?_
  show OEnd p e below _ (s₁.setTop (mkF m 2 #[.val (.ref d), .val (.int op), .val (.long x1), .second, .val (.ref pr), .unset, .unset, .unset, .unset, .unset] [(.int (3 : Int32)), (.int op)]))
  refine OEnd.of (fun t k => XS.iand X0.here hx rfl (hb hby d9_2) rfl k) ?_
  show OEnd p e below _ (s₁.setTop (mkF m 3 #[.val (.ref d), .val (.int op), .val (.long x1), .second, .val (.ref pr), .unset, .unset, .unset, .unset, .unset] [(.int (op &&& (3 : Int32)))]))
  refine OEnd.of (fun t k => XS.istore X0.here hx rfl (hb hby d9_3) rfl (l' := #[.val (.ref d), .val (.int op), .val (.long x1), .second, .val (.ref pr), .val (.int (op &&& (3 : Int32))), .unset, .unset, .unset, .unset]) rfl k) ?_
  show OEnd p e below _ (s₁.setTop (mkF m 5 #[.val (.ref d), .val (.int op), .val (.long x1), .second, .val (.ref pr), .val (.int (op &&& (3 : Int32))), .unset, .unset, .unset, .unset] []))
  refine OEnd.of (fun t k => XS.lloadN X0.here hx rfl (hb hby d9_5) rfl k) ?_
  show OEnd p e below _ (s₁.setTop (mkF m 6 #[.val (.ref d), .val (.int op), .val (.long x1), .second, .val (.ref pr), .val (.int (op &&& (3 : Int32))), .unset, .unset, .unset, .unset] [(.long x1)]))
  refine OEnd.of (X0.ldc2Long hx hown (mvT hZ (hw _ (List.mem_of_getElem? (i := 67) rfl))) (g := (mkF m 6 #[.val (.ref d), .val (.int op), .val (.long x1), .second, .val (.ref pr), .val (.int (op &&& (3 : Int32))), .unset, .unset, .unset, .unset] [(.long x1)])) rfl (hb hby d9_6)) ?_
  show OEnd p e below _ (s₁.setTop (mkF m 9 #[.val (.ref d), .val (.int op), .val (.long x1), .second, .val (.ref pr), .val (.int (op &&& (3 : Int32))), .unset, .unset, .unset, .unset] [(.long (9223372036854775807 : Int64)), (.long x1)]))
  refine OEnd.of (fun t k => XS.land X0.here hx rfl (hb hby d9_9) rfl k) ?_
  show OEnd p e below _ (s₁.setTop (mkF m 10 #[.val (.ref d), .val (.int op), .val (.long x1), .second, .val (.ref pr), .val (.int (op &&& (3 : Int32))), .unset, .unset, .unset, .unset] [(.long (x1 &&& (9223372036854775807 : Int64)))]))
  refine OEnd.of (fun t k => XS.lstore X0.here hx rfl (hb hby d9_10) rfl (l' := #[.val (.ref d), .val (.int op), .val (.long x1), .second, .val (.ref pr), .val (.int (op &&& (3 : Int32))), .val (.long (x1 &&& (9223372036854775807 : Int64))), .second, .unset, .unset]) rfl k) ?_
  show OEnd p e below _ (s₁.setTop (mkF m 12 #[.val (.ref d), .val (.int op), .val (.long x1), .second, .val (.ref pr), .val (.int (op &&& (3 : Int32))), .val (.long (x1 &&& (9223372036854775807 : Int64))), .second, .unset, .unset] []))
  refine OEnd.of (fun t k => XS.iload X0.here hx rfl (hb hby d9_12) rfl k) ?_
  show OEnd p e below _ (s₁.setTop (mkF m 14 #[.val (.ref d), .val (.int op), .val (.long x1), .second, .val (.ref pr), .val (.int (op &&& (3 : Int32))), .val (.long (x1 &&& (9223372036854775807 : Int64))), .second, .unset, .unset] [(.int (op &&& (3 : Int32)))]))
  by_cases hc237 : (op &&& (3 : Int32)) = (0 : Int32)
  · refine OEnd.of (fun t k => XS.ifNo X0.here hx rfl (hb hby d9_14) rfl ((if0 _ _).trans (teq hc237).2) k) ?_
    show OEnd p e below _ (s₁.setTop (mkF m 17 #[.val (.ref d), .val (.int op), .val (.long x1), .second, .val (.ref pr), .val (.int (op &&& (3 : Int32))), .val (.long (x1 &&& (9223372036854775807 : Int64))), .second, .unset, .unset] []))
    refine OEnd.of (fun t k => XS.iloadN X0.here hx rfl (hb hby d9_17) rfl k) ?_
    show OEnd p e below _ (s₁.setTop (mkF m 18 #[.val (.ref d), .val (.int op), .val (.long x1), .second, .val (.ref pr), .val (.int (op &&& (3 : Int32))), .val (.long (x1 &&& (9223372036854775807 : Int64))), .second, .unset, .unset] [(.int op)]))
    refine OEnd.of (fun t k => XS.iconst X0.here hx rfl (hb hby d9_18) k) ?_
    show OEnd p e below _ (s₁.setTop (mkF m 19 #[.val (.ref d), .val (.int op), .val (.long x1), .second, .val (.ref pr), .val (.int (op &&& (3 : Int32))), .val (.long (x1 &&& (9223372036854775807 : Int64))), .second, .unset, .unset] [(.int (4 : Int32)), (.int op)]))
    refine OEnd.of (fun t k => XS.iand X0.here hx rfl (hb hby d9_19) rfl k) ?_
    show OEnd p e below _ (s₁.setTop (mkF m 20 #[.val (.ref d), .val (.int op), .val (.long x1), .second, .val (.ref pr), .val (.int (op &&& (3 : Int32))), .val (.long (x1 &&& (9223372036854775807 : Int64))), .second, .unset, .unset] [(.int (op &&& (4 : Int32)))]))
    by_cases hc238 : (op &&& (4 : Int32)) = (0 : Int32)
    · refine OEnd.of (fun t k => XS.ifYes X0.here hx rfl (pc0 := 20) (pc' := 27) rfl (hb hby d9_20) rfl ((if0 _ _).trans (teq hc238).1) (by decide) (by decide) k) ?_
      show OEnd p e below _ (s₁.setTop (mkF m 27 #[.val (.ref d), .val (.int op), .val (.long x1), .second, .val (.ref pr), .val (.int (op &&& (3 : Int32))), .val (.long (x1 &&& (9223372036854775807 : Int64))), .second, .unset, .unset] []))
      refine OEnd.of (fun t k => XS.iconst X0.here hx rfl (hb hby d9_27) k) ?_
      show OEnd p e below _ (s₁.setTop (mkF m 28 #[.val (.ref d), .val (.int op), .val (.long x1), .second, .val (.ref pr), .val (.int (op &&& (3 : Int32))), .val (.long (x1 &&& (9223372036854775807 : Int64))), .second, .unset, .unset] [(.int (0 : Int32))]))
      refine OEnd.of (fun t k => XS.istore X0.here hx rfl (hb hby d9_28) rfl (l' := #[.val (.ref d), .val (.int op), .val (.long x1), .second, .val (.ref pr), .val (.int (op &&& (3 : Int32))), .val (.long (x1 &&& (9223372036854775807 : Int64))), .second, .unset, .val (.int (0 : Int32))]) rfl k) ?_
      show OEnd p e below _ (s₁.setTop (mkF m 30 #[.val (.ref d), .val (.int op), .val (.long x1), .second, .val (.ref pr), .val (.int (op &&& (3 : Int32))), .val (.long (x1 &&& (9223372036854775807 : Int64))), .second, .unset, .val (.int (0 : Int32))] []))
      refine OEnd.of (fun t k => XS.aloadN X0.here hx rfl (hb hby d9_30) rfl rfl k) ?_
      show OEnd p e below _ (s₁.setTop (mkF m 31 #[.val (.ref d), .val (.int op), .val (.long x1), .second, .val (.ref pr), .val (.int (op &&& (3 : Int32))), .val (.long (x1 &&& (9223372036854775807 : Int64))), .second, .unset, .val (.int (0 : Int32))] [(.ref d)]))
      refine OEnd.of (fun t k => XS.iload X0.here hx rfl (hb hby d9_31) rfl k) ?_
      show OEnd p e below _ (s₁.setTop (mkF m 33 #[.val (.ref d), .val (.int op), .val (.long x1), .second, .val (.ref pr), .val (.int (op &&& (3 : Int32))), .val (.long (x1 &&& (9223372036854775807 : Int64))), .second, .unset, .val (.int (0 : Int32))] [(.int (0 : Int32)), (.ref d)]))
      refine OEnd.of (fun t k => XS.lloadN X0.here hx rfl (hb hby d9_33) rfl k) ?_
      show OEnd p e below _ (s₁.setTop (mkF m 34 #[.val (.ref d), .val (.int op), .val (.long x1), .second, .val (.ref pr), .val (.int (op &&& (3 : Int32))), .val (.long (x1 &&& (9223372036854775807 : Int64))), .second, .unset, .val (.int (0 : Int32))] [(.long x1), (.int (0 : Int32)), (.ref d)]))
      refine OEnd.of (fun t k => XS.lloadN X0.here hx rfl (hb hby d9_34) rfl k) ?_
      show OEnd p e below _ (s₁.setTop (mkF m 35 #[.val (.ref d), .val (.int op), .val (.long x1), .second, .val (.ref pr), .val (.int (op &&& (3 : Int32))), .val (.long (x1 &&& (9223372036854775807 : Int64))), .second, .unset, .val (.int (0 : Int32))] [(.long x1), (.long x1), (.int (0 : Int32)), (.ref d)]))
      refine OEnd.of (X0.ldc2Long hx hown (mvT hZ (hw _ (List.mem_of_getElem? (i := 68) rfl))) (g := (mkF m 35 #[.val (.ref d), .val (.int op), .val (.long x1), .second, .val (.ref pr), .val (.int (op &&& (3 : Int32))), .val (.long (x1 &&& (9223372036854775807 : Int64))), .second, .unset, .val (.int (0 : Int32))] [(.long x1), (.long x1), (.int (0 : Int32)), (.ref d)])) rfl (hb hby d9_35)) ?_
      show OEnd p e below _ (s₁.setTop (mkF m 38 #[.val (.ref d), .val (.int op), .val (.long x1), .second, .val (.ref pr), .val (.int (op &&& (3 : Int32))), .val (.long (x1 &&& (9223372036854775807 : Int64))), .second, .unset, .val (.int (0 : Int32))] [(.long (-1 : Int64)), (.long x1), (.long x1), (.int (0 : Int32)), (.ref d)]))
      refine OEnd.of (fun t k => XS.lxor X0.here hx rfl (hb hby d9_38) rfl k) ?_
      show OEnd p e below _ (s₁.setTop (mkF m 39 #[.val (.ref d), .val (.int op), .val (.long x1), .second, .val (.ref pr), .val (.int (op &&& (3 : Int32))), .val (.long (x1 &&& (9223372036854775807 : Int64))), .second, .unset, .val (.int (0 : Int32))] [(.long (x1 ^^^ (-1 : Int64))), (.long x1), (.int (0 : Int32)), (.ref d)]))
      obtain ⟨cq239, kq239, q239a, q239b, q239c⟩ := isOf hZ e0 E1
      obtain ⟨_, _, ⟨T239, L239, k239, n239⟩, -, X239, ⟨Lc239, hQ239, l239, y239, z239⟩, st239⟩ := X0.virtualBack hx (y := (⟨"com/example/metr/metr/Decision", "set", "(ZJJ)V"⟩ : MethodName)) (z := (⟨"com/example/metr/metr/Decision", "set", "(ZJJ)V"⟩ : MethodName)) hown (mvT hZ (hw _ (List.mem_of_getElem? (i := 69) rfl))) (mvT hZ (hw _ (List.mem_of_getElem? (i := 70) rfl))) (notFace_of_selects (args := #[]) (mvT hZ (hw _ (List.mem_of_getElem? (i := 72) rfl)))) (mvT hZ (hw _ (List.mem_of_getElem? (i := 72) rfl))) (mvT hZ (hw _ (List.mem_of_getElem? (i := 71) rfl))) (by decide) (backOf (W := 0) (rm10 l Z a0 hw  [] d (0 : Int32) x1 (x1 ^^^ (-1 : Int64)) pv gv dv tl wt bh tk h0 O0 E1 F_parts F_granted F_decided F_tokensLeft F_wait F_behind F_tokens g1 h_pv) hZ (hw _ (List.mem_of_getElem? (i := 73) rfl)) (hw _ (List.mem_of_getElem? (i := 2) rfl)) (by decide) (by decide)) q239a q239c (g := (mkF m 39 #[.val (.ref d), .val (.int op), .val (.long x1), .second, .val (.ref pr), .val (.int (op &&& (3 : Int32))), .val (.long (x1 &&& (9223372036854775807 : Int64))), .second, .unset, .val (.int (0 : Int32))] [(.long (x1 ^^^ (-1 : Int64))), (.long x1), (.int (0 : Int32)), (.ref d)])) rfl (by rw [hml]; rfl) (Steps.refl _) (argsL := [(.int (0 : Int32)), (.long x1), (.long (x1 ^^^ (-1 : Int64)))]) (rest := []) (lenOf pd_28ZJJ29V rfl) rfl (by show 2 * 0 + _ ≤ _; exact Nat.le_of_eq rfl) (hb hby d9_39) (fun _ _ => ⟨rfl, e0, (by decide : 0 + 0 ≤ _), (by decide : 0 + 0 ≤ _)⟩)
      dsimp only [Pt.U, Pt.locs, Pt.cells, Pt.slots] at X239 l239 y239 z239 st239 hQ239
      subst l239 y239 z239
      obtain ⟨h239, e239⟩ : ∃ z, T239.heap = z := ⟨_, rfl⟩
      rw [e239] at hQ239
      obtain ⟨rfl, Nq239, Kq239, E_240, P_parts_241, P_granted_242, P_decided_243, P_tokensLeft_244, P_wait_245, P_behind_246, P_tokens_247⟩ := hQ239
      have N248 := Fr.app N0 Nq239
      refine OEnd.of (fun t k => st239.trans k) ?_
      show OEnd p e below _ (T239.setTop (mkF m 42 #[.val (.ref d), .val (.int op), .val (.long x1), .second, .val (.ref pr), .val (.int (op &&& (3 : Int32))), .val (.long (x1 &&& (9223372036854775807 : Int64))), .second, .unset, .val (.int (0 : Int32))] []))
      refine OEnd.of (fun t k => XS.iload X239.here hx rfl (hb hby d9_42) rfl k) ?_
      show OEnd p e below _ (T239.setTop (mkF m 44 #[.val (.ref d), .val (.int op), .val (.long x1), .second, .val (.ref pr), .val (.int (op &&& (3 : Int32))), .val (.long (x1 &&& (9223372036854775807 : Int64))), .second, .unset, .val (.int (0 : Int32))] [(.int (0 : Int32))]))
      refine OEnd.of (fun t k => XS.istore X239.here hx rfl (hb hby d9_44) rfl (l' := #[.val (.ref d), .val (.int op), .val (.long x1), .second, .val (.ref pr), .val (.int (op &&& (3 : Int32))), .val (.long (x1 &&& (9223372036854775807 : Int64))), .second, .val (.int (0 : Int32)), .val (.int (0 : Int32))]) rfl k) ?_
      show OEnd p e below _ (T239.setTop (mkF m 46 #[.val (.ref d), .val (.int op), .val (.long x1), .second, .val (.ref pr), .val (.int (op &&& (3 : Int32))), .val (.long (x1 &&& (9223372036854775807 : Int64))), .second, .val (.int (0 : Int32)), .val (.int (0 : Int32))] []))
      refine OEnd.of (fun t k => XS.goto X239.here hx rfl (pc0 := 46) (pc' := 110) rfl (hb hby d9_46) (by decide) (by decide) k) ?_
      show OEnd p e below _ (T239.setTop (mkF m 110 #[.val (.ref d), .val (.int op), .val (.long x1), .second, .val (.ref pr), .val (.int (op &&& (3 : Int32))), .val (.long (x1 &&& (9223372036854775807 : Int64))), .second, .val (.int (0 : Int32)), .val (.int (0 : Int32))] []))
      refine OEnd.of (fun t k => XS.iload X239.here hx rfl (hb hby d9_110) rfl k) ?_
      show OEnd p e below _ (T239.setTop (mkF m 112 #[.val (.ref d), .val (.int op), .val (.long x1), .second, .val (.ref pr), .val (.int (op &&& (3 : Int32))), .val (.long (x1 &&& (9223372036854775807 : Int64))), .second, .val (.int (0 : Int32)), .val (.int (0 : Int32))] [(.int (0 : Int32))]))
      have K249 : Keep h0 h239 [d] := ((Keep.refl h0 [d]).trans Kq239 (allS (Or.inl (List.mem_of_getElem? (i := 0) rfl)) all0))
      exact OEnd.retN X239 hx hlk e239 (t := .boolean) hret (by simp) (hb hby d9_112) ⟨(0 : Int32), .null, (nar .boolean (0 : Int32)), dv, x1, (x1 ^^^ (-1 : Int64)), bh, tk, rfl, N248, K249, E_240, P_parts_241, P_granted_242, P_decided_243, P_tokensLeft_244, P_wait_245, P_behind_246, P_tokens_247, rfl, own_relN0⟩ (by decide) (by decide)
    · refine OEnd.of (fun t k => XS.ifNo X0.here hx rfl (hb hby d9_20) rfl ((if0 _ _).trans (feq hc238).1) k) ?_
      show OEnd p e below _ (s₁.setTop (mkF m 23 #[.val (.ref d), .val (.int op), .val (.long x1), .second, .val (.ref pr), .val (.int (op &&& (3 : Int32))), .val (.long (x1 &&& (9223372036854775807 : Int64))), .second, .unset, .unset] []))
      refine OEnd.of (fun t k => XS.iconst X0.here hx rfl (hb hby d9_23) k) ?_
      show OEnd p e below _ (s₁.setTop (mkF m 24 #[.val (.ref d), .val (.int op), .val (.long x1), .second, .val (.ref pr), .val (.int (op &&& (3 : Int32))), .val (.long (x1 &&& (9223372036854775807 : Int64))), .second, .unset, .unset] [(.int (1 : Int32))]))
      refine OEnd.of (fun t k => XS.goto X0.here hx rfl (pc0 := 24) (pc' := 28) rfl (hb hby d9_24) (by decide) (by decide) k) ?_
      show OEnd p e below _ (s₁.setTop (mkF m 28 #[.val (.ref d), .val (.int op), .val (.long x1), .second, .val (.ref pr), .val (.int (op &&& (3 : Int32))), .val (.long (x1 &&& (9223372036854775807 : Int64))), .second, .unset, .unset] [(.int (1 : Int32))]))
      refine OEnd.of (fun t k => XS.istore X0.here hx rfl (hb hby d9_28) rfl (l' := #[.val (.ref d), .val (.int op), .val (.long x1), .second, .val (.ref pr), .val (.int (op &&& (3 : Int32))), .val (.long (x1 &&& (9223372036854775807 : Int64))), .second, .unset, .val (.int (1 : Int32))]) rfl k) ?_
      show OEnd p e below _ (s₁.setTop (mkF m 30 #[.val (.ref d), .val (.int op), .val (.long x1), .second, .val (.ref pr), .val (.int (op &&& (3 : Int32))), .val (.long (x1 &&& (9223372036854775807 : Int64))), .second, .unset, .val (.int (1 : Int32))] []))
      refine OEnd.of (fun t k => XS.aloadN X0.here hx rfl (hb hby d9_30) rfl rfl k) ?_
      show OEnd p e below _ (s₁.setTop (mkF m 31 #[.val (.ref d), .val (.int op), .val (.long x1), .second, .val (.ref pr), .val (.int (op &&& (3 : Int32))), .val (.long (x1 &&& (9223372036854775807 : Int64))), .second, .unset, .val (.int (1 : Int32))] [(.ref d)]))
      refine OEnd.of (fun t k => XS.iload X0.here hx rfl (hb hby d9_31) rfl k) ?_
      show OEnd p e below _ (s₁.setTop (mkF m 33 #[.val (.ref d), .val (.int op), .val (.long x1), .second, .val (.ref pr), .val (.int (op &&& (3 : Int32))), .val (.long (x1 &&& (9223372036854775807 : Int64))), .second, .unset, .val (.int (1 : Int32))] [(.int (1 : Int32)), (.ref d)]))
      refine OEnd.of (fun t k => XS.lloadN X0.here hx rfl (hb hby d9_33) rfl k) ?_
      show OEnd p e below _ (s₁.setTop (mkF m 34 #[.val (.ref d), .val (.int op), .val (.long x1), .second, .val (.ref pr), .val (.int (op &&& (3 : Int32))), .val (.long (x1 &&& (9223372036854775807 : Int64))), .second, .unset, .val (.int (1 : Int32))] [(.long x1), (.int (1 : Int32)), (.ref d)]))
      refine OEnd.of (fun t k => XS.lloadN X0.here hx rfl (hb hby d9_34) rfl k) ?_
      show OEnd p e below _ (s₁.setTop (mkF m 35 #[.val (.ref d), .val (.int op), .val (.long x1), .second, .val (.ref pr), .val (.int (op &&& (3 : Int32))), .val (.long (x1 &&& (9223372036854775807 : Int64))), .second, .unset, .val (.int (1 : Int32))] [(.long x1), (.long x1), (.int (1 : Int32)), (.ref d)]))
      refine OEnd.of (X0.ldc2Long hx hown (mvT hZ (hw _ (List.mem_of_getElem? (i := 68) rfl))) (g := (mkF m 35 #[.val (.ref d), .val (.int op), .val (.long x1), .second, .val (.ref pr), .val (.int (op &&& (3 : Int32))), .val (.long (x1 &&& (9223372036854775807 : Int64))), .second, .unset, .val (.int (1 : Int32))] [(.long x1), (.long x1), (.int (1 : Int32)), (.ref d)])) rfl (hb hby d9_35)) ?_
      show OEnd p e below _ (s₁.setTop (mkF m 38 #[.val (.ref d), .val (.int op), .val (.long x1), .second, .val (.ref pr), .val (.int (op &&& (3 : Int32))), .val (.long (x1 &&& (9223372036854775807 : Int64))), .second, .unset, .val (.int (1 : Int32))] [(.long (-1 : Int64)), (.long x1), (.long x1), (.int (1 : Int32)), (.ref d)]))
      refine OEnd.of (fun t k => XS.lxor X0.here hx rfl (hb hby d9_38) rfl k) ?_
      show OEnd p e below _ (s₁.setTop (mkF m 39 #[.val (.ref d), .val (.int op), .val (.long x1), .second, .val (.ref pr), .val (.int (op &&& (3 : Int32))), .val (.long (x1 &&& (9223372036854775807 : Int64))), .second, .unset, .val (.int (1 : Int32))] [(.long (x1 ^^^ (-1 : Int64))), (.long x1), (.int (1 : Int32)), (.ref d)]))
      obtain ⟨cq250, kq250, q250a, q250b, q250c⟩ := isOf hZ e0 E1
      obtain ⟨_, _, ⟨T250, L250, k250, n250⟩, -, X250, ⟨Lc250, hQ250, l250, y250, z250⟩, st250⟩ := X0.virtualBack hx (y := (⟨"com/example/metr/metr/Decision", "set", "(ZJJ)V"⟩ : MethodName)) (z := (⟨"com/example/metr/metr/Decision", "set", "(ZJJ)V"⟩ : MethodName)) hown (mvT hZ (hw _ (List.mem_of_getElem? (i := 69) rfl))) (mvT hZ (hw _ (List.mem_of_getElem? (i := 70) rfl))) (notFace_of_selects (args := #[]) (mvT hZ (hw _ (List.mem_of_getElem? (i := 72) rfl)))) (mvT hZ (hw _ (List.mem_of_getElem? (i := 72) rfl))) (mvT hZ (hw _ (List.mem_of_getElem? (i := 71) rfl))) (by decide) (backOf (W := 0) (rm10 l Z a0 hw  [] d (1 : Int32) x1 (x1 ^^^ (-1 : Int64)) pv gv dv tl wt bh tk h0 O0 E1 F_parts F_granted F_decided F_tokensLeft F_wait F_behind F_tokens g1 h_pv) hZ (hw _ (List.mem_of_getElem? (i := 73) rfl)) (hw _ (List.mem_of_getElem? (i := 2) rfl)) (by decide) (by decide)) q250a q250c (g := (mkF m 39 #[.val (.ref d), .val (.int op), .val (.long x1), .second, .val (.ref pr), .val (.int (op &&& (3 : Int32))), .val (.long (x1 &&& (9223372036854775807 : Int64))), .second, .unset, .val (.int (1 : Int32))] [(.long (x1 ^^^ (-1 : Int64))), (.long x1), (.int (1 : Int32)), (.ref d)])) rfl (by rw [hml]; rfl) (Steps.refl _) (argsL := [(.int (1 : Int32)), (.long x1), (.long (x1 ^^^ (-1 : Int64)))]) (rest := []) (lenOf pd_28ZJJ29V rfl) rfl (by show 2 * 0 + _ ≤ _; exact Nat.le_of_eq rfl) (hb hby d9_39) (fun _ _ => ⟨rfl, e0, (by decide : 0 + 0 ≤ _), (by decide : 0 + 0 ≤ _)⟩)
      dsimp only [Pt.U, Pt.locs, Pt.cells, Pt.slots] at X250 l250 y250 z250 st250 hQ250
      subst l250 y250 z250
      obtain ⟨h250, e250⟩ : ∃ z, T250.heap = z := ⟨_, rfl⟩
      rw [e250] at hQ250
      obtain ⟨rfl, Nq250, Kq250, E_251, P_parts_252, P_granted_253, P_decided_254, P_tokensLeft_255, P_wait_256, P_behind_257, P_tokens_258⟩ := hQ250
      have N259 := Fr.app N0 Nq250
      refine OEnd.of (fun t k => st250.trans k) ?_
      show OEnd p e below _ (T250.setTop (mkF m 42 #[.val (.ref d), .val (.int op), .val (.long x1), .second, .val (.ref pr), .val (.int (op &&& (3 : Int32))), .val (.long (x1 &&& (9223372036854775807 : Int64))), .second, .unset, .val (.int (1 : Int32))] []))
      refine OEnd.of (fun t k => XS.iload X250.here hx rfl (hb hby d9_42) rfl k) ?_
      show OEnd p e below _ (T250.setTop (mkF m 44 #[.val (.ref d), .val (.int op), .val (.long x1), .second, .val (.ref pr), .val (.int (op &&& (3 : Int32))), .val (.long (x1 &&& (9223372036854775807 : Int64))), .second, .unset, .val (.int (1 : Int32))] [(.int (1 : Int32))]))
      refine OEnd.of (fun t k => XS.istore X250.here hx rfl (hb hby d9_44) rfl (l' := #[.val (.ref d), .val (.int op), .val (.long x1), .second, .val (.ref pr), .val (.int (op &&& (3 : Int32))), .val (.long (x1 &&& (9223372036854775807 : Int64))), .second, .val (.int (1 : Int32)), .val (.int (1 : Int32))]) rfl k) ?_
      show OEnd p e below _ (T250.setTop (mkF m 46 #[.val (.ref d), .val (.int op), .val (.long x1), .second, .val (.ref pr), .val (.int (op &&& (3 : Int32))), .val (.long (x1 &&& (9223372036854775807 : Int64))), .second, .val (.int (1 : Int32)), .val (.int (1 : Int32))] []))
      refine OEnd.of (fun t k => XS.goto X250.here hx rfl (pc0 := 46) (pc' := 110) rfl (hb hby d9_46) (by decide) (by decide) k) ?_
      show OEnd p e below _ (T250.setTop (mkF m 110 #[.val (.ref d), .val (.int op), .val (.long x1), .second, .val (.ref pr), .val (.int (op &&& (3 : Int32))), .val (.long (x1 &&& (9223372036854775807 : Int64))), .second, .val (.int (1 : Int32)), .val (.int (1 : Int32))] []))
      refine OEnd.of (fun t k => XS.iload X250.here hx rfl (hb hby d9_110) rfl k) ?_
      show OEnd p e below _ (T250.setTop (mkF m 112 #[.val (.ref d), .val (.int op), .val (.long x1), .second, .val (.ref pr), .val (.int (op &&& (3 : Int32))), .val (.long (x1 &&& (9223372036854775807 : Int64))), .second, .val (.int (1 : Int32)), .val (.int (1 : Int32))] [(.int (1 : Int32))]))
      have K260 : Keep h0 h250 [d] := ((Keep.refl h0 [d]).trans Kq250 (allS (Or.inl (List.mem_of_getElem? (i := 0) rfl)) all0))
      exact OEnd.retN X250 hx hlk e250 (t := .boolean) hret (by simp) (hb hby d9_112) ⟨(1 : Int32), .null, (nar .boolean (1 : Int32)), dv, x1, (x1 ^^^ (-1 : Int64)), bh, tk, rfl, N259, K260, E_251, P_parts_252, P_granted_253, P_decided_254, P_tokensLeft_255, P_wait_256, P_behind_257, P_tokens_258, rfl, own_relN1⟩ (by decide) (by decide)
  · refine OEnd.of (fun t k => XS.ifYes X0.here hx rfl (pc0 := 14) (pc' := 49) rfl (hb hby d9_14) rfl ((if0 _ _).trans (feq hc237).2) (by decide) (by decide) k) ?_
    show OEnd p e below _ (s₁.setTop (mkF m 49 #[.val (.ref d), .val (.int op), .val (.long x1), .second, .val (.ref pr), .val (.int (op &&& (3 : Int32))), .val (.long (x1 &&& (9223372036854775807 : Int64))), .second, .unset, .unset] []))
    refine OEnd.of (fun t k => XS.iload X0.here hx rfl (hb hby d9_49) rfl k) ?_
    show OEnd p e below _ (s₁.setTop (mkF m 51 #[.val (.ref d), .val (.int op), .val (.long x1), .second, .val (.ref pr), .val (.int (op &&& (3 : Int32))), .val (.long (x1 &&& (9223372036854775807 : Int64))), .second, .unset, .unset] [(.int (op &&& (3 : Int32)))]))
    refine OEnd.of (fun t k => XS.iconst X0.here hx rfl (hb hby d9_51) k) ?_
    show OEnd p e below _ (s₁.setTop (mkF m 52 #[.val (.ref d), .val (.int op), .val (.long x1), .second, .val (.ref pr), .val (.int (op &&& (3 : Int32))), .val (.long (x1 &&& (9223372036854775807 : Int64))), .second, .unset, .unset] [(.int (1 : Int32)), (.int (op &&& (3 : Int32)))]))
    by_cases hc261 : (op &&& (3 : Int32)) = (1 : Int32)
    · refine OEnd.of (fun t k => XS.icmpNo X0.here hx rfl (hb hby d9_52) rfl (teq hc261).2 k) ?_
      show OEnd p e below _ (s₁.setTop (mkF m 55 #[.val (.ref d), .val (.int op), .val (.long x1), .second, .val (.ref pr), .val (.int (op &&& (3 : Int32))), .val (.long (x1 &&& (9223372036854775807 : Int64))), .second, .unset, .unset] []))
      refine OEnd.of (fun t k => XS.aloadN X0.here hx rfl (hb hby d9_55) rfl rfl k) ?_
      show OEnd p e below _ (s₁.setTop (mkF m 56 #[.val (.ref d), .val (.int op), .val (.long x1), .second, .val (.ref pr), .val (.int (op &&& (3 : Int32))), .val (.long (x1 &&& (9223372036854775807 : Int64))), .second, .unset, .unset] [(.ref d)]))
      refine OEnd.of (fun t k => XS.aload X0.here hx rfl (hb hby d9_56) rfl rfl k) ?_
      show OEnd p e below _ (s₁.setTop (mkF m 58 #[.val (.ref d), .val (.int op), .val (.long x1), .second, .val (.ref pr), .val (.int (op &&& (3 : Int32))), .val (.long (x1 &&& (9223372036854775807 : Int64))), .second, .unset, .unset] [(.ref pr), (.ref d)]))
      refine OEnd.of (fun t k => XS.lload X0.here hx rfl (hb hby d9_58) rfl k) ?_
      show OEnd p e below _ (s₁.setTop (mkF m 60 #[.val (.ref d), .val (.int op), .val (.long x1), .second, .val (.ref pr), .val (.int (op &&& (3 : Int32))), .val (.long (x1 &&& (9223372036854775807 : Int64))), .second, .unset, .unset] [(.long (x1 &&& (9223372036854775807 : Int64))), (.ref pr), (.ref d)]))
      obtain ⟨cq262, kq262, q262a, q262b, q262c⟩ := isOf hZ e0 E1
      obtain ⟨_, _, ⟨T262, L262, k262, n262⟩, -, X262, ⟨Lc262, hQ262, l262, y262, z262⟩, st262⟩ := X0.virtualBack hx (y := (⟨"com/example/metr/metr/Decision", "setGranted", "(Lcom/example/metr/metr/Parts;J)V"⟩ : MethodName)) (z := (⟨"com/example/metr/metr/Decision", "setGranted", "(Lcom/example/metr/metr/Parts;J)V"⟩ : MethodName)) hown (mvT hZ (hw _ (List.mem_of_getElem? (i := 96) rfl))) (mvT hZ (hw _ (List.mem_of_getElem? (i := 97) rfl))) (notFace_of_selects (args := #[]) (mvT hZ (hw _ (List.mem_of_getElem? (i := 99) rfl)))) (mvT hZ (hw _ (List.mem_of_getElem? (i := 99) rfl))) (mvT hZ (hw _ (List.mem_of_getElem? (i := 98) rfl))) (by decide) (backOf (W := 0) (rm14 l Z a0 hw  [] d pr (x1 &&& (9223372036854775807 : Int64)) pv gv dv tl wt bh tk h0 O0 E1 F_parts F_granted F_decided F_tokensLeft F_wait F_behind F_tokens g1 h_pv) hZ (hw _ (List.mem_of_getElem? (i := 100) rfl)) (hw _ (List.mem_of_getElem? (i := 2) rfl)) (by decide) (by decide)) q262a q262c (g := (mkF m 60 #[.val (.ref d), .val (.int op), .val (.long x1), .second, .val (.ref pr), .val (.int (op &&& (3 : Int32))), .val (.long (x1 &&& (9223372036854775807 : Int64))), .second, .unset, .unset] [(.long (x1 &&& (9223372036854775807 : Int64))), (.ref pr), (.ref d)])) rfl (by rw [hml]; rfl) (Steps.refl _) (argsL := [(.ref pr), (.long (x1 &&& (9223372036854775807 : Int64)))]) (rest := []) (lenOf pd_28Lcom2fexample2fmetr2fmetr2fParts3bJ29V rfl) rfl (by show 2 * 0 + _ ≤ _; exact Nat.le_of_eq rfl) (hb hby d9_60) (fun _ _ => ⟨rfl, e0, (by decide : 0 + 0 ≤ _), (by decide : 0 + 0 ≤ _)⟩)
      dsimp only [Pt.U, Pt.locs, Pt.cells, Pt.slots] at X262 l262 y262 z262 st262 hQ262
      subst l262 y262 z262
      obtain ⟨h262, e262⟩ : ∃ z, T262.heap = z := ⟨_, rfl⟩
      rw [e262] at hQ262
      obtain ⟨rfl, Nq262, Kq262, E_263, P_parts_264, P_granted_265, P_decided_266, P_tokensLeft_267, P_wait_268, P_behind_269, P_tokens_270⟩ := hQ262
      have N271 := Fr.app N0 Nq262
      refine OEnd.of (fun t k => st262.trans k) ?_
      show OEnd p e below _ (T262.setTop (mkF m 63 #[.val (.ref d), .val (.int op), .val (.long x1), .second, .val (.ref pr), .val (.int (op &&& (3 : Int32))), .val (.long (x1 &&& (9223372036854775807 : Int64))), .second, .unset, .unset] []))
      refine OEnd.of (fun t k => XS.iconst X262.here hx rfl (hb hby d9_63) k) ?_
      show OEnd p e below _ (T262.setTop (mkF m 64 #[.val (.ref d), .val (.int op), .val (.long x1), .second, .val (.ref pr), .val (.int (op &&& (3 : Int32))), .val (.long (x1 &&& (9223372036854775807 : Int64))), .second, .unset, .unset] [(.int (1 : Int32))]))
      refine OEnd.of (fun t k => XS.istore X262.here hx rfl (hb hby d9_64) rfl (l' := #[.val (.ref d), .val (.int op), .val (.long x1), .second, .val (.ref pr), .val (.int (op &&& (3 : Int32))), .val (.long (x1 &&& (9223372036854775807 : Int64))), .second, .val (.int (1 : Int32)), .unset]) rfl k) ?_
      show OEnd p e below _ (T262.setTop (mkF m 66 #[.val (.ref d), .val (.int op), .val (.long x1), .second, .val (.ref pr), .val (.int (op &&& (3 : Int32))), .val (.long (x1 &&& (9223372036854775807 : Int64))), .second, .val (.int (1 : Int32)), .unset] []))
      refine OEnd.of (fun t k => XS.goto X262.here hx rfl (pc0 := 66) (pc' := 110) rfl (hb hby d9_66) (by decide) (by decide) k) ?_
      show OEnd p e below _ (T262.setTop (mkF m 110 #[.val (.ref d), .val (.int op), .val (.long x1), .second, .val (.ref pr), .val (.int (op &&& (3 : Int32))), .val (.long (x1 &&& (9223372036854775807 : Int64))), .second, .val (.int (1 : Int32)), .unset] []))
      refine OEnd.of (fun t k => XS.iload X262.here hx rfl (hb hby d9_110) rfl k) ?_
      show OEnd p e below _ (T262.setTop (mkF m 112 #[.val (.ref d), .val (.int op), .val (.long x1), .second, .val (.ref pr), .val (.int (op &&& (3 : Int32))), .val (.long (x1 &&& (9223372036854775807 : Int64))), .second, .val (.int (1 : Int32)), .unset] [(.int (1 : Int32))]))
      have K272 : Keep h0 h262 [d] := ((Keep.refl h0 [d]).trans Kq262 (allS (Or.inl (List.mem_of_getElem? (i := 0) rfl)) all0))
      exact OEnd.retN X262 hx hlk e262 (t := .boolean) hret (by simp) (hb hby d9_112) ⟨(1 : Int32), (.ref pr), gv, (x1 &&& (9223372036854775807 : Int64)), tl, wt, bh, tk, rfl, N271, K272, E_263, P_parts_264, P_granted_265, P_decided_266, P_tokensLeft_267, P_wait_268, P_behind_269, P_tokens_270, rfl, (own_relG _)⟩ (by decide) (by decide)
    · refine OEnd.of (fun t k => XS.icmpYes X0.here hx rfl (pc0 := 52) (pc' := 69) rfl (hb hby d9_52) rfl (feq hc261).2 (by decide) (by decide) k) ?_
      show OEnd p e below _ (s₁.setTop (mkF m 69 #[.val (.ref d), .val (.int op), .val (.long x1), .second, .val (.ref pr), .val (.int (op &&& (3 : Int32))), .val (.long (x1 &&& (9223372036854775807 : Int64))), .second, .unset, .unset] []))
      refine OEnd.of (fun t k => XS.iload X0.here hx rfl (hb hby d9_69) rfl k) ?_
      show OEnd p e below _ (s₁.setTop (mkF m 71 #[.val (.ref d), .val (.int op), .val (.long x1), .second, .val (.ref pr), .val (.int (op &&& (3 : Int32))), .val (.long (x1 &&& (9223372036854775807 : Int64))), .second, .unset, .unset] [(.int (op &&& (3 : Int32)))]))
      refine OEnd.of (fun t k => XS.iconst X0.here hx rfl (hb hby d9_71) k) ?_
      show OEnd p e below _ (s₁.setTop (mkF m 72 #[.val (.ref d), .val (.int op), .val (.long x1), .second, .val (.ref pr), .val (.int (op &&& (3 : Int32))), .val (.long (x1 &&& (9223372036854775807 : Int64))), .second, .unset, .unset] [(.int (2 : Int32)), (.int (op &&& (3 : Int32)))]))
      by_cases hc273 : (op &&& (3 : Int32)) = (2 : Int32)
      · refine OEnd.of (fun t k => XS.icmpNo X0.here hx rfl (hb hby d9_72) rfl (teq hc273).2 k) ?_
        show OEnd p e below _ (s₁.setTop (mkF m 75 #[.val (.ref d), .val (.int op), .val (.long x1), .second, .val (.ref pr), .val (.int (op &&& (3 : Int32))), .val (.long (x1 &&& (9223372036854775807 : Int64))), .second, .unset, .unset] []))
        refine OEnd.of (fun t k => XS.aloadN X0.here hx rfl (hb hby d9_75) rfl rfl k) ?_
        show OEnd p e below _ (s₁.setTop (mkF m 76 #[.val (.ref d), .val (.int op), .val (.long x1), .second, .val (.ref pr), .val (.int (op &&& (3 : Int32))), .val (.long (x1 &&& (9223372036854775807 : Int64))), .second, .unset, .unset] [(.ref d)]))
        refine OEnd.of (fun t k => XS.aload X0.here hx rfl (hb hby d9_76) rfl rfl k) ?_
        show OEnd p e below _ (s₁.setTop (mkF m 78 #[.val (.ref d), .val (.int op), .val (.long x1), .second, .val (.ref pr), .val (.int (op &&& (3 : Int32))), .val (.long (x1 &&& (9223372036854775807 : Int64))), .second, .unset, .unset] [(.ref pr), (.ref d)]))
        refine OEnd.of (fun t k => XS.lload X0.here hx rfl (hb hby d9_78) rfl k) ?_
        show OEnd p e below _ (s₁.setTop (mkF m 80 #[.val (.ref d), .val (.int op), .val (.long x1), .second, .val (.ref pr), .val (.int (op &&& (3 : Int32))), .val (.long (x1 &&& (9223372036854775807 : Int64))), .second, .unset, .unset] [(.long (x1 &&& (9223372036854775807 : Int64))), (.ref pr), (.ref d)]))
        refine OEnd.of (fun t k => XS.iloadN X0.here hx rfl (hb hby d9_80) rfl k) ?_
        show OEnd p e below _ (s₁.setTop (mkF m 81 #[.val (.ref d), .val (.int op), .val (.long x1), .second, .val (.ref pr), .val (.int (op &&& (3 : Int32))), .val (.long (x1 &&& (9223372036854775807 : Int64))), .second, .unset, .unset] [(.int op), (.long (x1 &&& (9223372036854775807 : Int64))), (.ref pr), (.ref d)]))
        refine OEnd.of (fun t k => XS.iconst X0.here hx rfl (hb hby d9_81) k) ?_
        show OEnd p e below _ (s₁.setTop (mkF m 82 #[.val (.ref d), .val (.int op), .val (.long x1), .second, .val (.ref pr), .val (.int (op &&& (3 : Int32))), .val (.long (x1 &&& (9223372036854775807 : Int64))), .second, .unset, .unset] [(.int (4 : Int32)), (.int op), (.long (x1 &&& (9223372036854775807 : Int64))), (.ref pr), (.ref d)]))
        refine OEnd.of (fun t k => XS.iushr X0.here hx rfl (hb hby d9_82) rfl k) ?_
        show OEnd p e below _ (s₁.setTop (mkF m 83 #[.val (.ref d), .val (.int op), .val (.long x1), .second, .val (.ref pr), .val (.int (op &&& (3 : Int32))), .val (.long (x1 &&& (9223372036854775807 : Int64))), .second, .unset, .unset] [(.int ((op.toUInt32 >>> ((4 : Int32) &&& 31).toUInt32).toInt32)), (.long (x1 &&& (9223372036854775807 : Int64))), (.ref pr), (.ref d)]))
        refine OEnd.of (fun t k => XS.i2l X0.here hx rfl (hb hby d9_83) rfl k) ?_
        show OEnd p e below _ (s₁.setTop (mkF m 84 #[.val (.ref d), .val (.int op), .val (.long x1), .second, .val (.ref pr), .val (.int (op &&& (3 : Int32))), .val (.long (x1 &&& (9223372036854775807 : Int64))), .second, .unset, .unset] [(.long (((op.toUInt32 >>> ((4 : Int32) &&& 31).toUInt32).toInt32).toInt64)), (.long (x1 &&& (9223372036854775807 : Int64))), (.ref pr), (.ref d)]))
        obtain ⟨cq274, kq274, q274a, q274b, q274c⟩ := isOf hZ e0 E1
        obtain ⟨_, _, ⟨T274, L274, k274, n274⟩, -, X274, ⟨Lc274, hQ274, l274, y274, z274⟩, st274⟩ := X0.virtualBack hx (y := (⟨"com/example/metr/metr/Decision", "setRefused", "(Lcom/example/metr/metr/Parts;JJ)V"⟩ : MethodName)) (z := (⟨"com/example/metr/metr/Decision", "setRefused", "(Lcom/example/metr/metr/Parts;JJ)V"⟩ : MethodName)) hown (mvT hZ (hw _ (List.mem_of_getElem? (i := 83) rfl))) (mvT hZ (hw _ (List.mem_of_getElem? (i := 84) rfl))) (notFace_of_selects (args := #[]) (mvT hZ (hw _ (List.mem_of_getElem? (i := 86) rfl)))) (mvT hZ (hw _ (List.mem_of_getElem? (i := 86) rfl))) (mvT hZ (hw _ (List.mem_of_getElem? (i := 85) rfl))) (by decide) (backOf (W := 0) (rm12 l Z a0 hw  [] d pr (x1 &&& (9223372036854775807 : Int64)) (((op.toUInt32 >>> ((4 : Int32) &&& 31).toUInt32).toInt32).toInt64) pv gv dv tl wt bh tk h0 O0 E1 F_parts F_granted F_decided F_tokensLeft F_wait F_behind F_tokens g1 h_pv) hZ (hw _ (List.mem_of_getElem? (i := 87) rfl)) (hw _ (List.mem_of_getElem? (i := 2) rfl)) (by decide) (by decide)) q274a q274c (g := (mkF m 84 #[.val (.ref d), .val (.int op), .val (.long x1), .second, .val (.ref pr), .val (.int (op &&& (3 : Int32))), .val (.long (x1 &&& (9223372036854775807 : Int64))), .second, .unset, .unset] [(.long (((op.toUInt32 >>> ((4 : Int32) &&& 31).toUInt32).toInt32).toInt64)), (.long (x1 &&& (9223372036854775807 : Int64))), (.ref pr), (.ref d)])) rfl (by rw [hml]; rfl) (Steps.refl _) (argsL := [(.ref pr), (.long (x1 &&& (9223372036854775807 : Int64))), (.long (((op.toUInt32 >>> ((4 : Int32) &&& 31).toUInt32).toInt32).toInt64))]) (rest := []) (lenOf pd_28Lcom2fexample2fmetr2fmetr2fParts3bJJ29V rfl) rfl (by show 2 * 0 + _ ≤ _; exact Nat.le_of_eq rfl) (hb hby d9_84) (fun _ _ => ⟨rfl, e0, (by decide : 0 + 0 ≤ _), (by decide : 0 + 0 ≤ _)⟩)
        dsimp only [Pt.U, Pt.locs, Pt.cells, Pt.slots] at X274 l274 y274 z274 st274 hQ274
        subst l274 y274 z274
        obtain ⟨h274, e274⟩ : ∃ z, T274.heap = z := ⟨_, rfl⟩
        rw [e274] at hQ274
        obtain ⟨rfl, Nq274, Kq274, E_275, P_parts_276, P_granted_277, P_decided_278, P_tokensLeft_279, P_wait_280, P_behind_281, P_tokens_282⟩ := hQ274
        have N283 := Fr.app N0 Nq274
        refine OEnd.of (fun t k => st274.trans k) ?_
        show OEnd p e below _ (T274.setTop (mkF m 87 #[.val (.ref d), .val (.int op), .val (.long x1), .second, .val (.ref pr), .val (.int (op &&& (3 : Int32))), .val (.long (x1 &&& (9223372036854775807 : Int64))), .second, .unset, .unset] []))
        refine OEnd.of (fun t k => XS.iconst X274.here hx rfl (hb hby d9_87) k) ?_
        show OEnd p e below _ (T274.setTop (mkF m 88 #[.val (.ref d), .val (.int op), .val (.long x1), .second, .val (.ref pr), .val (.int (op &&& (3 : Int32))), .val (.long (x1 &&& (9223372036854775807 : Int64))), .second, .unset, .unset] [(.int (0 : Int32))]))
        refine OEnd.of (fun t k => XS.istore X274.here hx rfl (hb hby d9_88) rfl (l' := #[.val (.ref d), .val (.int op), .val (.long x1), .second, .val (.ref pr), .val (.int (op &&& (3 : Int32))), .val (.long (x1 &&& (9223372036854775807 : Int64))), .second, .val (.int (0 : Int32)), .unset]) rfl k) ?_
        show OEnd p e below _ (T274.setTop (mkF m 90 #[.val (.ref d), .val (.int op), .val (.long x1), .second, .val (.ref pr), .val (.int (op &&& (3 : Int32))), .val (.long (x1 &&& (9223372036854775807 : Int64))), .second, .val (.int (0 : Int32)), .unset] []))
        refine OEnd.of (fun t k => XS.goto X274.here hx rfl (pc0 := 90) (pc' := 110) rfl (hb hby d9_90) (by decide) (by decide) k) ?_
        show OEnd p e below _ (T274.setTop (mkF m 110 #[.val (.ref d), .val (.int op), .val (.long x1), .second, .val (.ref pr), .val (.int (op &&& (3 : Int32))), .val (.long (x1 &&& (9223372036854775807 : Int64))), .second, .val (.int (0 : Int32)), .unset] []))
        refine OEnd.of (fun t k => XS.iload X274.here hx rfl (hb hby d9_110) rfl k) ?_
        show OEnd p e below _ (T274.setTop (mkF m 112 #[.val (.ref d), .val (.int op), .val (.long x1), .second, .val (.ref pr), .val (.int (op &&& (3 : Int32))), .val (.long (x1 &&& (9223372036854775807 : Int64))), .second, .val (.int (0 : Int32)), .unset] [(.int (0 : Int32))]))
        have K284 : Keep h0 h274 [d] := ((Keep.refl h0 [d]).trans Kq274 (allS (Or.inl (List.mem_of_getElem? (i := 0) rfl)) all0))
        exact OEnd.retN X274 hx hlk e274 (t := .boolean) hret (by simp) (hb hby d9_112) ⟨(0 : Int32), (.ref pr), gv, ((x1 &&& (9223372036854775807 : Int64)) ^^^ (-1 : Int64)), tl, wt, bh, (((op.toUInt32 >>> ((4 : Int32) &&& 31).toUInt32).toInt32).toInt64), rfl, N283, K284, E_275, P_parts_276, P_granted_277, P_decided_278, P_tokensLeft_279, P_wait_280, P_behind_281, P_tokens_282, rfl, (own_relR _)⟩ (by decide) (by decide)
      · refine OEnd.of (fun t k => XS.icmpYes X0.here hx rfl (pc0 := 72) (pc' := 93) rfl (hb hby d9_72) rfl (feq hc273).2 (by decide) (by decide) k) ?_
        show OEnd p e below _ (s₁.setTop (mkF m 93 #[.val (.ref d), .val (.int op), .val (.long x1), .second, .val (.ref pr), .val (.int (op &&& (3 : Int32))), .val (.long (x1 &&& (9223372036854775807 : Int64))), .second, .unset, .unset] []))
        refine OEnd.of (fun t k => XS.aloadN X0.here hx rfl (hb hby d9_93) rfl rfl k) ?_
        show OEnd p e below _ (s₁.setTop (mkF m 94 #[.val (.ref d), .val (.int op), .val (.long x1), .second, .val (.ref pr), .val (.int (op &&& (3 : Int32))), .val (.long (x1 &&& (9223372036854775807 : Int64))), .second, .unset, .unset] [(.ref d)]))
        refine OEnd.of (fun t k => XS.lloadN X0.here hx rfl (hb hby d9_94) rfl k) ?_
        show OEnd p e below _ (s₁.setTop (mkF m 95 #[.val (.ref d), .val (.int op), .val (.long x1), .second, .val (.ref pr), .val (.int (op &&& (3 : Int32))), .val (.long (x1 &&& (9223372036854775807 : Int64))), .second, .unset, .unset] [(.long x1), (.ref d)]))
        obtain ⟨cq285, kq285, q285a, q285b, q285c⟩ := isOf hZ e0 E1
        obtain ⟨_, _, ⟨T285, L285, k285, n285⟩, -, X285, ⟨Lc285, hQ285, l285, y285, z285⟩, st285⟩ := X0.virtualBack hx (y := (⟨"com/example/metr/metr/Decision", "setBehind", "(J)V"⟩ : MethodName)) (z := (⟨"com/example/metr/metr/Decision", "setBehind", "(J)V"⟩ : MethodName)) hown (mvT hZ (hw _ (List.mem_of_getElem? (i := 76) rfl))) (mvT hZ (hw _ (List.mem_of_getElem? (i := 77) rfl))) (notFace_of_selects (args := #[]) (mvT hZ (hw _ (List.mem_of_getElem? (i := 79) rfl)))) (mvT hZ (hw _ (List.mem_of_getElem? (i := 79) rfl))) (mvT hZ (hw _ (List.mem_of_getElem? (i := 78) rfl))) (by decide) (backOf (W := 0) (rm11 l Z a0 hw  [] d x1 pv gv dv tl wt bh tk h0 O0 E1 F_parts F_granted F_decided F_tokensLeft F_wait F_behind F_tokens g1 h_pv) hZ (hw _ (List.mem_of_getElem? (i := 80) rfl)) (hw _ (List.mem_of_getElem? (i := 2) rfl)) (by decide) (by decide)) q285a q285c (g := (mkF m 95 #[.val (.ref d), .val (.int op), .val (.long x1), .second, .val (.ref pr), .val (.int (op &&& (3 : Int32))), .val (.long (x1 &&& (9223372036854775807 : Int64))), .second, .unset, .unset] [(.long x1), (.ref d)])) rfl (by rw [hml]; rfl) (Steps.refl _) (argsL := [(.long x1)]) (rest := []) (lenOf pd_28J29V rfl) rfl (by show 2 * 0 + _ ≤ _; exact Nat.le_of_eq rfl) (hb hby d9_95) (fun _ _ => ⟨rfl, e0, (by decide : 0 + 0 ≤ _), (by decide : 0 + 0 ≤ _)⟩)
        dsimp only [Pt.U, Pt.locs, Pt.cells, Pt.slots] at X285 l285 y285 z285 st285 hQ285
        subst l285 y285 z285
        obtain ⟨h285, e285⟩ : ∃ z, T285.heap = z := ⟨_, rfl⟩
        rw [e285] at hQ285
        obtain ⟨rfl, Nq285, Kq285, E_286, P_parts_287, P_granted_288, P_decided_289, P_tokensLeft_290, P_wait_291, P_behind_292, P_tokens_293⟩ := hQ285
        have N294 := Fr.app N0 Nq285
        refine OEnd.of (fun t k => st285.trans k) ?_
        show OEnd p e below _ (T285.setTop (mkF m 98 #[.val (.ref d), .val (.int op), .val (.long x1), .second, .val (.ref pr), .val (.int (op &&& (3 : Int32))), .val (.long (x1 &&& (9223372036854775807 : Int64))), .second, .unset, .unset] []))
        refine OEnd.of (fun t k => XS.aloadN X285.here hx rfl (hb hby d9_98) rfl rfl k) ?_
        show OEnd p e below _ (T285.setTop (mkF m 99 #[.val (.ref d), .val (.int op), .val (.long x1), .second, .val (.ref pr), .val (.int (op &&& (3 : Int32))), .val (.long (x1 &&& (9223372036854775807 : Int64))), .second, .unset, .unset] [(.ref d)]))
        refine OEnd.of (fun t k => XS.aload X285.here hx rfl (hb hby d9_99) rfl rfl k) ?_
        show OEnd p e below _ (T285.setTop (mkF m 101 #[.val (.ref d), .val (.int op), .val (.long x1), .second, .val (.ref pr), .val (.int (op &&& (3 : Int32))), .val (.long (x1 &&& (9223372036854775807 : Int64))), .second, .unset, .unset] [(.ref pr), (.ref d)]))
        refine OEnd.of (fun t k => XS.lload X285.here hx rfl (hb hby d9_101) rfl k) ?_
        show OEnd p e below _ (T285.setTop (mkF m 103 #[.val (.ref d), .val (.int op), .val (.long x1), .second, .val (.ref pr), .val (.int (op &&& (3 : Int32))), .val (.long (x1 &&& (9223372036854775807 : Int64))), .second, .unset, .unset] [(.long (x1 &&& (9223372036854775807 : Int64))), (.ref pr), (.ref d)]))
        refine OEnd.of (fun t k => XS.lloadN X285.here hx rfl (hb hby d9_103) rfl k) ?_
        show OEnd p e below _ (T285.setTop (mkF m 104 #[.val (.ref d), .val (.int op), .val (.long x1), .second, .val (.ref pr), .val (.int (op &&& (3 : Int32))), .val (.long (x1 &&& (9223372036854775807 : Int64))), .second, .unset, .unset] [(.long x1), (.long (x1 &&& (9223372036854775807 : Int64))), (.ref pr), (.ref d)]))
        have K296 : Keep h0 h285 [d] := ((Keep.refl h0 [d]).trans Kq285 (allS (Or.inl (List.mem_of_getElem? (i := 0) rfl)) all0))
        have O297 : Ext Z.heap h285 := own_extKeep O0 K296 (allS g1 all0)
        obtain ⟨cq295, kq295, q295a, q295b, q295c⟩ := isOf hZ e285 E_286
        obtain ⟨_, _, ⟨T295, L295, k295, n295⟩, -, X295, ⟨Lc295, hQ295, l295, y295, z295⟩, st295⟩ := X285.virtualBack hx (y := (⟨"com/example/metr/metr/Decision", "setRefused", "(Lcom/example/metr/metr/Parts;JJ)V"⟩ : MethodName)) (z := (⟨"com/example/metr/metr/Decision", "setRefused", "(Lcom/example/metr/metr/Parts;JJ)V"⟩ : MethodName)) hown (mvT hZ (hw _ (List.mem_of_getElem? (i := 83) rfl))) (mvT hZ (hw _ (List.mem_of_getElem? (i := 84) rfl))) (notFace_of_selects (args := #[]) (mvT hZ (hw _ (List.mem_of_getElem? (i := 86) rfl)))) (mvT hZ (hw _ (List.mem_of_getElem? (i := 86) rfl))) (mvT hZ (hw _ (List.mem_of_getElem? (i := 85) rfl))) (by decide) (backOf (W := 0) (rm12 l Z a0 hw  [] d pr (x1 &&& (9223372036854775807 : Int64)) x1 pv gv dv tl wt x1 tk h285 O297 E_286 P_parts_287 P_granted_288 P_decided_289 P_tokensLeft_290 P_wait_291 P_behind_292 P_tokens_293 g1 h_pv) hZ (hw _ (List.mem_of_getElem? (i := 87) rfl)) (hw _ (List.mem_of_getElem? (i := 2) rfl)) (by decide) (by decide)) q295a q295c (g := (mkF m 104 #[.val (.ref d), .val (.int op), .val (.long x1), .second, .val (.ref pr), .val (.int (op &&& (3 : Int32))), .val (.long (x1 &&& (9223372036854775807 : Int64))), .second, .unset, .unset] [(.long x1), (.long (x1 &&& (9223372036854775807 : Int64))), (.ref pr), (.ref d)])) rfl (by rw [hml]; rfl) (Steps.refl _) (argsL := [(.ref pr), (.long (x1 &&& (9223372036854775807 : Int64))), (.long x1)]) (rest := []) (lenOf pd_28Lcom2fexample2fmetr2fmetr2fParts3bJJ29V rfl) rfl (by show 2 * 0 + _ ≤ _; exact Nat.le_of_eq rfl) (hb hby d9_104) (fun _ _ => ⟨rfl, e285, (by decide : 0 + 0 ≤ _), (by decide : 0 + 0 ≤ _)⟩)
        dsimp only [Pt.U, Pt.locs, Pt.cells, Pt.slots] at X295 l295 y295 z295 st295 hQ295
        subst l295 y295 z295
        obtain ⟨h295, e295⟩ : ∃ z, T295.heap = z := ⟨_, rfl⟩
        rw [e295] at hQ295
        obtain ⟨rfl, Nq295, Kq295, E_298, P_parts_299, P_granted_300, P_decided_301, P_tokensLeft_302, P_wait_303, P_behind_304, P_tokens_305⟩ := hQ295
        have N306 := Fr.app N294 Nq295
        refine OEnd.of (fun t k => st295.trans k) ?_
        show OEnd p e below _ (T295.setTop (mkF m 107 #[.val (.ref d), .val (.int op), .val (.long x1), .second, .val (.ref pr), .val (.int (op &&& (3 : Int32))), .val (.long (x1 &&& (9223372036854775807 : Int64))), .second, .unset, .unset] []))
        refine OEnd.of (fun t k => XS.iconst X295.here hx rfl (hb hby d9_107) k) ?_
        show OEnd p e below _ (T295.setTop (mkF m 108 #[.val (.ref d), .val (.int op), .val (.long x1), .second, .val (.ref pr), .val (.int (op &&& (3 : Int32))), .val (.long (x1 &&& (9223372036854775807 : Int64))), .second, .unset, .unset] [(.int (0 : Int32))]))
        refine OEnd.of (fun t k => XS.istore X295.here hx rfl (hb hby d9_108) rfl (l' := #[.val (.ref d), .val (.int op), .val (.long x1), .second, .val (.ref pr), .val (.int (op &&& (3 : Int32))), .val (.long (x1 &&& (9223372036854775807 : Int64))), .second, .val (.int (0 : Int32)), .unset]) rfl k) ?_
        show OEnd p e below _ (T295.setTop (mkF m 110 #[.val (.ref d), .val (.int op), .val (.long x1), .second, .val (.ref pr), .val (.int (op &&& (3 : Int32))), .val (.long (x1 &&& (9223372036854775807 : Int64))), .second, .val (.int (0 : Int32)), .unset] []))
        refine OEnd.of (fun t k => XS.iload X295.here hx rfl (hb hby d9_110) rfl k) ?_
        show OEnd p e below _ (T295.setTop (mkF m 112 #[.val (.ref d), .val (.int op), .val (.long x1), .second, .val (.ref pr), .val (.int (op &&& (3 : Int32))), .val (.long (x1 &&& (9223372036854775807 : Int64))), .second, .val (.int (0 : Int32)), .unset] [(.int (0 : Int32))]))
        have K307 : Keep h0 h295 [d] := (K296.trans Kq295 (allS (Or.inl (List.mem_of_getElem? (i := 0) rfl)) all0))
        exact OEnd.retN X295 hx hlk e295 (t := .boolean) hret (by simp) (hb hby d9_112) ⟨(0 : Int32), (.ref pr), gv, ((x1 &&& (9223372036854775807 : Int64)) ^^^ (-1 : Int64)), tl, wt, x1, x1, rfl, N306, K307, E_298, P_parts_299, P_granted_300, P_decided_301, P_tokensLeft_302, P_wait_303, P_behind_304, P_tokens_305, rfl, (own_relR _)⟩ (by decide) (by decide)
theorem pd_2829V : parseMethodDescriptor "()V" = some ⟨[], none⟩ := by decide +kernel
theorem pd_28JJJ29V : parseMethodDescriptor "(JJJ)V" = some ⟨[.long, .long, .long], none⟩ := by decide +kernel
theorem pd_2829Z : parseMethodDescriptor "()Z" = some ⟨[], some .boolean⟩ := by decide +kernel
theorem pd_28Lcom2fexample2fmetr2fmetr2fDecision3bIJLcom2fexample2fmetr2fmetr2fParts3b29Z : parseMethodDescriptor "(Lcom/example/metr/metr/Decision;IJLcom/example/metr/metr/Parts;)Z" = some ⟨[(.object "com/example/metr/metr/Decision"), .int, .long, (.object "com/example/metr/metr/Parts")], some .boolean⟩ := by decide +kernel
theorem ef_rm0 (m : MethodId) (p0 : Int32) (p1 : Int32) (q2 : Int64) (q3 : Int64) : entryFrame m #[(.int p0), (.int p1), (.long q2), (.long q3)] maxLocals = mkF m 0 #[.val (.int p0), .val (.int p1), .val (.long q2), .second, .val (.long q3), .second, .unset, .unset, .unset, .unset, .unset, .unset, .unset, .unset] [] := by first | (simp [entryFrame, mkF, argsToLocals, Value.category, maxLocals]; done) | rfl
def Qrm0 (Z : State)  (p0 : Int32) (p1 : Int32) (q2 : Int64) (q3 : Int64) (h0 : Heap) (v : Option Value) (h : Heap) (L : List Loc) : Prop := v = some (.int (1 : Int32)) ∧ Fr Z.heap.size L ∧ Keep h0 h []
set_option maxRecDepth 65536 in
set_option maxHeartbeats 40000000 in
theorem rm0 (l : Launch) (Z : State) (a0 : Array Value) (hw : ∀ d ∈ tables_1, d.before a0 Z = true)   (ws : List Jvm.Cond) (p0 : Int32) (p1 : Int32) (q2 : Int64) (q3 : Int64) (h0 : Heap) (O0 : Ext Z.heap h0) :
    MetFree l x (head1 (Jvm.Cond.code x code maxLocals ret :: ws) room_1) (fun a U => a = #[(.int p0), (.int p1), (.long q2), (.long q3)] ∧ Z.Warmed39 U.vm ∧ U.heap = h0) (fun _ _ _ _ _ => True) (fun _ U o U' => ∃ v L, o = .returned v ∧ Qrm0 Z p0 p1 q2 q3 h0 v U'.heap L ∧ FrameEnd U o U' L 16 128) := by
  refine MetFree.of_bodySF (plainFor_of_name pn_com_example_metr_metr_DecisionGrantedPinLaw) hisR ?_
  intro p e s m args below meth c s₁ Bd hml0 hP hK
  obtain ⟨rfl, hZ, hh⟩ := hP
  have hx := Bd.exec
  have hby := Bd.bytes
  have hlk : meth.locks = false := BodyLoose.notSynchronized Bd
  have hret := Bd.returns
  have hml : c.maxLocals = 14 := hml0
  have hown : s.vm.findClass "com/example/metr/metr/DecisionGrantedPinLaw" = some m.cls := findClass_of_methodNamed Bd.named
  have hnm := (name_of_methodNamed Bd.named Bd.method).1
  have X0 : Stand p l e room_1 s m #[(.int p0), (.int p1), (.long q2), (.long q3)] below meth c s₁ [] 0 0 := Stand.of_body Bd
  have e0 : s₁.heap = h0 := by rw [← hh, Bd.state]; rfl
  have N0 := Fr.nil Z.heap.size
  show OEnd p e below (GN s (Qrm0 Z p0 p1 q2 q3 h0) 16 128) _
  refine OEnd.of (fun t k => castTop (ef_rm0 m p0 p1 q2 q3) k) ?_
  obtain ⟨T308, h308, X308, e308, E308, A308, D308, -, st308⟩ := newO X0 hx hZ hown (hw _ (List.mem_of_getElem? (i := 0) rfl)) (hw _ (List.mem_of_getElem? (i := 1) rfl)) (hw _ (List.mem_of_getElem? (i := 2) rfl)) e0 (g := (mkF m 0 #[.val (.int p0), .val (.int p1), .val (.long q2), .second, .val (.long q3), .second, .unset, .unset, .unset, .unset, .unset, .unset, .unset, .unset] [])) rfl (hb hby at_0) (by decide) (by decide)
  obtain ⟨b308, g308⟩ : ∃ z, z = h0.size := ⟨_, rfl⟩
  rw [← g308] at A308 D308 st308
  refine OEnd.of st308 ?_
  have f308 : Z.heap.size ≤ b308 := Nat.le_trans O0.1 (Nat.le_of_eq g308.symm)
  have F309 : Fld Z h308 b308 "com/example/metr/metr/Decision" "wait" "J" (.long (0 : Int64)) := D308 (Or.inl (hw _ (List.mem_of_getElem? (i := 11) rfl))) (ty := .long) (by decide)
  have F310 : Fld Z h308 b308 "com/example/metr/metr/Decision" "parts" "Lcom/example/metr/metr/Parts;" .null := D308 (Or.inl (hw _ (List.mem_of_getElem? (i := 60) rfl))) (ty := (.object "com/example/metr/metr/Parts")) (by decide)
  have F311 : Fld Z h308 b308 "com/example/metr/metr/Decision" "granted" "Z" (.int (0 : Int32)) := D308 (Or.inl (hw _ (List.mem_of_getElem? (i := 62) rfl))) (ty := .boolean) (by decide)
  have F312 : Fld Z h308 b308 "com/example/metr/metr/Decision" "tokensLeft" "J" (.long (0 : Int64)) := D308 (Or.inl (hw _ (List.mem_of_getElem? (i := 75) rfl))) (ty := .long) (by decide)
  have F313 : Fld Z h308 b308 "com/example/metr/metr/Decision" "behind" "J" (.long (0 : Int64)) := D308 (Or.inl (hw _ (List.mem_of_getElem? (i := 82) rfl))) (ty := .long) (by decide)
  have F314 : Fld Z h308 b308 "com/example/metr/metr/Decision" "decided" "J" (.long (0 : Int64)) := D308 (Or.inl (hw _ (List.mem_of_getElem? (i := 93) rfl))) (ty := .long) (by decide)
  have F315 : Fld Z h308 b308 "com/example/metr/metr/Decision" "tokens" "J" (.long (0 : Int64)) := D308 (Or.inl (hw _ (List.mem_of_getElem? (i := 95) rfl))) (ty := .long) (by decide)
  show OEnd p e below _ (T308.setTop (mkF m 3 #[.val (.int p0), .val (.int p1), .val (.long q2), .second, .val (.long q3), .second, .unset, .unset, .unset, .unset, .unset, .unset, .unset, .unset] [(.ref b308)]))
  refine OEnd.of (fun t k => XS.dup X308.here hx rfl (hb hby at_3) rfl rfl k) ?_
  show OEnd p e below _ (T308.setTop (mkF m 4 #[.val (.int p0), .val (.int p1), .val (.long q2), .second, .val (.long q3), .second, .unset, .unset, .unset, .unset, .unset, .unset, .unset, .unset] [(.ref b308), (.ref b308)]))
  have K317 : Keep h0 h308 [] := ((Keep.refl h0 []).ext E308)
  have O318 : Ext Z.heap h308 := own_extKeep O0 K317 all0
  obtain ⟨_, _, ⟨T316, L316, k316, n316⟩, -, X316, ⟨Lc316, hQ316, l316, y316, z316⟩, st316⟩ := X308.specialBack hx (y := (⟨"com/example/metr/metr/Decision", "<init>", "()V"⟩ : MethodName)) rfl hown (mvT hZ (hw _ (List.mem_of_getElem? (i := 3) rfl))) (mvT hZ (hw _ (List.mem_of_getElem? (i := 4) rfl))) (mvT hZ (hw _ (List.mem_of_getElem? (i := 5) rfl))) (by decide) (backOf (W := 1) (rm1 l Z a0 hw  [] b308 h308 O318 A308 F310 F311 F314 F312 F309 F313 F315 f308) hZ (hw _ (List.mem_of_getElem? (i := 5) rfl)) (hw _ (List.mem_of_getElem? (i := 2) rfl)) (by decide) (by decide)) (g := (mkF m 4 #[.val (.int p0), .val (.int p1), .val (.long q2), .second, .val (.long q3), .second, .unset, .unset, .unset, .unset, .unset, .unset, .unset, .unset] [(.ref b308), (.ref b308)])) rfl (by rw [hml]; rfl) (Steps.refl _) (a := b308) (argsL := []) (rest := [(.ref b308)]) (lenOf pd_2829V rfl) rfl (by show 2 * 0 + _ ≤ _; exact Nat.le_of_eq rfl) (hb hby at_4) (fun _ _ => ⟨rfl, e308, (by decide : 1 + 0 ≤ _), (by decide : 7 + 0 ≤ _)⟩)
  dsimp only [Pt.U, Pt.locs, Pt.cells, Pt.slots] at X316 l316 y316 z316 st316 hQ316
  subst l316 y316 z316
  obtain ⟨h316, e316⟩ : ∃ z, T316.heap = z := ⟨_, rfl⟩
  rw [e316] at hQ316
  obtain ⟨rfl, Nq316, Kq316, E_319, P_parts_320, P_granted_321, P_decided_322, P_tokensLeft_323, P_wait_324, P_behind_325, P_tokens_326⟩ := hQ316
  have N327 := Fr.app N0 Nq316
  refine OEnd.of (fun t k => st316.trans k) ?_
  show OEnd p e below _ (T316.setTop (mkF m 7 #[.val (.int p0), .val (.int p1), .val (.long q2), .second, .val (.long q3), .second, .unset, .unset, .unset, .unset, .unset, .unset, .unset, .unset] [(.ref b308)]))
  refine OEnd.of (fun t k => XS.astore X316.here hx rfl (hb hby at_7) rfl rfl (l' := #[.val (.int p0), .val (.int p1), .val (.long q2), .second, .val (.long q3), .second, .val (.ref b308), .unset, .unset, .unset, .unset, .unset, .unset, .unset]) rfl k) ?_
  show OEnd p e below _ (T316.setTop (mkF m 9 #[.val (.int p0), .val (.int p1), .val (.long q2), .second, .val (.long q3), .second, .val (.ref b308), .unset, .unset, .unset, .unset, .unset, .unset, .unset] []))
  have K329 : Keep h308 h316 [b308] := ((Keep.refl h308 [b308]).trans Kq316 (allS (Or.inl (List.mem_of_getElem? (i := 0) rfl)) all0))
  have O330 : Ext Z.heap h316 := own_extKeep O318 K329 (allS f308 all0)
  obtain ⟨T328, h328, X328, e328, E328, A328, D328, -, st328⟩ := newO X316 hx hZ hown (hw _ (List.mem_of_getElem? (i := 12) rfl)) (hw _ (List.mem_of_getElem? (i := 13) rfl)) (hw _ (List.mem_of_getElem? (i := 14) rfl)) e316 (g := (mkF m 9 #[.val (.int p0), .val (.int p1), .val (.long q2), .second, .val (.long q3), .second, .val (.ref b308), .unset, .unset, .unset, .unset, .unset, .unset, .unset] [])) rfl (hb hby at_9) (by decide) (by decide)
  obtain ⟨b328, g328⟩ : ∃ z, z = h316.size := ⟨_, rfl⟩
  rw [← g328] at A328 D328 st328
  refine OEnd.of st328 ?_
  have f328 : Z.heap.size ≤ b328 := Nat.le_trans O330.1 (Nat.le_of_eq g328.symm)
  have F331 : Fld Z h328 b328 "com/example/metr/metr/Parts" "capacity" "J" (.long (0 : Int64)) := D328 (Or.inr (hw _ (List.mem_of_getElem? (i := 20) rfl))) (ty := .long) (by decide)
  have F332 : Fld Z h328 b328 "com/example/metr/metr/Parts" "refillTokens" "J" (.long (0 : Int64)) := D328 (Or.inr (hw _ (List.mem_of_getElem? (i := 22) rfl))) (ty := .long) (by decide)
  have F333 : Fld Z h328 b328 "com/example/metr/metr/Parts" "refillPeriod" "J" (.long (0 : Int64)) := D328 (Or.inr (hw _ (List.mem_of_getElem? (i := 24) rfl))) (ty := .long) (by decide)
  have F334 : Fld Z h328 b328 "com/example/metr/metr/Parts" "capacityParts" "J" (.long (0 : Int64)) := D328 (Or.inr (hw _ (List.mem_of_getElem? (i := 36) rfl))) (ty := .long) (by decide)
  have F335 : Fld Z h328 b328 "com/example/metr/metr/Parts" "deficitBits" "I" (.int (0 : Int32)) := D328 (Or.inr (hw _ (List.mem_of_getElem? (i := 47) rfl))) (ty := .int) (by decide)
  have F336 : Fld Z h328 b328 "com/example/metr/metr/Parts" "mostElapsed" "J" (.long (0 : Int64)) := D328 (Or.inr (hw _ (List.mem_of_getElem? (i := 50) rfl))) (ty := .long) (by decide)
  show OEnd p e below _ (T328.setTop (mkF m 12 #[.val (.int p0), .val (.int p1), .val (.long q2), .second, .val (.long q3), .second, .val (.ref b308), .unset, .unset, .unset, .unset, .unset, .unset, .unset] [(.ref b328)]))
  refine OEnd.of (fun t k => XS.dup X328.here hx rfl (hb hby at_12) rfl rfl k) ?_
  show OEnd p e below _ (T328.setTop (mkF m 13 #[.val (.int p0), .val (.int p1), .val (.long q2), .second, .val (.long q3), .second, .val (.ref b308), .unset, .unset, .unset, .unset, .unset, .unset, .unset] [(.ref b328), (.ref b328)]))
  refine OEnd.of (fun t k => XS.lconst X328.here hx rfl (hb hby at_13) k) ?_
  show OEnd p e below _ (T328.setTop (mkF m 14 #[.val (.int p0), .val (.int p1), .val (.long q2), .second, .val (.long q3), .second, .val (.ref b308), .unset, .unset, .unset, .unset, .unset, .unset, .unset] [(.long (1 : Int64)), (.ref b328), (.ref b328)]))
  refine OEnd.of (fun t k => XS.lconst X328.here hx rfl (hb hby at_14) k) ?_
  show OEnd p e below _ (T328.setTop (mkF m 15 #[.val (.int p0), .val (.int p1), .val (.long q2), .second, .val (.long q3), .second, .val (.ref b308), .unset, .unset, .unset, .unset, .unset, .unset, .unset] [(.long (1 : Int64)), (.long (1 : Int64)), (.ref b328), (.ref b328)]))
  refine OEnd.of (fun t k => XS.lconst X328.here hx rfl (hb hby at_15) k) ?_
  show OEnd p e below _ (T328.setTop (mkF m 16 #[.val (.int p0), .val (.int p1), .val (.long q2), .second, .val (.long q3), .second, .val (.ref b308), .unset, .unset, .unset, .unset, .unset, .unset, .unset] [(.long (1 : Int64)), (.long (1 : Int64)), (.long (1 : Int64)), (.ref b328), (.ref b328)]))
  have K338 : Keep h316 h328 [] := ((Keep.refl h316 []).ext E328)
  have O339 : Ext Z.heap h328 := own_extKeep O330 K338 all0
  obtain ⟨_, _, ⟨T337, L337, k337, n337⟩, -, X337, ⟨Lc337, hQ337, l337, y337, z337⟩, st337⟩ := X328.specialBack hx (y := (⟨"com/example/metr/metr/Parts", "<init>", "(JJJ)V"⟩ : MethodName)) rfl hown (mvT hZ (hw _ (List.mem_of_getElem? (i := 15) rfl))) (mvT hZ (hw _ (List.mem_of_getElem? (i := 16) rfl))) (mvT hZ (hw _ (List.mem_of_getElem? (i := 17) rfl))) (by decide) (backOf (W := 1) (rm3 l Z a0 hw  [] b328 (1 : Int64) (1 : Int64) (1 : Int64) h328 O339 A328 F331 F332 F333 F334 F335 F336 f328 (by decide)) hZ (hw _ (List.mem_of_getElem? (i := 17) rfl)) (hw _ (List.mem_of_getElem? (i := 14) rfl)) (by decide) (by decide)) (g := (mkF m 16 #[.val (.int p0), .val (.int p1), .val (.long q2), .second, .val (.long q3), .second, .val (.ref b308), .unset, .unset, .unset, .unset, .unset, .unset, .unset] [(.long (1 : Int64)), (.long (1 : Int64)), (.long (1 : Int64)), (.ref b328), (.ref b328)])) rfl (by rw [hml]; rfl) (Steps.refl _) (a := b328) (argsL := [(.long (1 : Int64)), (.long (1 : Int64)), (.long (1 : Int64))]) (rest := [(.ref b328)]) (lenOf pd_28JJJ29V rfl) rfl (by show 2 * 0 + _ ≤ _; exact Nat.le_of_eq rfl) (hb hby at_16) (fun _ _ => ⟨rfl, e328, (by decide : 2 + 0 ≤ _), (by decide : 13 + 0 ≤ _)⟩)
  dsimp only [Pt.U, Pt.locs, Pt.cells, Pt.slots] at X337 l337 y337 z337 st337 hQ337
  subst l337 y337 z337
  obtain ⟨h337, e337⟩ : ∃ z, T337.heap = z := ⟨_, rfl⟩
  rw [e337] at hQ337
  obtain ⟨rfl, Nq337, Kq337, E_340, Fc_341, Ft_342, Fp_343, Fm_344⟩ := hQ337
  have N345 := Fr.app N327 Nq337
  refine OEnd.of (fun t k => st337.trans k) ?_
  show OEnd p e below _ (T337.setTop (mkF m 19 #[.val (.int p0), .val (.int p1), .val (.long q2), .second, .val (.long q3), .second, .val (.ref b308), .unset, .unset, .unset, .unset, .unset, .unset, .unset] [(.ref b328)]))
  refine OEnd.of (fun t k => XS.astore X337.here hx rfl (hb hby at_19) rfl rfl (l' := #[.val (.int p0), .val (.int p1), .val (.long q2), .second, .val (.long q3), .second, .val (.ref b308), .val (.ref b328), .unset, .unset, .unset, .unset, .unset, .unset]) rfl k) ?_
  show OEnd p e below _ (T337.setTop (mkF m 21 #[.val (.int p0), .val (.int p1), .val (.long q2), .second, .val (.long q3), .second, .val (.ref b308), .val (.ref b328), .unset, .unset, .unset, .unset, .unset, .unset] []))
  have K347 : Keep h328 h337 [b328] := ((Keep.refl h328 [b328]).trans Kq337 (allS (Or.inl (List.mem_of_getElem? (i := 0) rfl)) all0))
  have O348 : Ext Z.heap h337 := own_extKeep O339 K347 (allS f328 all0)
  obtain ⟨T346, h346, X346, e346, E346, A346, D346, -, st346⟩ := newO X337 hx hZ hown (hw _ (List.mem_of_getElem? (i := 12) rfl)) (hw _ (List.mem_of_getElem? (i := 13) rfl)) (hw _ (List.mem_of_getElem? (i := 14) rfl)) e337 (g := (mkF m 21 #[.val (.int p0), .val (.int p1), .val (.long q2), .second, .val (.long q3), .second, .val (.ref b308), .val (.ref b328), .unset, .unset, .unset, .unset, .unset, .unset] [])) rfl (hb hby at_21) (by decide) (by decide)
  obtain ⟨b346, g346⟩ : ∃ z, z = h337.size := ⟨_, rfl⟩
  rw [← g346] at A346 D346 st346
  refine OEnd.of st346 ?_
  have f346 : Z.heap.size ≤ b346 := Nat.le_trans O348.1 (Nat.le_of_eq g346.symm)
  have F349 : Fld Z h346 b346 "com/example/metr/metr/Parts" "capacity" "J" (.long (0 : Int64)) := D346 (Or.inr (hw _ (List.mem_of_getElem? (i := 20) rfl))) (ty := .long) (by decide)
  have F350 : Fld Z h346 b346 "com/example/metr/metr/Parts" "refillTokens" "J" (.long (0 : Int64)) := D346 (Or.inr (hw _ (List.mem_of_getElem? (i := 22) rfl))) (ty := .long) (by decide)
  have F351 : Fld Z h346 b346 "com/example/metr/metr/Parts" "refillPeriod" "J" (.long (0 : Int64)) := D346 (Or.inr (hw _ (List.mem_of_getElem? (i := 24) rfl))) (ty := .long) (by decide)
  have F352 : Fld Z h346 b346 "com/example/metr/metr/Parts" "capacityParts" "J" (.long (0 : Int64)) := D346 (Or.inr (hw _ (List.mem_of_getElem? (i := 36) rfl))) (ty := .long) (by decide)
  have F353 : Fld Z h346 b346 "com/example/metr/metr/Parts" "deficitBits" "I" (.int (0 : Int32)) := D346 (Or.inr (hw _ (List.mem_of_getElem? (i := 47) rfl))) (ty := .int) (by decide)
  have F354 : Fld Z h346 b346 "com/example/metr/metr/Parts" "mostElapsed" "J" (.long (0 : Int64)) := D346 (Or.inr (hw _ (List.mem_of_getElem? (i := 50) rfl))) (ty := .long) (by decide)
  show OEnd p e below _ (T346.setTop (mkF m 24 #[.val (.int p0), .val (.int p1), .val (.long q2), .second, .val (.long q3), .second, .val (.ref b308), .val (.ref b328), .unset, .unset, .unset, .unset, .unset, .unset] [(.ref b346)]))
  refine OEnd.of (fun t k => XS.dup X346.here hx rfl (hb hby at_24) rfl rfl k) ?_
  show OEnd p e below _ (T346.setTop (mkF m 25 #[.val (.int p0), .val (.int p1), .val (.long q2), .second, .val (.long q3), .second, .val (.ref b308), .val (.ref b328), .unset, .unset, .unset, .unset, .unset, .unset] [(.ref b346), (.ref b346)]))
  refine OEnd.of (X346.ldc2Long hx hown (mvT hZ (hw _ (List.mem_of_getElem? (i := 51) rfl))) (g := (mkF m 25 #[.val (.int p0), .val (.int p1), .val (.long q2), .second, .val (.long q3), .second, .val (.ref b308), .val (.ref b328), .unset, .unset, .unset, .unset, .unset, .unset] [(.ref b346), (.ref b346)])) rfl (hb hby at_25)) ?_
  show OEnd p e below _ (T346.setTop (mkF m 28 #[.val (.int p0), .val (.int p1), .val (.long q2), .second, .val (.long q3), .second, .val (.ref b308), .val (.ref b328), .unset, .unset, .unset, .unset, .unset, .unset] [(.long (3 : Int64)), (.ref b346), (.ref b346)]))
  refine OEnd.of (X346.ldc2Long hx hown (mvT hZ (hw _ (List.mem_of_getElem? (i := 52) rfl))) (g := (mkF m 28 #[.val (.int p0), .val (.int p1), .val (.long q2), .second, .val (.long q3), .second, .val (.ref b308), .val (.ref b328), .unset, .unset, .unset, .unset, .unset, .unset] [(.long (3 : Int64)), (.ref b346), (.ref b346)])) rfl (hb hby at_28)) ?_
  show OEnd p e below _ (T346.setTop (mkF m 31 #[.val (.int p0), .val (.int p1), .val (.long q2), .second, .val (.long q3), .second, .val (.ref b308), .val (.ref b328), .unset, .unset, .unset, .unset, .unset, .unset] [(.long (2 : Int64)), (.long (3 : Int64)), (.ref b346), (.ref b346)]))
  refine OEnd.of (X346.ldc2Long hx hown (mvT hZ (hw _ (List.mem_of_getElem? (i := 53) rfl))) (g := (mkF m 31 #[.val (.int p0), .val (.int p1), .val (.long q2), .second, .val (.long q3), .second, .val (.ref b308), .val (.ref b328), .unset, .unset, .unset, .unset, .unset, .unset] [(.long (2 : Int64)), (.long (3 : Int64)), (.ref b346), (.ref b346)])) rfl (hb hby at_31)) ?_
  show OEnd p e below _ (T346.setTop (mkF m 34 #[.val (.int p0), .val (.int p1), .val (.long q2), .second, .val (.long q3), .second, .val (.ref b308), .val (.ref b328), .unset, .unset, .unset, .unset, .unset, .unset] [(.long (5 : Int64)), (.long (2 : Int64)), (.long (3 : Int64)), (.ref b346), (.ref b346)]))
  have K356 : Keep h337 h346 [] := ((Keep.refl h337 []).ext E346)
  have O357 : Ext Z.heap h346 := own_extKeep O348 K356 all0
  obtain ⟨_, _, ⟨T355, L355, k355, n355⟩, -, X355, ⟨Lc355, hQ355, l355, y355, z355⟩, st355⟩ := X346.specialBack hx (y := (⟨"com/example/metr/metr/Parts", "<init>", "(JJJ)V"⟩ : MethodName)) rfl hown (mvT hZ (hw _ (List.mem_of_getElem? (i := 15) rfl))) (mvT hZ (hw _ (List.mem_of_getElem? (i := 16) rfl))) (mvT hZ (hw _ (List.mem_of_getElem? (i := 17) rfl))) (by decide) (backOf (W := 1) (rm3 l Z a0 hw  [] b346 (3 : Int64) (2 : Int64) (5 : Int64) h346 O357 A346 F349 F350 F351 F352 F353 F354 f346 (by decide)) hZ (hw _ (List.mem_of_getElem? (i := 17) rfl)) (hw _ (List.mem_of_getElem? (i := 14) rfl)) (by decide) (by decide)) (g := (mkF m 34 #[.val (.int p0), .val (.int p1), .val (.long q2), .second, .val (.long q3), .second, .val (.ref b308), .val (.ref b328), .unset, .unset, .unset, .unset, .unset, .unset] [(.long (5 : Int64)), (.long (2 : Int64)), (.long (3 : Int64)), (.ref b346), (.ref b346)])) rfl (by rw [hml]; rfl) (Steps.refl _) (a := b346) (argsL := [(.long (3 : Int64)), (.long (2 : Int64)), (.long (5 : Int64))]) (rest := [(.ref b346)]) (lenOf pd_28JJJ29V rfl) rfl (by show 2 * 0 + _ ≤ _; exact Nat.le_of_eq rfl) (hb hby at_34) (fun _ _ => ⟨rfl, e346, (by decide : 3 + 0 ≤ _), (by decide : 19 + 0 ≤ _)⟩)
  dsimp only [Pt.U, Pt.locs, Pt.cells, Pt.slots] at X355 l355 y355 z355 st355 hQ355
  subst l355 y355 z355
  obtain ⟨h355, e355⟩ : ∃ z, T355.heap = z := ⟨_, rfl⟩
  rw [e355] at hQ355
  obtain ⟨rfl, Nq355, Kq355, E_358, Fc_359, Ft_360, Fp_361, Fm_362⟩ := hQ355
  have N363 := Fr.app N345 Nq355
  refine OEnd.of (fun t k => st355.trans k) ?_
  show OEnd p e below _ (T355.setTop (mkF m 37 #[.val (.int p0), .val (.int p1), .val (.long q2), .second, .val (.long q3), .second, .val (.ref b308), .val (.ref b328), .unset, .unset, .unset, .unset, .unset, .unset] [(.ref b346)]))
  refine OEnd.of (fun t k => XS.astore X355.here hx rfl (hb hby at_37) rfl rfl (l' := #[.val (.int p0), .val (.int p1), .val (.long q2), .second, .val (.long q3), .second, .val (.ref b308), .val (.ref b328), .val (.ref b346), .unset, .unset, .unset, .unset, .unset]) rfl k) ?_
  show OEnd p e below _ (T355.setTop (mkF m 39 #[.val (.int p0), .val (.int p1), .val (.long q2), .second, .val (.long q3), .second, .val (.ref b308), .val (.ref b328), .val (.ref b346), .unset, .unset, .unset, .unset, .unset] []))
  refine OEnd.of (fun t k => XS.aload X355.here hx rfl (hb hby at_39) rfl rfl k) ?_
  show OEnd p e below _ (T355.setTop (mkF m 41 #[.val (.int p0), .val (.int p1), .val (.long q2), .second, .val (.long q3), .second, .val (.ref b308), .val (.ref b328), .val (.ref b346), .unset, .unset, .unset, .unset, .unset] [(.ref b308)]))
  have K365 : Keep h316 h337 [] := (K338.trans Kq337 (allS (Or.inr (Nat.le_of_eq g328.symm)) all0))
  have K366 : Keep h316 h355 [] := (((K338.trans Kq337 (allS (Or.inr (Nat.le_of_eq g328.symm)) all0)).ext E346).trans Kq355 (allS (Or.inr (Nat.le_trans K365.1 (Nat.le_of_eq g346.symm))) all0))
  have K367 : Keep h346 h355 [b346] := ((Keep.refl h346 [b346]).trans Kq355 (allS (Or.inl (List.mem_of_getElem? (i := 0) rfl)) all0))
  have O368 : Ext Z.heap h355 := own_extKeep O357 K367 (allS f346 all0)
  obtain ⟨cq364, kq364, q364a, q364b, q364c⟩ := isOf hZ e355 (E_319.keep K366)
  obtain ⟨_, _, ⟨T364, L364, k364, n364⟩, -, X364, ⟨Lc364, hQ364, l364, y364, z364⟩, st364⟩ := X355.virtualBack hx (y := (⟨"com/example/metr/metr/Decision", "granted", "()Z"⟩ : MethodName)) (z := (⟨"com/example/metr/metr/Decision", "granted", "()Z"⟩ : MethodName)) hown (mvT hZ (hw _ (List.mem_of_getElem? (i := 54) rfl))) (mvT hZ (hw _ (List.mem_of_getElem? (i := 55) rfl))) (notFace_of_selects (args := #[]) (mvT hZ (hw _ (List.mem_of_getElem? (i := 57) rfl)))) (mvT hZ (hw _ (List.mem_of_getElem? (i := 57) rfl))) (mvT hZ (hw _ (List.mem_of_getElem? (i := 56) rfl))) (by decide) (backOf (W := 0) (rm8 l Z a0 hw  [] b308 .null (0 : Int32) (0 : Int64) (0 : Int32) h355 O368 (P_parts_320.keep K366 nin0) (P_granted_321.keep K366 nin0) (P_decided_322.keep K366 nin0) rfl own_rel_start) hZ (hw _ (List.mem_of_getElem? (i := 58) rfl)) (hw _ (List.mem_of_getElem? (i := 2) rfl)) (by decide) (by decide)) q364a q364c (g := (mkF m 41 #[.val (.int p0), .val (.int p1), .val (.long q2), .second, .val (.long q3), .second, .val (.ref b308), .val (.ref b328), .val (.ref b346), .unset, .unset, .unset, .unset, .unset] [(.ref b308)])) rfl (by rw [hml]; rfl) (Steps.refl _) (argsL := []) (rest := []) (lenOf pd_2829Z rfl) rfl (by show 2 * 0 + _ ≤ _; exact Nat.le_of_eq rfl) (hb hby at_41) (fun _ _ => ⟨rfl, e355, (by decide : 3 + 0 ≤ _), (by decide : 19 + 0 ≤ _)⟩)
  dsimp only [Pt.U, Pt.locs, Pt.cells, Pt.slots] at X364 l364 y364 z364 st364 hQ364
  subst l364 y364 z364
  obtain ⟨rfl, Nq364, e364⟩ := hQ364
  have N369 := Fr.app N363 Nq364
  refine OEnd.of (fun t k => st364.trans k) ?_
  show OEnd p e below _ (T364.setTop (mkF m 44 #[.val (.int p0), .val (.int p1), .val (.long q2), .second, .val (.long q3), .second, .val (.ref b308), .val (.ref b328), .val (.ref b346), .unset, .unset, .unset, .unset, .unset] [(.int (0 : Int32))]))
  refine OEnd.of (fun t k => XS.ifNo X364.here hx rfl (hb hby at_44) rfl ((if0 _ _).trans (teq (by decide : ((0 : Int32) = (0 : Int32)))).2) k) ?_
  show OEnd p e below _ (T364.setTop (mkF m 47 #[.val (.int p0), .val (.int p1), .val (.long q2), .second, .val (.long q3), .second, .val (.ref b308), .val (.ref b328), .val (.ref b346), .unset, .unset, .unset, .unset, .unset] []))
  refine OEnd.of (fun t k => XS.iconst X364.here hx rfl (hb hby at_47) k) ?_
  show OEnd p e below _ (T364.setTop (mkF m 48 #[.val (.int p0), .val (.int p1), .val (.long q2), .second, .val (.long q3), .second, .val (.ref b308), .val (.ref b328), .val (.ref b346), .unset, .unset, .unset, .unset, .unset] [(.int (1 : Int32))]))
  refine OEnd.of (fun t k => XS.goto X364.here hx rfl (pc0 := 48) (pc' := 52) rfl (hb hby at_48) (by decide) (by decide) k) ?_
  show OEnd p e below _ (T364.setTop (mkF m 52 #[.val (.int p0), .val (.int p1), .val (.long q2), .second, .val (.long q3), .second, .val (.ref b308), .val (.ref b328), .val (.ref b346), .unset, .unset, .unset, .unset, .unset] [(.int (1 : Int32))]))
  refine OEnd.of (fun t k => XS.istore X364.here hx rfl (hb hby at_52) rfl (l' := #[.val (.int p0), .val (.int p1), .val (.long q2), .second, .val (.long q3), .second, .val (.ref b308), .val (.ref b328), .val (.ref b346), .val (.int (1 : Int32)), .unset, .unset, .unset, .unset]) rfl k) ?_
  show OEnd p e below _ (T364.setTop (mkF m 54 #[.val (.int p0), .val (.int p1), .val (.long q2), .second, .val (.long q3), .second, .val (.ref b308), .val (.ref b328), .val (.ref b346), .val (.int (1 : Int32)), .unset, .unset, .unset, .unset] []))
  refine OEnd.of (fun t k => XS.aload X364.here hx rfl (hb hby at_54) rfl rfl k) ?_
  show OEnd p e below _ (T364.setTop (mkF m 56 #[.val (.int p0), .val (.int p1), .val (.long q2), .second, .val (.long q3), .second, .val (.ref b308), .val (.ref b328), .val (.ref b346), .val (.int (1 : Int32)), .unset, .unset, .unset, .unset] [(.ref b308)]))
  refine OEnd.of (fun t k => XS.iloadN X364.here hx rfl (hb hby at_56) rfl k) ?_
  show OEnd p e below _ (T364.setTop (mkF m 57 #[.val (.int p0), .val (.int p1), .val (.long q2), .second, .val (.long q3), .second, .val (.ref b308), .val (.ref b328), .val (.ref b346), .val (.int (1 : Int32)), .unset, .unset, .unset, .unset] [(.int p0), (.ref b308)]))
  refine OEnd.of (fun t k => XS.lloadN X364.here hx rfl (hb hby at_57) rfl k) ?_
  show OEnd p e below _ (T364.setTop (mkF m 58 #[.val (.int p0), .val (.int p1), .val (.long q2), .second, .val (.long q3), .second, .val (.ref b308), .val (.ref b328), .val (.ref b346), .val (.int (1 : Int32)), .unset, .unset, .unset, .unset] [(.long q2), (.int p0), (.ref b308)]))
  refine OEnd.of (fun t k => XS.iloadN X364.here hx rfl (hb hby at_58) rfl k) ?_
  show OEnd p e below _ (T364.setTop (mkF m 59 #[.val (.int p0), .val (.int p1), .val (.long q2), .second, .val (.long q3), .second, .val (.ref b308), .val (.ref b328), .val (.ref b346), .val (.int (1 : Int32)), .unset, .unset, .unset, .unset] [(.int p0), (.long q2), (.int p0), (.ref b308)]))
  refine OEnd.of (fun t k => XS.bipush X364.here hx rfl (hb hby at_59) k) ?_
  show OEnd p e below _ (T364.setTop (mkF m 61 #[.val (.int p0), .val (.int p1), .val (.long q2), .second, .val (.long q3), .second, .val (.ref b308), .val (.ref b328), .val (.ref b346), .val (.int (1 : Int32)), .unset, .unset, .unset, .unset] [(.int (8 : Int32)), (.int p0), (.long q2), (.int p0), (.ref b308)]))
  refine OEnd.of (fun t k => XS.iand X364.here hx rfl (hb hby at_61) rfl k) ?_
  show OEnd p e below _ (T364.setTop (mkF m 62 #[.val (.int p0), .val (.int p1), .val (.long q2), .second, .val (.long q3), .second, .val (.ref b308), .val (.ref b328), .val (.ref b346), .val (.int (1 : Int32)), .unset, .unset, .unset, .unset] [(.int (p0 &&& (8 : Int32))), (.long q2), (.int p0), (.ref b308)]))
  have J370 : ∀ (T370 : State) (Lo370 : List Loc) (pp1 : Addr), Stand p l e room_1 s m #[(.int p0), (.int p1), (.long q2), (.long q3)] below meth c T370 Lo370 3 19 → T370.heap = h355 → Fr Z.heap.size Lo370 → OEnd p e below (GN s (Qrm0 Z p0 p1 q2 q3 h0) 16 128) (T370.setTop (mkF m 72 #[.val (.int p0), .val (.int p1), .val (.long q2), .second, .val (.long q3), .second, .val (.ref b308), .val (.ref b328), .val (.ref b346), .val (.int (1 : Int32)), .unset, .unset, .unset, .unset] [(.ref pp1), (.long q2), (.int p0), (.ref b308)])) := by
    rintro T370 Lo370 pp1 X370 e370 N370
    show OEnd p e below _ (T370.setTop (mkF m 72 #[.val (.int p0), .val (.int p1), .val (.long q2), .second, .val (.long q3), .second, .val (.ref b308), .val (.ref b328), .val (.ref b346), .val (.int (1 : Int32)), .unset, .unset, .unset, .unset] [(.ref pp1), (.long q2), (.int p0), (.ref b308)]))
    obtain ⟨_, _, ⟨T371, L371, k371, n371⟩, -, X371, ⟨Lc371, hQ371, l371, y371, z371⟩, st371⟩ := Jvm.LawKit.callS X370 hx (y := (⟨"com/example/metr/metr/DecisionGrantedPinLaw", "step", "(Lcom/example/metr/metr/Decision;IJLcom/example/metr/metr/Parts;)Z"⟩ : MethodName)) hown (mvT hZ (hw _ (List.mem_of_getElem? (i := 63) rfl))) (mvT hZ (hw _ (List.mem_of_getElem? (i := 64) rfl))) (mvT hZ (hw _ (List.mem_of_getElem? (i := 65) rfl))) (mvT hZ (hw _ (List.mem_of_getElem? (i := 66) rfl))) (by decide) (backOf (W := 0) (rm9 l Z a0 hw  [] b308 p0 q2 pp1 .null (0 : Int32) (0 : Int64) (0 : Int64) (-1 : Int64) (0 : Int64) (0 : Int64) h355 O368 (E_319.keep K366) (P_parts_320.keep K366 nin0) (P_granted_321.keep K366 nin0) (P_decided_322.keep K366 nin0) (P_tokensLeft_323.keep K366 nin0) (P_wait_324.keep K366 nin0) (P_behind_325.keep K366 nin0) (P_tokens_326.keep K366 nin0) f308 rfl) hZ (hw _ (List.mem_of_getElem? (i := 66) rfl)) (hw _ (List.mem_of_getElem? (i := 65) rfl)) (by decide) (by decide)) (g := (mkF m 72 #[.val (.int p0), .val (.int p1), .val (.long q2), .second, .val (.long q3), .second, .val (.ref b308), .val (.ref b328), .val (.ref b346), .val (.int (1 : Int32)), .unset, .unset, .unset, .unset] [(.ref pp1), (.long q2), (.int p0), (.ref b308)])) rfl (by rw [hml]; rfl) (argsL := [(.ref b308), (.int p0), (.long q2), (.ref pp1)]) (rest := []) (lenOf pd_28Lcom2fexample2fmetr2fmetr2fDecision3bIJLcom2fexample2fmetr2fmetr2fParts3b29Z rfl) rfl (by show 2 * 0 + _ ≤ _; exact Nat.le_of_eq rfl) (hb hby at_72) (fun _ _ => ⟨rfl, e370, (by decide : 3 + 0 ≤ _), (by decide : 19 + 0 ≤ _)⟩)
    dsimp only [Pt.U, Pt.locs, Pt.cells, Pt.slots] at X371 l371 y371 z371 st371 hQ371
    subst l371 y371 z371
    obtain ⟨h371, e371⟩ : ∃ z, T371.heap = z := ⟨_, rfl⟩
    rw [e371] at hQ371
    obtain ⟨ee_372, pv'_373, gv'_374, dv'_375, tl'_376, wt'_377, bh'_378, tk'_379, rfl, Nq371, Kq371, E_380, P_parts_381, P_granted_382, P_decided_383, P_tokensLeft_384, P_wait_385, P_behind_386, P_tokens_387, h_pv'_388, rel_389⟩ := hQ371
    have N390 := Fr.app N370 Nq371
    refine OEnd.of st371 ?_
    show OEnd p e below _ (T371.setTop (mkF m 75 #[.val (.int p0), .val (.int p1), .val (.long q2), .second, .val (.long q3), .second, .val (.ref b308), .val (.ref b328), .val (.ref b346), .val (.int (1 : Int32)), .unset, .unset, .unset, .unset] [(.int ee_372)]))
    refine OEnd.of (fun t k => XS.istore X371.here hx rfl (hb hby at_75) rfl (l' := #[.val (.int p0), .val (.int p1), .val (.long q2), .second, .val (.long q3), .second, .val (.ref b308), .val (.ref b328), .val (.ref b346), .val (.int (1 : Int32)), .val (.int ee_372), .unset, .unset, .unset]) rfl k) ?_
    show OEnd p e below _ (T371.setTop (mkF m 77 #[.val (.int p0), .val (.int p1), .val (.long q2), .second, .val (.long q3), .second, .val (.ref b308), .val (.ref b328), .val (.ref b346), .val (.int (1 : Int32)), .val (.int ee_372), .unset, .unset, .unset] []))
    refine OEnd.of (fun t k => XS.aload X371.here hx rfl (hb hby at_77) rfl rfl k) ?_
    show OEnd p e below _ (T371.setTop (mkF m 79 #[.val (.int p0), .val (.int p1), .val (.long q2), .second, .val (.long q3), .second, .val (.ref b308), .val (.ref b328), .val (.ref b346), .val (.int (1 : Int32)), .val (.int ee_372), .unset, .unset, .unset] [(.ref b308)]))
    have K392 : Keep h355 h371 [b308] := ((Keep.refl h355 [b308]).trans Kq371 (allS (Or.inl (List.mem_of_getElem? (i := 0) rfl)) all0))
    have O393 : Ext Z.heap h371 := own_extKeep O368 K392 (allS f308 all0)
    obtain ⟨cq391, kq391, q391a, q391b, q391c⟩ := isOf hZ e371 E_380
    obtain ⟨_, _, ⟨T391, L391, k391, n391⟩, -, X391, ⟨Lc391, hQ391, l391, y391, z391⟩, st391⟩ := X371.virtualBack hx (y := (⟨"com/example/metr/metr/Decision", "granted", "()Z"⟩ : MethodName)) (z := (⟨"com/example/metr/metr/Decision", "granted", "()Z"⟩ : MethodName)) hown (mvT hZ (hw _ (List.mem_of_getElem? (i := 54) rfl))) (mvT hZ (hw _ (List.mem_of_getElem? (i := 55) rfl))) (notFace_of_selects (args := #[]) (mvT hZ (hw _ (List.mem_of_getElem? (i := 57) rfl)))) (mvT hZ (hw _ (List.mem_of_getElem? (i := 57) rfl))) (mvT hZ (hw _ (List.mem_of_getElem? (i := 56) rfl))) (by decide) (backOf (W := 0) (rm8 l Z a0 hw  [] b308 pv'_373 gv'_374 dv'_375 ee_372 h371 O393 P_parts_381 P_granted_382 P_decided_383 h_pv'_388 rel_389) hZ (hw _ (List.mem_of_getElem? (i := 58) rfl)) (hw _ (List.mem_of_getElem? (i := 2) rfl)) (by decide) (by decide)) q391a q391c (g := (mkF m 79 #[.val (.int p0), .val (.int p1), .val (.long q2), .second, .val (.long q3), .second, .val (.ref b308), .val (.ref b328), .val (.ref b346), .val (.int (1 : Int32)), .val (.int ee_372), .unset, .unset, .unset] [(.ref b308)])) rfl (by rw [hml]; rfl) (Steps.refl _) (argsL := []) (rest := []) (lenOf pd_2829Z rfl) rfl (by show 2 * 0 + _ ≤ _; exact Nat.le_of_eq rfl) (hb hby at_79) (fun _ _ => ⟨rfl, e371, (by decide : 3 + 0 ≤ _), (by decide : 19 + 0 ≤ _)⟩)
    dsimp only [Pt.U, Pt.locs, Pt.cells, Pt.slots] at X391 l391 y391 z391 st391 hQ391
    subst l391 y391 z391
    obtain ⟨rfl, Nq391, e391⟩ := hQ391
    have N394 := Fr.app N390 Nq391
    refine OEnd.of (fun t k => st391.trans k) ?_
    show OEnd p e below _ (T391.setTop (mkF m 82 #[.val (.int p0), .val (.int p1), .val (.long q2), .second, .val (.long q3), .second, .val (.ref b308), .val (.ref b328), .val (.ref b346), .val (.int (1 : Int32)), .val (.int ee_372), .unset, .unset, .unset] [(.int ee_372)]))
    refine OEnd.of (fun t k => XS.iload X391.here hx rfl (hb hby at_82) rfl k) ?_
    show OEnd p e below _ (T391.setTop (mkF m 84 #[.val (.int p0), .val (.int p1), .val (.long q2), .second, .val (.long q3), .second, .val (.ref b308), .val (.ref b328), .val (.ref b346), .val (.int (1 : Int32)), .val (.int ee_372), .unset, .unset, .unset] [(.int ee_372), (.int ee_372)]))
    refine OEnd.of (fun t k => XS.icmpNo X391.here hx rfl (hb hby at_84) rfl (teq rfl).2 k) ?_
    show OEnd p e below _ (T391.setTop (mkF m 87 #[.val (.int p0), .val (.int p1), .val (.long q2), .second, .val (.long q3), .second, .val (.ref b308), .val (.ref b328), .val (.ref b346), .val (.int (1 : Int32)), .val (.int ee_372), .unset, .unset, .unset] []))
    refine OEnd.of (fun t k => XS.iconst X391.here hx rfl (hb hby at_87) k) ?_
    show OEnd p e below _ (T391.setTop (mkF m 88 #[.val (.int p0), .val (.int p1), .val (.long q2), .second, .val (.long q3), .second, .val (.ref b308), .val (.ref b328), .val (.ref b346), .val (.int (1 : Int32)), .val (.int ee_372), .unset, .unset, .unset] [(.int (1 : Int32))]))
    refine OEnd.of (fun t k => XS.goto X391.here hx rfl (pc0 := 88) (pc' := 92) rfl (hb hby at_88) (by decide) (by decide) k) ?_
    show OEnd p e below _ (T391.setTop (mkF m 92 #[.val (.int p0), .val (.int p1), .val (.long q2), .second, .val (.long q3), .second, .val (.ref b308), .val (.ref b328), .val (.ref b346), .val (.int (1 : Int32)), .val (.int ee_372), .unset, .unset, .unset] [(.int (1 : Int32))]))
    refine OEnd.of (fun t k => XS.istore X391.here hx rfl (hb hby at_92) rfl (l' := #[.val (.int p0), .val (.int p1), .val (.long q2), .second, .val (.long q3), .second, .val (.ref b308), .val (.ref b328), .val (.ref b346), .val (.int (1 : Int32)), .val (.int ee_372), .val (.int (1 : Int32)), .unset, .unset]) rfl k) ?_
    show OEnd p e below _ (T391.setTop (mkF m 94 #[.val (.int p0), .val (.int p1), .val (.long q2), .second, .val (.long q3), .second, .val (.ref b308), .val (.ref b328), .val (.ref b346), .val (.int (1 : Int32)), .val (.int ee_372), .val (.int (1 : Int32)), .unset, .unset] []))
    refine OEnd.of (fun t k => XS.aload X391.here hx rfl (hb hby at_94) rfl rfl k) ?_
    show OEnd p e below _ (T391.setTop (mkF m 96 #[.val (.int p0), .val (.int p1), .val (.long q2), .second, .val (.long q3), .second, .val (.ref b308), .val (.ref b328), .val (.ref b346), .val (.int (1 : Int32)), .val (.int ee_372), .val (.int (1 : Int32)), .unset, .unset] [(.ref b308)]))
    refine OEnd.of (fun t k => XS.iloadN X391.here hx rfl (hb hby at_96) rfl k) ?_
    show OEnd p e below _ (T391.setTop (mkF m 97 #[.val (.int p0), .val (.int p1), .val (.long q2), .second, .val (.long q3), .second, .val (.ref b308), .val (.ref b328), .val (.ref b346), .val (.int (1 : Int32)), .val (.int ee_372), .val (.int (1 : Int32)), .unset, .unset] [(.int p1), (.ref b308)]))
    refine OEnd.of (fun t k => XS.lload X391.here hx rfl (hb hby at_97) rfl k) ?_
    show OEnd p e below _ (T391.setTop (mkF m 99 #[.val (.int p0), .val (.int p1), .val (.long q2), .second, .val (.long q3), .second, .val (.ref b308), .val (.ref b328), .val (.ref b346), .val (.int (1 : Int32)), .val (.int ee_372), .val (.int (1 : Int32)), .unset, .unset] [(.long q3), (.int p1), (.ref b308)]))
    refine OEnd.of (fun t k => XS.iloadN X391.here hx rfl (hb hby at_99) rfl k) ?_
    show OEnd p e below _ (T391.setTop (mkF m 100 #[.val (.int p0), .val (.int p1), .val (.long q2), .second, .val (.long q3), .second, .val (.ref b308), .val (.ref b328), .val (.ref b346), .val (.int (1 : Int32)), .val (.int ee_372), .val (.int (1 : Int32)), .unset, .unset] [(.int p1), (.long q3), (.int p1), (.ref b308)]))
    refine OEnd.of (fun t k => XS.bipush X391.here hx rfl (hb hby at_100) k) ?_
    show OEnd p e below _ (T391.setTop (mkF m 102 #[.val (.int p0), .val (.int p1), .val (.long q2), .second, .val (.long q3), .second, .val (.ref b308), .val (.ref b328), .val (.ref b346), .val (.int (1 : Int32)), .val (.int ee_372), .val (.int (1 : Int32)), .unset, .unset] [(.int (8 : Int32)), (.int p1), (.long q3), (.int p1), (.ref b308)]))
    refine OEnd.of (fun t k => XS.iand X391.here hx rfl (hb hby at_102) rfl k) ?_
    show OEnd p e below _ (T391.setTop (mkF m 103 #[.val (.int p0), .val (.int p1), .val (.long q2), .second, .val (.long q3), .second, .val (.ref b308), .val (.ref b328), .val (.ref b346), .val (.int (1 : Int32)), .val (.int ee_372), .val (.int (1 : Int32)), .unset, .unset] [(.int (p1 &&& (8 : Int32))), (.long q3), (.int p1), (.ref b308)]))
    have J395 : ∀ (T395 : State) (Lo395 : List Loc) (pp2 : Addr), Stand p l e room_1 s m #[(.int p0), (.int p1), (.long q2), (.long q3)] below meth c T395 Lo395 3 19 → T395.heap = h371 → Fr Z.heap.size Lo395 → OEnd p e below (GN s (Qrm0 Z p0 p1 q2 q3 h0) 16 128) (T395.setTop (mkF m 113 #[.val (.int p0), .val (.int p1), .val (.long q2), .second, .val (.long q3), .second, .val (.ref b308), .val (.ref b328), .val (.ref b346), .val (.int (1 : Int32)), .val (.int ee_372), .val (.int (1 : Int32)), .unset, .unset] [(.ref pp2), (.long q3), (.int p1), (.ref b308)])) := by
      rintro T395 Lo395 pp2 X395 e395 N395
      show OEnd p e below _ (T395.setTop (mkF m 113 #[.val (.int p0), .val (.int p1), .val (.long q2), .second, .val (.long q3), .second, .val (.ref b308), .val (.ref b328), .val (.ref b346), .val (.int (1 : Int32)), .val (.int ee_372), .val (.int (1 : Int32)), .unset, .unset] [(.ref pp2), (.long q3), (.int p1), (.ref b308)]))
      obtain ⟨_, _, ⟨T396, L396, k396, n396⟩, -, X396, ⟨Lc396, hQ396, l396, y396, z396⟩, st396⟩ := Jvm.LawKit.callS X395 hx (y := (⟨"com/example/metr/metr/DecisionGrantedPinLaw", "step", "(Lcom/example/metr/metr/Decision;IJLcom/example/metr/metr/Parts;)Z"⟩ : MethodName)) hown (mvT hZ (hw _ (List.mem_of_getElem? (i := 63) rfl))) (mvT hZ (hw _ (List.mem_of_getElem? (i := 64) rfl))) (mvT hZ (hw _ (List.mem_of_getElem? (i := 65) rfl))) (mvT hZ (hw _ (List.mem_of_getElem? (i := 66) rfl))) (by decide) (backOf (W := 0) (rm9 l Z a0 hw  [] b308 p1 q3 pp2 pv'_373 gv'_374 dv'_375 tl'_376 wt'_377 bh'_378 tk'_379 h371 O393 E_380 P_parts_381 P_granted_382 P_decided_383 P_tokensLeft_384 P_wait_385 P_behind_386 P_tokens_387 f308 h_pv'_388) hZ (hw _ (List.mem_of_getElem? (i := 66) rfl)) (hw _ (List.mem_of_getElem? (i := 65) rfl)) (by decide) (by decide)) (g := (mkF m 113 #[.val (.int p0), .val (.int p1), .val (.long q2), .second, .val (.long q3), .second, .val (.ref b308), .val (.ref b328), .val (.ref b346), .val (.int (1 : Int32)), .val (.int ee_372), .val (.int (1 : Int32)), .unset, .unset] [(.ref pp2), (.long q3), (.int p1), (.ref b308)])) rfl (by rw [hml]; rfl) (argsL := [(.ref b308), (.int p1), (.long q3), (.ref pp2)]) (rest := []) (lenOf pd_28Lcom2fexample2fmetr2fmetr2fDecision3bIJLcom2fexample2fmetr2fmetr2fParts3b29Z rfl) rfl (by show 2 * 0 + _ ≤ _; exact Nat.le_of_eq rfl) (hb hby at_113) (fun _ _ => ⟨rfl, e395, (by decide : 3 + 0 ≤ _), (by decide : 19 + 0 ≤ _)⟩)
      dsimp only [Pt.U, Pt.locs, Pt.cells, Pt.slots] at X396 l396 y396 z396 st396 hQ396
      subst l396 y396 z396
      obtain ⟨h396, e396⟩ : ∃ z, T396.heap = z := ⟨_, rfl⟩
      rw [e396] at hQ396
      obtain ⟨ee_397, pv'_398, gv'_399, dv'_400, tl'_401, wt'_402, bh'_403, tk'_404, rfl, Nq396, Kq396, E_405, P_parts_406, P_granted_407, P_decided_408, P_tokensLeft_409, P_wait_410, P_behind_411, P_tokens_412, h_pv'_413, rel_414⟩ := hQ396
      have N415 := Fr.app N395 Nq396
      refine OEnd.of st396 ?_
      show OEnd p e below _ (T396.setTop (mkF m 116 #[.val (.int p0), .val (.int p1), .val (.long q2), .second, .val (.long q3), .second, .val (.ref b308), .val (.ref b328), .val (.ref b346), .val (.int (1 : Int32)), .val (.int ee_372), .val (.int (1 : Int32)), .unset, .unset] [(.int ee_397)]))
      refine OEnd.of (fun t k => XS.istore X396.here hx rfl (hb hby at_116) rfl (l' := #[.val (.int p0), .val (.int p1), .val (.long q2), .second, .val (.long q3), .second, .val (.ref b308), .val (.ref b328), .val (.ref b346), .val (.int (1 : Int32)), .val (.int ee_372), .val (.int (1 : Int32)), .val (.int ee_397), .unset]) rfl k) ?_
      show OEnd p e below _ (T396.setTop (mkF m 118 #[.val (.int p0), .val (.int p1), .val (.long q2), .second, .val (.long q3), .second, .val (.ref b308), .val (.ref b328), .val (.ref b346), .val (.int (1 : Int32)), .val (.int ee_372), .val (.int (1 : Int32)), .val (.int ee_397), .unset] []))
      refine OEnd.of (fun t k => XS.aload X396.here hx rfl (hb hby at_118) rfl rfl k) ?_
      show OEnd p e below _ (T396.setTop (mkF m 120 #[.val (.int p0), .val (.int p1), .val (.long q2), .second, .val (.long q3), .second, .val (.ref b308), .val (.ref b328), .val (.ref b346), .val (.int (1 : Int32)), .val (.int ee_372), .val (.int (1 : Int32)), .val (.int ee_397), .unset] [(.ref b308)]))
      have K417 : Keep h371 h396 [b308] := ((Keep.refl h371 [b308]).trans Kq396 (allS (Or.inl (List.mem_of_getElem? (i := 0) rfl)) all0))
      have O418 : Ext Z.heap h396 := own_extKeep O393 K417 (allS f308 all0)
      obtain ⟨cq416, kq416, q416a, q416b, q416c⟩ := isOf hZ e396 E_405
      obtain ⟨_, _, ⟨T416, L416, k416, n416⟩, -, X416, ⟨Lc416, hQ416, l416, y416, z416⟩, st416⟩ := X396.virtualBack hx (y := (⟨"com/example/metr/metr/Decision", "granted", "()Z"⟩ : MethodName)) (z := (⟨"com/example/metr/metr/Decision", "granted", "()Z"⟩ : MethodName)) hown (mvT hZ (hw _ (List.mem_of_getElem? (i := 54) rfl))) (mvT hZ (hw _ (List.mem_of_getElem? (i := 55) rfl))) (notFace_of_selects (args := #[]) (mvT hZ (hw _ (List.mem_of_getElem? (i := 57) rfl)))) (mvT hZ (hw _ (List.mem_of_getElem? (i := 57) rfl))) (mvT hZ (hw _ (List.mem_of_getElem? (i := 56) rfl))) (by decide) (backOf (W := 0) (rm8 l Z a0 hw  [] b308 pv'_398 gv'_399 dv'_400 ee_397 h396 O418 P_parts_406 P_granted_407 P_decided_408 h_pv'_413 rel_414) hZ (hw _ (List.mem_of_getElem? (i := 58) rfl)) (hw _ (List.mem_of_getElem? (i := 2) rfl)) (by decide) (by decide)) q416a q416c (g := (mkF m 120 #[.val (.int p0), .val (.int p1), .val (.long q2), .second, .val (.long q3), .second, .val (.ref b308), .val (.ref b328), .val (.ref b346), .val (.int (1 : Int32)), .val (.int ee_372), .val (.int (1 : Int32)), .val (.int ee_397), .unset] [(.ref b308)])) rfl (by rw [hml]; rfl) (Steps.refl _) (argsL := []) (rest := []) (lenOf pd_2829Z rfl) rfl (by show 2 * 0 + _ ≤ _; exact Nat.le_of_eq rfl) (hb hby at_120) (fun _ _ => ⟨rfl, e396, (by decide : 3 + 0 ≤ _), (by decide : 19 + 0 ≤ _)⟩)
      dsimp only [Pt.U, Pt.locs, Pt.cells, Pt.slots] at X416 l416 y416 z416 st416 hQ416
      subst l416 y416 z416
      obtain ⟨rfl, Nq416, e416⟩ := hQ416
      have N419 := Fr.app N415 Nq416
      refine OEnd.of (fun t k => st416.trans k) ?_
      show OEnd p e below _ (T416.setTop (mkF m 123 #[.val (.int p0), .val (.int p1), .val (.long q2), .second, .val (.long q3), .second, .val (.ref b308), .val (.ref b328), .val (.ref b346), .val (.int (1 : Int32)), .val (.int ee_372), .val (.int (1 : Int32)), .val (.int ee_397), .unset] [(.int ee_397)]))
      refine OEnd.of (fun t k => XS.iload X416.here hx rfl (hb hby at_123) rfl k) ?_
      show OEnd p e below _ (T416.setTop (mkF m 125 #[.val (.int p0), .val (.int p1), .val (.long q2), .second, .val (.long q3), .second, .val (.ref b308), .val (.ref b328), .val (.ref b346), .val (.int (1 : Int32)), .val (.int ee_372), .val (.int (1 : Int32)), .val (.int ee_397), .unset] [(.int ee_397), (.int ee_397)]))
      refine OEnd.of (fun t k => XS.icmpNo X416.here hx rfl (hb hby at_125) rfl (teq rfl).2 k) ?_
      show OEnd p e below _ (T416.setTop (mkF m 128 #[.val (.int p0), .val (.int p1), .val (.long q2), .second, .val (.long q3), .second, .val (.ref b308), .val (.ref b328), .val (.ref b346), .val (.int (1 : Int32)), .val (.int ee_372), .val (.int (1 : Int32)), .val (.int ee_397), .unset] []))
      refine OEnd.of (fun t k => XS.iconst X416.here hx rfl (hb hby at_128) k) ?_
      show OEnd p e below _ (T416.setTop (mkF m 129 #[.val (.int p0), .val (.int p1), .val (.long q2), .second, .val (.long q3), .second, .val (.ref b308), .val (.ref b328), .val (.ref b346), .val (.int (1 : Int32)), .val (.int ee_372), .val (.int (1 : Int32)), .val (.int ee_397), .unset] [(.int (1 : Int32))]))
      refine OEnd.of (fun t k => XS.goto X416.here hx rfl (pc0 := 129) (pc' := 133) rfl (hb hby at_129) (by decide) (by decide) k) ?_
      show OEnd p e below _ (T416.setTop (mkF m 133 #[.val (.int p0), .val (.int p1), .val (.long q2), .second, .val (.long q3), .second, .val (.ref b308), .val (.ref b328), .val (.ref b346), .val (.int (1 : Int32)), .val (.int ee_372), .val (.int (1 : Int32)), .val (.int ee_397), .unset] [(.int (1 : Int32))]))
      refine OEnd.of (fun t k => XS.istore X416.here hx rfl (hb hby at_133) rfl (l' := #[.val (.int p0), .val (.int p1), .val (.long q2), .second, .val (.long q3), .second, .val (.ref b308), .val (.ref b328), .val (.ref b346), .val (.int (1 : Int32)), .val (.int ee_372), .val (.int (1 : Int32)), .val (.int ee_397), .val (.int (1 : Int32))]) rfl k) ?_
      show OEnd p e below _ (T416.setTop (mkF m 135 #[.val (.int p0), .val (.int p1), .val (.long q2), .second, .val (.long q3), .second, .val (.ref b308), .val (.ref b328), .val (.ref b346), .val (.int (1 : Int32)), .val (.int ee_372), .val (.int (1 : Int32)), .val (.int ee_397), .val (.int (1 : Int32))] []))
      refine OEnd.of (fun t k => XS.iload X416.here hx rfl (hb hby at_135) rfl k) ?_
      show OEnd p e below _ (T416.setTop (mkF m 137 #[.val (.int p0), .val (.int p1), .val (.long q2), .second, .val (.long q3), .second, .val (.ref b308), .val (.ref b328), .val (.ref b346), .val (.int (1 : Int32)), .val (.int ee_372), .val (.int (1 : Int32)), .val (.int ee_397), .val (.int (1 : Int32))] [(.int (1 : Int32))]))
      refine OEnd.of (fun t k => XS.ifNo X416.here hx rfl (hb hby at_137) rfl ((if0 _ _).trans (feq (by decide : ¬ ((1 : Int32) = (0 : Int32)))).1) k) ?_
      show OEnd p e below _ (T416.setTop (mkF m 140 #[.val (.int p0), .val (.int p1), .val (.long q2), .second, .val (.long q3), .second, .val (.ref b308), .val (.ref b328), .val (.ref b346), .val (.int (1 : Int32)), .val (.int ee_372), .val (.int (1 : Int32)), .val (.int ee_397), .val (.int (1 : Int32))] []))
      refine OEnd.of (fun t k => XS.iload X416.here hx rfl (hb hby at_140) rfl k) ?_
      show OEnd p e below _ (T416.setTop (mkF m 142 #[.val (.int p0), .val (.int p1), .val (.long q2), .second, .val (.long q3), .second, .val (.ref b308), .val (.ref b328), .val (.ref b346), .val (.int (1 : Int32)), .val (.int ee_372), .val (.int (1 : Int32)), .val (.int ee_397), .val (.int (1 : Int32))] [(.int (1 : Int32))]))
      refine OEnd.of (fun t k => XS.ifNo X416.here hx rfl (hb hby at_142) rfl ((if0 _ _).trans (feq (by decide : ¬ ((1 : Int32) = (0 : Int32)))).1) k) ?_
      show OEnd p e below _ (T416.setTop (mkF m 145 #[.val (.int p0), .val (.int p1), .val (.long q2), .second, .val (.long q3), .second, .val (.ref b308), .val (.ref b328), .val (.ref b346), .val (.int (1 : Int32)), .val (.int ee_372), .val (.int (1 : Int32)), .val (.int ee_397), .val (.int (1 : Int32))] []))
      refine OEnd.of (fun t k => XS.iload X416.here hx rfl (hb hby at_145) rfl k) ?_
      show OEnd p e below _ (T416.setTop (mkF m 147 #[.val (.int p0), .val (.int p1), .val (.long q2), .second, .val (.long q3), .second, .val (.ref b308), .val (.ref b328), .val (.ref b346), .val (.int (1 : Int32)), .val (.int ee_372), .val (.int (1 : Int32)), .val (.int ee_397), .val (.int (1 : Int32))] [(.int (1 : Int32))]))
      refine OEnd.of (fun t k => XS.ifNo X416.here hx rfl (hb hby at_147) rfl ((if0 _ _).trans (feq (by decide : ¬ ((1 : Int32) = (0 : Int32)))).1) k) ?_
      show OEnd p e below _ (T416.setTop (mkF m 150 #[.val (.int p0), .val (.int p1), .val (.long q2), .second, .val (.long q3), .second, .val (.ref b308), .val (.ref b328), .val (.ref b346), .val (.int (1 : Int32)), .val (.int ee_372), .val (.int (1 : Int32)), .val (.int ee_397), .val (.int (1 : Int32))] []))
      refine OEnd.of (fun t k => XS.iconst X416.here hx rfl (hb hby at_150) k) ?_
      show OEnd p e below _ (T416.setTop (mkF m 151 #[.val (.int p0), .val (.int p1), .val (.long q2), .second, .val (.long q3), .second, .val (.ref b308), .val (.ref b328), .val (.ref b346), .val (.int (1 : Int32)), .val (.int ee_372), .val (.int (1 : Int32)), .val (.int ee_397), .val (.int (1 : Int32))] [(.int (1 : Int32))]))
      refine OEnd.of (fun t k => XS.goto X416.here hx rfl (pc0 := 151) (pc' := 155) rfl (hb hby at_151) (by decide) (by decide) k) ?_
      show OEnd p e below _ (T416.setTop (mkF m 155 #[.val (.int p0), .val (.int p1), .val (.long q2), .second, .val (.long q3), .second, .val (.ref b308), .val (.ref b328), .val (.ref b346), .val (.int (1 : Int32)), .val (.int ee_372), .val (.int (1 : Int32)), .val (.int ee_397), .val (.int (1 : Int32))] [(.int (1 : Int32))]))
      have K420 : Keep h0 h316 [] := (K317.trans Kq316 (allS (Or.inr (Nat.le_of_eq g308.symm)) all0))
      have K421 : Keep h0 h337 [] := ((K420.ext E328).trans Kq337 (allS (Or.inr (Nat.le_trans K420.1 (Nat.le_of_eq g328.symm))) all0))
      have K422 : Keep h0 h396 [] := (((((((K317.trans Kq316 (allS (Or.inr (Nat.le_of_eq g308.symm)) all0)).ext E328).trans Kq337 (allS (Or.inr (Nat.le_trans K420.1 (Nat.le_of_eq g328.symm))) all0)).ext E346).trans Kq355 (allS (Or.inr (Nat.le_trans K421.1 (Nat.le_of_eq g346.symm))) all0)).trans Kq371 (allS (Or.inr (Nat.le_of_eq g308.symm)) all0)).trans Kq396 (allS (Or.inr (Nat.le_of_eq g308.symm)) all0))
      exact OEnd.retN X416 hx hlk e416 (t := .boolean) hret (by simp) (hb hby at_155) ⟨rfl, N419, K422⟩ (by decide) (by decide)
    by_cases hc423 : (p1 &&& (8 : Int32)) = (0 : Int32)
    · refine OEnd.of (fun t k => XS.ifYes X391.here hx rfl (pc0 := 103) (pc' := 111) rfl (hb hby at_103) rfl ((if0 _ _).trans (teq hc423).1) (by decide) (by decide) k) ?_
      show OEnd p e below _ (T391.setTop (mkF m 111 #[.val (.int p0), .val (.int p1), .val (.long q2), .second, .val (.long q3), .second, .val (.ref b308), .val (.ref b328), .val (.ref b346), .val (.int (1 : Int32)), .val (.int ee_372), .val (.int (1 : Int32)), .unset, .unset] [(.long q3), (.int p1), (.ref b308)]))
      refine OEnd.of (fun t k => XS.aload X391.here hx rfl (hb hby at_111) rfl rfl k) ?_
      show OEnd p e below _ (T391.setTop (mkF m 113 #[.val (.int p0), .val (.int p1), .val (.long q2), .second, .val (.long q3), .second, .val (.ref b308), .val (.ref b328), .val (.ref b346), .val (.int (1 : Int32)), .val (.int ee_372), .val (.int (1 : Int32)), .unset, .unset] [(.ref b328), (.long q3), (.int p1), (.ref b308)]))
      exact J395 T391 _ b328 X391 e391 N394
    · refine OEnd.of (fun t k => XS.ifNo X391.here hx rfl (hb hby at_103) rfl ((if0 _ _).trans (feq hc423).1) k) ?_
      show OEnd p e below _ (T391.setTop (mkF m 106 #[.val (.int p0), .val (.int p1), .val (.long q2), .second, .val (.long q3), .second, .val (.ref b308), .val (.ref b328), .val (.ref b346), .val (.int (1 : Int32)), .val (.int ee_372), .val (.int (1 : Int32)), .unset, .unset] [(.long q3), (.int p1), (.ref b308)]))
      refine OEnd.of (fun t k => XS.aload X391.here hx rfl (hb hby at_106) rfl rfl k) ?_
      show OEnd p e below _ (T391.setTop (mkF m 108 #[.val (.int p0), .val (.int p1), .val (.long q2), .second, .val (.long q3), .second, .val (.ref b308), .val (.ref b328), .val (.ref b346), .val (.int (1 : Int32)), .val (.int ee_372), .val (.int (1 : Int32)), .unset, .unset] [(.ref b346), (.long q3), (.int p1), (.ref b308)]))
      refine OEnd.of (fun t k => XS.goto X391.here hx rfl (pc0 := 108) (pc' := 113) rfl (hb hby at_108) (by decide) (by decide) k) ?_
      show OEnd p e below _ (T391.setTop (mkF m 113 #[.val (.int p0), .val (.int p1), .val (.long q2), .second, .val (.long q3), .second, .val (.ref b308), .val (.ref b328), .val (.ref b346), .val (.int (1 : Int32)), .val (.int ee_372), .val (.int (1 : Int32)), .unset, .unset] [(.ref b346), (.long q3), (.int p1), (.ref b308)]))
      exact J395 T391 _ b346 X391 e391 N394
  by_cases hc424 : (p0 &&& (8 : Int32)) = (0 : Int32)
  · refine OEnd.of (fun t k => XS.ifYes X364.here hx rfl (pc0 := 62) (pc' := 70) rfl (hb hby at_62) rfl ((if0 _ _).trans (teq hc424).1) (by decide) (by decide) k) ?_
    show OEnd p e below _ (T364.setTop (mkF m 70 #[.val (.int p0), .val (.int p1), .val (.long q2), .second, .val (.long q3), .second, .val (.ref b308), .val (.ref b328), .val (.ref b346), .val (.int (1 : Int32)), .unset, .unset, .unset, .unset] [(.long q2), (.int p0), (.ref b308)]))
    refine OEnd.of (fun t k => XS.aload X364.here hx rfl (hb hby at_70) rfl rfl k) ?_
    show OEnd p e below _ (T364.setTop (mkF m 72 #[.val (.int p0), .val (.int p1), .val (.long q2), .second, .val (.long q3), .second, .val (.ref b308), .val (.ref b328), .val (.ref b346), .val (.int (1 : Int32)), .unset, .unset, .unset, .unset] [(.ref b328), (.long q2), (.int p0), (.ref b308)]))
    exact J370 T364 _ b328 X364 e364 N369
  · refine OEnd.of (fun t k => XS.ifNo X364.here hx rfl (hb hby at_62) rfl ((if0 _ _).trans (feq hc424).1) k) ?_
    show OEnd p e below _ (T364.setTop (mkF m 65 #[.val (.int p0), .val (.int p1), .val (.long q2), .second, .val (.long q3), .second, .val (.ref b308), .val (.ref b328), .val (.ref b346), .val (.int (1 : Int32)), .unset, .unset, .unset, .unset] [(.long q2), (.int p0), (.ref b308)]))
    refine OEnd.of (fun t k => XS.aload X364.here hx rfl (hb hby at_65) rfl rfl k) ?_
    show OEnd p e below _ (T364.setTop (mkF m 67 #[.val (.int p0), .val (.int p1), .val (.long q2), .second, .val (.long q3), .second, .val (.ref b308), .val (.ref b328), .val (.ref b346), .val (.int (1 : Int32)), .unset, .unset, .unset, .unset] [(.ref b346), (.long q2), (.int p0), (.ref b308)]))
    refine OEnd.of (fun t k => XS.goto X364.here hx rfl (pc0 := 67) (pc' := 72) rfl (hb hby at_67) (by decide) (by decide) k) ?_
    show OEnd p e below _ (T364.setTop (mkF m 72 #[.val (.int p0), .val (.int p1), .val (.long q2), .second, .val (.long q3), .second, .val (.ref b308), .val (.ref b328), .val (.ref b346), .val (.int (1 : Int32)), .unset, .unset, .unset, .unset] [(.ref b346), (.long q2), (.int p0), (.ref b308)]))
    exact J370 T364 _ b346 X364 e364 N369
set_option maxRecDepth 65536 in
set_option maxHeartbeats 40000000 in
theorem comes_1 {Post : Tables → Env → Array Value → State → Outcome → State → Prop} (hpost : ∀ tb e args s v u, (limb_1_1.after args s (.returned v) u = true ∧ limb_1_2.after args s (.returned v) u = true ∧ True) → FrameEnd s (.returned v) u (Jvm.fieldLocs frame_1_writes args s ++ Jvm.arrayLocs frame_1_arrays args s ++ Jvm.staticLocs frame_1_statics s) 16 128 → Post tb e args s (.returned v) u) :
    ArmFor flags0 classFile x code maxLocals ret World_1 tables_1 room_1 Calls_1 rest_1 Pre_1 Post := by
  intro l hfl _ _ p e ha hc hk s m args below hf hA hF happ hP
  obtain ⟨hcalls, hrest, hpre⟩ := hP
  obtain ⟨-, -, -, hnamed, -, -, -, hat⟩ := (Spec.applies_iff hf).mp happ
  obtain ⟨hg, hn⟩ := and_e (Cond.before_iff.mp (show (Jvm.Cond.and given_1 narrow_1).before args s = true from hpre))
  obtain ⟨hcnt, hg0⟩ := and_e hg
  obtain ⟨ga0, hg1⟩ := and_e hg0
  obtain ⟨ga1, hg2⟩ := and_e hg1
  obtain ⟨ga2, hg3⟩ := and_e hg2
  have ga3 := hg3
  obtain ⟨w0, w1, w2, w3, rfl⟩ : ∃ w0 w1 w2 w3 : Value, args = #[w0, w1, w2, w3] := by
    have hs : args.size = 4 := by simpa [Cond.value, given_1] using hcnt
    obtain ⟨L⟩ := args
    match L, hs with
    | [w0, w1, w2, w3], _ => exact ⟨w0, w1, w2, w3, rfl⟩
  have hw := fun d (hd : d ∈ tables_1) => atoms_spec (ws := Jvm.Cond.code x code maxLocals ret :: tables_1) hat d (List.mem_cons_of_mem _ hd)
  have hfit : Fit s := fun {y c} hc i hi => by
    obtain ⟨ha, rfl⟩ := Array.getElem?_eq_some_iff.mp hc
    have q := List.all_eq_true.mp ((Array.all_eq_true_iff_forall_mem.mp hF) _ (Array.getElem_mem ha)) i (List.mem_range.mpr hi)
    simpa [Array.getElem?_eq_getElem hi] using q
  obtain ⟨i0, ei0⟩ := is_v ga0
  obtain rfl : w0 = (.int i0) := Option.some.inj ei0
  obtain ⟨i1, ei1⟩ := is_v ga1
  obtain rfl : w1 = (.int i1) := Option.some.inj ei1
  obtain ⟨i2, ei2⟩ := isL_v ga2
  obtain rfl : w2 = (.long i2) := Option.some.inj ei2
  obtain ⟨i3, ei3⟩ := isL_v ga3
  obtain rfl : w3 = (.long i3) := Option.some.inj ei3
  obtain ⟨n, o, h1, h2, h3, _, L, rfl, ⟨rfl, N, -⟩, hq⟩ := rm0 l s _ hw  tables_1 i0 i1 i2 i3  s.heap ⟨Nat.le_refl _, fun _ _ q => q⟩  p e ha hc hk s m _ below hf ((Spec.applies_iff_loose hf).mp happ).1 ⟨rfl, State.Warmed39.refl s, rfl⟩ trivial
  refine ⟨n, _, h1, h2, h3, hpost _ _ _ _ _ _ ⟨Cond.after_iff.mpr rfl, Cond.after_iff.mpr (eq_i res_at (Term.int_eval (1)) rfl), trivial⟩ ⟨hq.1, hq.2.1, (hq.2.2.sift fun y hy => Or.inr (N y hy)).mono (by decide) (by decide)⟩⟩
theorem main_1_1 : Claimed_1_1 := comes_1 fun _ _ _ _ _ _ h hF => ⟨h.1, hF⟩
theorem main_1_2 : Claimed_1_2 := comes_1 fun _ _ _ _ _ _ h hF => ⟨h.2.1, hF⟩
end Jvm.Pilot.@@N@@
namespace Jvm.Pilot.@@N@@
open Jvm Jvm.ClassFile Sem Op Lib Jvm.Free Jvm.Stand Jvm.Pilot.@@N@@.Jvm.D
/-! MADE BY PROGRAM (witnessworld.py) out of the Statement's table words and the real class files: 17 classes; the members and pool entries that the words name. The judged class is class 1, her method 2. -/
namespace start1
open Jvm.ClassFile
def u (s : String) : CpInfo := .utf8 (stringToUtf16 s)
/-- a pool by its gaps: so many unusable entries, then the entry; so many at the end -/
def gap : Nat → List CpInfo → List CpInfo
  | 0, r => r
  | n + 1, r => .unusable :: gap n r
def poolList (es : List (Nat × CpInfo)) (last : Nat) : List CpInfo := es.foldr (fun e r => gap e.1 (e.2 :: r)) (gap last [])
def pool (es : List (Nat × CpInfo)) (last : Nat) : Array CpInfo := ⟨poolList es last⟩
def fileOf (pool : Array CpInfo) (this : Nat) (attrs : Array Attribute := #[]) (ms : Array MethodInfo := #[]) (fl : Nat := 33) (sup : Nat := 0) (ifs : Array Nat := #[]) (fds : Array FieldInfo := #[]) : ClassFile where
  minorVersion := 0
  majorVersion := 65
  constantPool := pool
  accessFlags := fl
  thisClass := this
  superClass := sup
  interfaces := ifs
  fields := fds
  methods := ms
  attributes := attrs
def plain (name : String) (sup : Option ClassId) : Class where
  name := name
  kind := .ordinary
  loader := none
  accessFlags := 33
  super := sup
  interfaces := #[]
  cf := none
  fields := #[]
  methods := #[]
  instanceTypes := #[]
  staticTypes := #[]
  resolved := #[]
  callSites := []
  init := .initialized
  statics := none
  mirror := none

def pool0 : Array CpInfo := pool [(5, u "<init>"), (0, u "()V"), (1, .class_ 10), (1, u "java/lang/Object")] 113

def k0c0 : Code := { maxStack := 0, maxLocals := 1, code := object_method_1_code, exceptionTable := #[], attributes := #[] }
def k0m0 : Method := { name := "<init>", desc := "()V", sig := { parameters := [], returnType := none }, accessFlags := 1, code := some k0c0 }
/-- java/lang/Object -/
def k0 : Class := { plain "java/lang/Object" none with
  accessFlags := 33
  interfaces := #[]
  cf := some (fileOf pool0 8 #[] #[{ accessFlags := 1, nameIndex := 5, descriptorIndex := 6, attributes := #[] }] 33 0 #[] #[])
  fields := #[]
  methods := #[k0m0]
  instanceTypes := #[]
  staticTypes := #[]
  resolved := Array.replicate 124 none
  statics := none }

def pool1 : Array CpInfo := pool [(2, .class_ 4), (0, .nameAndType 5 6), (0, u "java/lang/Object"), (0, u "<init>"), (0, u "()V"), (2, .long 9223372036854775807), (1, .long 18446744073709551615), (1, .methodref 14 15), (0, .class_ 16), (0, .nameAndType 17 18), (0, u "com/example/metr/metr/Decision"), (0, u "set"), (0, u "(ZJJ)V"), (0, .methodref 14 20), (0, .nameAndType 21 22), (0, u "setGranted"), (0, u "(Lcom/example/metr/metr/Parts;J)V"), (0, .methodref 14 24), (0, .nameAndType 25 26), (0, u "setRefused"), (0, u "(Lcom/example/metr/metr/Parts;JJ)V"), (0, .methodref 14 28), (0, .nameAndType 29 30), (0, u "setBehind"), (0, u "(J)V"), (0, .methodref 14 3), (0, .class_ 33), (0, u "com/example/metr/metr/Parts"), (0, .methodref 32 35), (0, .nameAndType 5 36), (0, u "(JJJ)V"), (0, .long 3), (1, .long 2), (1, .long 5), (1, .methodref 14 44), (0, .nameAndType 45 46), (0, u "granted"), (0, u "()Z"), (0, .methodref 48 49), (0, .class_ 50), (0, .nameAndType 51 52), (0, u "com/example/metr/metr/DecisionGrantedPinLaw"), (0, u "step"), (0, u "(Lcom/example/metr/metr/Decision;IJLcom/example/metr/metr/Parts;)Z"), (3, u "law"), (0, u "(IIJJ)Z")] 2

def k1m0 : Method := { name := "<init>", desc := "()V", sig := { parameters := [], returnType := none }, accessFlags := 1, code := none }
def k1c1 : Code := { maxStack := 8, maxLocals := 10, code := method_2_code, exceptionTable := #[], attributes := #[] }
def k1m1 : Method := { name := "step", desc := "(Lcom/example/metr/metr/Decision;IJLcom/example/metr/metr/Parts;)Z", sig := { parameters := [(.object "com/example/metr/metr/Decision"), .int, .long, (.object "com/example/metr/metr/Parts")], returnType := some .boolean }, accessFlags := 10, code := some k1c1 }
def k1c2 : Code := { maxStack := 8, maxLocals := 14, code := code, exceptionTable := #[], attributes := #[] }
def k1m2 : Method := { name := "law", desc := "(IIJJ)Z", sig := { parameters := [.int, .int, .long, .long], returnType := some .boolean }, accessFlags := 9, code := some k1c2 }
/-- com/example/metr/metr/DecisionGrantedPinLaw -/
def k1 : Class := { plain "com/example/metr/metr/DecisionGrantedPinLaw" (some 0) with
  accessFlags := 49
  interfaces := #[]
  cf := some (fileOf pool1 48 #[] #[{ accessFlags := 1, nameIndex := 5, descriptorIndex := 6, attributes := #[] }, { accessFlags := 10, nameIndex := 51, descriptorIndex := 52, attributes := #[] }, { accessFlags := 9, nameIndex := 56, descriptorIndex := 57, attributes := #[] }] 49 2 #[] #[])
  fields := #[]
  methods := #[k1m0, k1m1, k1m2]
  instanceTypes := #[]
  staticTypes := #[]
  resolved := Array.replicate 60 none
  statics := none }

def pool2 : Array CpInfo := pool [(1, .methodref 2 3), (0, .class_ 4), (0, .nameAndType 5 6), (0, u "java/lang/Object"), (0, u "<init>"), (0, u "()V"), (0, .class_ 8), (0, u "com/example/metr/metr/Decision"), (0, .long 18446744073709551615), (1, .fieldref 7 12), (0, .nameAndType 13 14), (0, u "wait"), (0, u "J"), (0, .fieldref 7 16), (0, .nameAndType 17 18), (0, u "parts"), (0, u "Lcom/example/metr/metr/Parts;"), (0, .fieldref 7 20), (0, .nameAndType 21 22), (0, u "granted"), (0, u "Z"), (0, .fieldref 7 24), (0, .nameAndType 25 14), (0, u "decided"), (0, .fieldref 7 27), (0, .nameAndType 28 14), (0, u "tokensLeft"), (12, .fieldref 7 42), (0, .nameAndType 43 14), (0, u "tokens"), (3, .fieldref 7 48), (0, .nameAndType 49 14), (0, u "behind"), (27, u "set"), (0, u "(ZJJ)V"), (0, .methodref 7 80), (0, .nameAndType 81 82), (0, u "keep"), (0, u "(Lcom/example/metr/metr/Parts;)V"), (0, u "NEVER"), (3, u "()Z"), (2, u "setBehind"), (0, u "(J)V"), (1, u "setGranted"), (0, u "(Lcom/example/metr/metr/Parts;J)V"), (0, u "setRefused"), (0, u "(Lcom/example/metr/metr/Parts;JJ)V")] 2

def k2c0 : Code := { maxStack := 3, maxLocals := 1, code := prog_4_method_1_code, exceptionTable := #[], attributes := #[] }
def k2m0 : Method := { name := "<init>", desc := "()V", sig := { parameters := [], returnType := none }, accessFlags := 1, code := some k2c0 }
def k2c1 : Code := { maxStack := 4, maxLocals := 1, code := prog_4_method_2_code, exceptionTable := #[], attributes := #[] }
def k2m1 : Method := { name := "granted", desc := "()Z", sig := { parameters := [], returnType := some .boolean }, accessFlags := 1, code := some k2c1 }
def k2c2 : Code := { maxStack := 3, maxLocals := 3, code := prog_4_method_5_code, exceptionTable := #[], attributes := #[] }
def k2m2 : Method := { name := "setBehind", desc := "(J)V", sig := { parameters := [.long], returnType := none }, accessFlags := 0, code := some k2c2 }
def k2c3 : Code := { maxStack := 3, maxLocals := 6, code := prog_4_method_6_code, exceptionTable := #[], attributes := #[] }
def k2m3 : Method := { name := "set", desc := "(ZJJ)V", sig := { parameters := [.boolean, .long, .long], returnType := none }, accessFlags := 0, code := some k2c3 }
def k2c4 : Code := { maxStack := 3, maxLocals := 4, code := prog_4_method_8_code, exceptionTable := #[], attributes := #[] }
def k2m4 : Method := { name := "setGranted", desc := "(Lcom/example/metr/metr/Parts;J)V", sig := { parameters := [(.object "com/example/metr/metr/Parts"), .long], returnType := none }, accessFlags := 0, code := some k2c4 }
def k2c5 : Code := { maxStack := 5, maxLocals := 6, code := prog_4_method_9_code, exceptionTable := #[], attributes := #[] }
def k2m5 : Method := { name := "setRefused", desc := "(Lcom/example/metr/metr/Parts;JJ)V", sig := { parameters := [(.object "com/example/metr/metr/Parts"), .long, .long], returnType := none }, accessFlags := 0, code := some k2c5 }
def k2c6 : Code := { maxStack := 2, maxLocals := 2, code := prog_4_method_10_code, exceptionTable := #[], attributes := #[] }
def k2m6 : Method := { name := "keep", desc := "(Lcom/example/metr/metr/Parts;)V", sig := { parameters := [(.object "com/example/metr/metr/Parts")], returnType := none }, accessFlags := 2, code := some k2c6 }
/-- com/example/metr/metr/Decision -/
def k2 : Class := { plain "com/example/metr/metr/Decision" (some 0) with
  accessFlags := 33
  interfaces := #[]
  cf := some (fileOf pool2 7 #[] #[{ accessFlags := 1, nameIndex := 5, descriptorIndex := 6, attributes := #[] }, { accessFlags := 1, nameIndex := 21, descriptorIndex := 87, attributes := #[] }, { accessFlags := 0, nameIndex := 90, descriptorIndex := 91, attributes := #[] }, { accessFlags := 0, nameIndex := 77, descriptorIndex := 78, attributes := #[] }, { accessFlags := 0, nameIndex := 93, descriptorIndex := 94, attributes := #[] }, { accessFlags := 0, nameIndex := 95, descriptorIndex := 96, attributes := #[] }, { accessFlags := 2, nameIndex := 81, descriptorIndex := 82, attributes := #[] }] 33 2 #[] #[{ accessFlags := 24, nameIndex := 83, descriptorIndex := 14, attributes := #[] }, { accessFlags := 2, nameIndex := 17, descriptorIndex := 18, attributes := #[] }, { accessFlags := 2, nameIndex := 25, descriptorIndex := 14, attributes := #[] }, { accessFlags := 2, nameIndex := 43, descriptorIndex := 14, attributes := #[] }, { accessFlags := 2, nameIndex := 49, descriptorIndex := 14, attributes := #[] }, { accessFlags := 2, nameIndex := 21, descriptorIndex := 22, attributes := #[] }, { accessFlags := 2, nameIndex := 28, descriptorIndex := 14, attributes := #[] }, { accessFlags := 2, nameIndex := 13, descriptorIndex := 14, attributes := #[] }])
  fields := #[{ name := "NEVER", type := .long, accessFlags := 24, slot := 0, constantValue := 0 }, { name := "parts", type := (.object "com/example/metr/metr/Parts"), accessFlags := 2, slot := 0, constantValue := 0 }, { name := "decided", type := .long, accessFlags := 2, slot := 1, constantValue := 0 }, { name := "tokens", type := .long, accessFlags := 2, slot := 2, constantValue := 0 }, { name := "behind", type := .long, accessFlags := 2, slot := 3, constantValue := 0 }, { name := "granted", type := .boolean, accessFlags := 2, slot := 4, constantValue := 0 }, { name := "tokensLeft", type := .long, accessFlags := 2, slot := 5, constantValue := 0 }, { name := "wait", type := .long, accessFlags := 2, slot := 6, constantValue := 0 }]
  methods := #[k2m0, k2m1, k2m2, k2m3, k2m4, k2m5, k2m6]
  instanceTypes := #[(.object "com/example/metr/metr/Parts"), .long, .long, .long, .boolean, .long, .long]
  staticTypes := #[.long]
  resolved := Array.replicate 99 none
  statics := none }

def pool3 : Array CpInfo := pool [(1, .methodref 2 3), (0, .class_ 4), (0, .nameAndType 5 6), (0, u "java/lang/Object"), (0, u "<init>"), (0, u "()V"), (0, .fieldref 8 9), (0, .class_ 10), (0, .nameAndType 11 12), (0, u "com/example/metr/metr/Parts"), (0, u "capacity"), (0, u "J"), (0, .fieldref 8 14), (0, .nameAndType 15 12), (0, u "refillTokens"), (0, .fieldref 8 17), (0, .nameAndType 18 12), (0, u "refillPeriod"), (0, .methodref 8 20), (0, .nameAndType 21 22), (0, u "parts"), (0, u "(J)J"), (0, .fieldref 8 24), (0, .nameAndType 25 12), (0, u "capacityParts"), (0, .class_ 27), (0, u "java/lang/Long"), (0, .methodref 26 29), (0, .nameAndType 30 31), (0, u "numberOfLeadingZeros"), (0, u "(J)I"), (0, .fieldref 8 33), (0, .nameAndType 34 35), (0, u "deficitBits"), (0, u "I"), (0, .long 9223372036854775807), (1, .fieldref 8 39), (0, .nameAndType 40 12), (0, u "mostElapsed"), (0, .methodref 42 43), (0, .class_ 44), (0, .nameAndType 45 46), (0, u "java/lang/Math"), (0, u "multiplyHigh"), (0, u "(JJ)J"), (0, .long 18446744073709551615), (1, u "(JJJ)V")] 10

def k3c0 : Code := { maxStack := 5, maxLocals := 7, code := prog_26_method_1_code, exceptionTable := #[], attributes := #[] }
def k3m0 : Method := { name := "<init>", desc := "(JJJ)V", sig := { parameters := [.long, .long, .long], returnType := none }, accessFlags := 0, code := some k3c0 }
def k3c1 : Code := { maxStack := 4, maxLocals := 3, code := prog_26_method_7_code, exceptionTable := #[], attributes := #[] }
def k3m1 : Method := { name := "parts", desc := "(J)J", sig := { parameters := [.long], returnType := some .long }, accessFlags := 0, code := some k3c1 }
/-- com/example/metr/metr/Parts -/
def k3 : Class := { plain "com/example/metr/metr/Parts" (some 0) with
  accessFlags := 32
  interfaces := #[]
  cf := some (fileOf pool3 8 #[] #[{ accessFlags := 0, nameIndex := 5, descriptorIndex := 49, attributes := #[] }, { accessFlags := 0, nameIndex := 21, descriptorIndex := 22, attributes := #[] }] 32 2 #[] #[{ accessFlags := 18, nameIndex := 11, descriptorIndex := 12, attributes := #[] }, { accessFlags := 18, nameIndex := 15, descriptorIndex := 12, attributes := #[] }, { accessFlags := 18, nameIndex := 18, descriptorIndex := 12, attributes := #[] }, { accessFlags := 18, nameIndex := 25, descriptorIndex := 12, attributes := #[] }, { accessFlags := 18, nameIndex := 34, descriptorIndex := 35, attributes := #[] }, { accessFlags := 18, nameIndex := 40, descriptorIndex := 12, attributes := #[] }])
  fields := #[{ name := "capacity", type := .long, accessFlags := 18, slot := 0, constantValue := 0 }, { name := "refillTokens", type := .long, accessFlags := 18, slot := 1, constantValue := 0 }, { name := "refillPeriod", type := .long, accessFlags := 18, slot := 2, constantValue := 0 }, { name := "capacityParts", type := .long, accessFlags := 18, slot := 3, constantValue := 0 }, { name := "deficitBits", type := .int, accessFlags := 18, slot := 4, constantValue := 0 }, { name := "mostElapsed", type := .long, accessFlags := 18, slot := 5, constantValue := 0 }]
  methods := #[k3m0, k3m1]
  instanceTypes := #[.long, .long, .long, .long, .int, .long]
  staticTypes := #[]
  resolved := Array.replicate 60 none
  statics := none }

def pool4 : Array CpInfo := pool [(1, .class_ 2), (0, u "java/lang/Math"), (1, .class_ 6), (1, u "java/lang/Object"), (0, u "<init>"), (0, u "()V"), (89, .class_ 100), (1, u "java/lang/Math$RandomNumberGeneratorHolder"), (20, u "(JJ)J"), (16, .long 4294967295), (3, u "multiplyHigh"), (29, u "negativeZeroFloatBits"), (0, u "J"), (2, u "negativeZeroDoubleBits"), (68, u "$assertionsDisabled"), (0, u "Z"), (91, u "twoToTheDoubleScaleDown"), (0, u "D"), (4, u "twoToTheDoubleScaleUp"), (9, u "E"), (3, u "PI"), (2, u "TAU"), (2, u "DEGREES_TO_RADIANS"), (0, u "RADIANS_TO_DEGREES")] 94

def k4m0 : Method := { name := "<init>", desc := "()V", sig := { parameters := [], returnType := none }, accessFlags := 2, code := none }
def k4c1 : Code := { maxStack := 6, maxLocals := 20, code := jdk_29_method_45_code, exceptionTable := #[], attributes := #[] }
def k4m1 : Method := { name := "multiplyHigh", desc := "(JJ)J", sig := { parameters := [.long, .long], returnType := some .long }, accessFlags := 9, code := some k4c1 }
/-- java/lang/Math -/
def k4 : Class := { plain "java/lang/Math" (some 0) with
  accessFlags := 49
  interfaces := #[]
  cf := some (fileOf pool4 1 #[.nestMembers #[98]] #[{ accessFlags := 2, nameIndex := 7, descriptorIndex := 8, attributes := #[] }, { accessFlags := 9, nameIndex := 142, descriptorIndex := 121, attributes := #[] }] 49 4 #[] #[{ accessFlags := 25, nameIndex := 354, descriptorIndex := 339, attributes := #[] }, { accessFlags := 25, nameIndex := 358, descriptorIndex := 339, attributes := #[] }, { accessFlags := 25, nameIndex := 361, descriptorIndex := 339, attributes := #[] }, { accessFlags := 26, nameIndex := 364, descriptorIndex := 339, attributes := #[] }, { accessFlags := 26, nameIndex := 365, descriptorIndex := 339, attributes := #[] }, { accessFlags := 26, nameIndex := 172, descriptorIndex := 173, attributes := #[] }, { accessFlags := 26, nameIndex := 176, descriptorIndex := 173, attributes := #[] }, { accessFlags := 8, nameIndex := 344, descriptorIndex := 339, attributes := #[] }, { accessFlags := 8, nameIndex := 338, descriptorIndex := 339, attributes := #[] }, { accessFlags := 4120, nameIndex := 245, descriptorIndex := 246, attributes := #[] }])
  fields := #[{ name := "E", type := .double, accessFlags := 25, slot := 0, constantValue := 0 }, { name := "PI", type := .double, accessFlags := 25, slot := 1, constantValue := 0 }, { name := "TAU", type := .double, accessFlags := 25, slot := 2, constantValue := 0 }, { name := "DEGREES_TO_RADIANS", type := .double, accessFlags := 26, slot := 3, constantValue := 0 }, { name := "RADIANS_TO_DEGREES", type := .double, accessFlags := 26, slot := 4, constantValue := 0 }, { name := "negativeZeroFloatBits", type := .long, accessFlags := 26, slot := 5, constantValue := 0 }, { name := "negativeZeroDoubleBits", type := .long, accessFlags := 26, slot := 6, constantValue := 0 }, { name := "twoToTheDoubleScaleUp", type := .double, accessFlags := 8, slot := 7, constantValue := 0 }, { name := "twoToTheDoubleScaleDown", type := .double, accessFlags := 8, slot := 8, constantValue := 0 }, { name := "$assertionsDisabled", type := .boolean, accessFlags := 4120, slot := 9, constantValue := 0 }]
  methods := #[k4m0, k4m1]
  instanceTypes := #[]
  staticTypes := #[.double, .double, .double, .double, .double, .long, .long, .double, .double, .boolean]
  resolved := Array.replicate 460 none
  statics := none }

def pool5 : Array CpInfo := pool [(1, .class_ 2), (0, u "java/io/Serializable"), (0, .class_ 4), (0, u "java/lang/Object")] 2

/-- java/io/Serializable -/
def k5 : Class := { plain "java/io/Serializable" (some 0) with
  accessFlags := 1537
  interfaces := #[]
  cf := some (fileOf pool5 1 #[] #[] 1537 3 #[] #[])
  fields := #[]
  methods := #[]
  instanceTypes := #[]
  staticTypes := #[]
  resolved := Array.replicate 7 none
  statics := none }

def pool6 : Array CpInfo := pool [(2, .class_ 4), (1, u "java/lang/Object"), (0, u "<init>"), (0, u "()V"), (1, .class_ 10), (1, u "java/lang/Number"), (2, .class_ 14), (0, u "java/io/Serializable"), (0, u "serialVersionUID"), (0, u "J")] 20

def k6m0 : Method := { name := "<init>", desc := "()V", sig := { parameters := [], returnType := none }, accessFlags := 1, code := none }
/-- java/lang/Number -/
def k6 : Class := { plain "java/lang/Number" (some 0) with
  accessFlags := 1057
  interfaces := #[5]
  cf := some (fileOf pool6 8 #[] #[{ accessFlags := 1, nameIndex := 5, descriptorIndex := 6, attributes := #[] }] 1057 2 #[13] #[{ accessFlags := 26, nameIndex := 15, descriptorIndex := 16, attributes := #[] }])
  fields := #[{ name := "serialVersionUID", type := .long, accessFlags := 26, slot := 0, constantValue := 0 }]
  methods := #[k6m0]
  instanceTypes := #[]
  staticTypes := #[.long]
  resolved := Array.replicate 37 none
  statics := none }

def pool7 : Array CpInfo := pool [(1, .class_ 2), (0, u "java/lang/Comparable"), (0, .class_ 4), (0, u "java/lang/Object")] 7

/-- java/lang/Comparable -/
def k7 : Class := { plain "java/lang/Comparable" (some 0) with
  accessFlags := 1537
  interfaces := #[]
  cf := some (fileOf pool7 1 #[] #[] 1537 3 #[] #[])
  fields := #[]
  methods := #[]
  instanceTypes := #[]
  staticTypes := #[]
  resolved := Array.replicate 12 none
  statics := none }

def pool8 : Array CpInfo := pool [(1, .class_ 2), (0, u "java/lang/constant/Constable"), (0, .class_ 4), (0, u "java/lang/Object")] 6

/-- java/lang/constant/Constable -/
def k8 : Class := { plain "java/lang/constant/Constable" (some 0) with
  accessFlags := 1537
  interfaces := #[]
  cf := some (fileOf pool8 1 #[] #[] 1537 3 #[] #[])
  fields := #[]
  methods := #[]
  instanceTypes := #[]
  staticTypes := #[]
  resolved := Array.replicate 11 none
  statics := none }

def pool9 : Array CpInfo := pool [(1, .class_ 2), (0, u "java/lang/constant/ConstantDesc"), (0, .class_ 4), (0, u "java/lang/Object")] 32

/-- java/lang/constant/ConstantDesc -/
def k9 : Class := { plain "java/lang/constant/ConstantDesc" (some 0) with
  accessFlags := 1537
  interfaces := #[]
  cf := some (fileOf pool9 1 #[] #[] 1537 3 #[] #[])
  fields := #[]
  methods := #[]
  instanceTypes := #[]
  staticTypes := #[]
  resolved := Array.replicate 37 none
  statics := none }

def pool10 : Array CpInfo := pool [(1, .class_ 2), (0, u "java/lang/Long"), (15, .class_ 20), (1, u "java/lang/Integer"), (79, u "numberOfLeadingZeros"), (0, u "(J)I"), (133, .class_ 237), (1, u "java/lang/Long$LongCache"), (33, .class_ 272), (0, u "java/lang/Number"), (2, u "value"), (0, u "J"), (31, .methodref 18 309), (0, .nameAndType 100 310), (0, u "(I)I"), (50, u "TYPE"), (0, u "Ljava/lang/Class;"), (0, .class_ 364), (0, u "java/lang/Comparable"), (0, .class_ 366), (0, u "java/lang/constant/Constable"), (0, .class_ 368), (0, u "java/lang/constant/ConstantDesc"), (0, u "MIN_VALUE"), (1, u "MAX_VALUE"), (4, u "SIZE"), (0, u "I"), (1, u "BYTES"), (1, u "serialVersionUID")] 142

def k10c0 : Code := { maxStack := 3, maxLocals := 3, code := jdk_35_method_48_code, exceptionTable := #[], attributes := #[] }
def k10m0 : Method := { name := "numberOfLeadingZeros", desc := "(J)I", sig := { parameters := [.long], returnType := some .int }, accessFlags := 9, code := some k10c0 }
/-- java/lang/Long -/
def k10 : Class := { plain "java/lang/Long" (some 6) with
  accessFlags := 49
  interfaces := #[7, 8, 9]
  cf := some (fileOf pool10 1 #[.nestMembers #[235]] #[{ accessFlags := 9, nameIndex := 100, descriptorIndex := 101, attributes := #[] }] 49 271 #[363, 365, 367] #[{ accessFlags := 25, nameIndex := 369, descriptorIndex := 276, attributes := #[] }, { accessFlags := 25, nameIndex := 371, descriptorIndex := 276, attributes := #[] }, { accessFlags := 25, nameIndex := 361, descriptorIndex := 362, attributes := #[] }, { accessFlags := 18, nameIndex := 275, descriptorIndex := 276, attributes := #[] }, { accessFlags := 25, nameIndex := 376, descriptorIndex := 377, attributes := #[] }, { accessFlags := 25, nameIndex := 379, descriptorIndex := 377, attributes := #[] }, { accessFlags := 26, nameIndex := 381, descriptorIndex := 276, attributes := #[] }])
  fields := #[{ name := "MIN_VALUE", type := .long, accessFlags := 25, slot := 0, constantValue := 0 }, { name := "MAX_VALUE", type := .long, accessFlags := 25, slot := 1, constantValue := 0 }, { name := "TYPE", type := (.object "java/lang/Class"), accessFlags := 25, slot := 2, constantValue := 0 }, { name := "value", type := .long, accessFlags := 18, slot := 0, constantValue := 0 }, { name := "SIZE", type := .int, accessFlags := 25, slot := 3, constantValue := 0 }, { name := "BYTES", type := .int, accessFlags := 25, slot := 4, constantValue := 0 }, { name := "serialVersionUID", type := .long, accessFlags := 26, slot := 5, constantValue := 0 }]
  methods := #[k10m0]
  instanceTypes := #[.long]
  staticTypes := #[.long, .long, (.object "java/lang/Class"), .int, .int, .long]
  resolved := Array.replicate 524 none
  statics := none }

def pool11 : Array CpInfo := pool [(1, .class_ 2), (0, u "java/lang/Integer"), (16, u "digits"), (0, u "[C"), (32, u "numberOfLeadingZeros"), (0, u "(I)I"), (30, u "DigitOnes"), (0, u "[B"), (2, u "DigitTens"), (99, .class_ 190), (0, u "java/lang/Integer$IntegerCache"), (3, u "I"), (8, .class_ 204), (0, u "java/lang/Number"), (2, u "value"), (56, .integer 65536), (37, u "TYPE"), (0, u "Ljava/lang/Class;"), (0, .class_ 305), (0, u "java/lang/Comparable"), (0, .class_ 307), (0, u "java/lang/constant/Constable"), (0, .class_ 309), (0, u "java/lang/constant/ConstantDesc"), (0, u "MIN_VALUE"), (1, u "MAX_VALUE"), (3, u "SIZE"), (1, u "BYTES"), (1, u "serialVersionUID"), (0, u "J")] 131

def k11c0 : Code := { maxStack := 3, maxLocals := 2, code := jdk_33_method_47_code, exceptionTable := #[], attributes := #[] }
def k11m0 : Method := { name := "numberOfLeadingZeros", desc := "(I)I", sig := { parameters := [.int], returnType := some .int }, accessFlags := 9, code := some k11c0 }
/-- java/lang/Integer -/
def k11 : Class := { plain "java/lang/Integer" (some 6) with
  accessFlags := 49
  interfaces := #[7, 8, 9]
  cf := some (fileOf pool11 1 #[.nestMembers #[189]] #[{ accessFlags := 9, nameIndex := 53, descriptorIndex := 54, attributes := #[] }] 49 203 #[304, 306, 308] #[{ accessFlags := 25, nameIndex := 310, descriptorIndex := 194, attributes := #[] }, { accessFlags := 25, nameIndex := 312, descriptorIndex := 194, attributes := #[] }, { accessFlags := 25, nameIndex := 302, descriptorIndex := 303, attributes := #[] }, { accessFlags := 24, nameIndex := 19, descriptorIndex := 20, attributes := #[] }, { accessFlags := 24, nameIndex := 89, descriptorIndex := 86, attributes := #[] }, { accessFlags := 24, nameIndex := 85, descriptorIndex := 86, attributes := #[] }, { accessFlags := 18, nameIndex := 207, descriptorIndex := 194, attributes := #[] }, { accessFlags := 25, nameIndex := 316, descriptorIndex := 194, attributes := #[] }, { accessFlags := 25, nameIndex := 318, descriptorIndex := 194, attributes := #[] }, { accessFlags := 26, nameIndex := 320, descriptorIndex := 321, attributes := #[] }])
  fields := #[{ name := "MIN_VALUE", type := .int, accessFlags := 25, slot := 0, constantValue := 0 }, { name := "MAX_VALUE", type := .int, accessFlags := 25, slot := 1, constantValue := 0 }, { name := "TYPE", type := (.object "java/lang/Class"), accessFlags := 25, slot := 2, constantValue := 0 }, { name := "digits", type := (.array .char), accessFlags := 24, slot := 3, constantValue := 0 }, { name := "DigitTens", type := (.array .byte), accessFlags := 24, slot := 4, constantValue := 0 }, { name := "DigitOnes", type := (.array .byte), accessFlags := 24, slot := 5, constantValue := 0 }, { name := "value", type := .int, accessFlags := 18, slot := 0, constantValue := 0 }, { name := "SIZE", type := .int, accessFlags := 25, slot := 6, constantValue := 0 }, { name := "BYTES", type := .int, accessFlags := 25, slot := 7, constantValue := 0 }, { name := "serialVersionUID", type := .long, accessFlags := 26, slot := 8, constantValue := 0 }]
  methods := #[k11m0]
  instanceTypes := #[.int]
  staticTypes := #[.int, .int, (.object "java/lang/Class"), (.array .char), (.array .byte), (.array .byte), .int, .int, .long]
  resolved := Array.replicate 453 none
  statics := none }

def pool12 : Array CpInfo := pool [(1, u "java/lang/Cloneable"), (0, .class_ 1), (0, u "java/lang/Object"), (0, .class_ 3)] 3

/-- java/lang/Cloneable -/
def k12 : Class := { plain "java/lang/Cloneable" (some 0) with
  accessFlags := 1537
  interfaces := #[]
  cf := some (fileOf pool12 2 #[] #[] 1537 4 #[] #[])
  fields := #[]
  methods := #[]
  instanceTypes := #[]
  staticTypes := #[]
  resolved := Array.replicate 8 none
  statics := none }

/-- the primitive byte -/
def k13 : Class := { plain "byte" none with kind := .primitive 'B', accessFlags := 0x411 }
/-- [B -/
def k14 : Class := { plain "[B" (some 0) with kind := .array 13 .byte, interfaces := #[12, 5], accessFlags := 1041 }

/-- the primitive int -/
def k15 : Class := { plain "int" none with kind := .primitive 'I', accessFlags := 0x411 }
/-- [I -/
def k16 : Class := { plain "[I" (some 0) with kind := .array 15 .int, interfaces := #[12, 5], accessFlags := 1041 }

def heap : Heap := #[]
def classes : Array Class := #[k0, k1, k2, k3, k4, k5, k6, k7, k8, k9, k10, k11, k12, k13, k14, k15, k16]
def interned : List (Array UInt16 × Addr) := []
def slotsUsed : Nat := 0
def theMethod : MethodId := ⟨1, 2⟩
def args0 : Array Value := #[.int 5, .int 3, .long 7, .long 2]
def aboutOver (below : List Frame) : State where
  vm := { classes := classes, interned := interned.toArray }
  heap := heap
  slotsUsed := slotsUsed
  threads := #[{ frames := .invoking theMethod args0 :: below }]
def below0 : List Frame := [.native { method := ⟨0, 0⟩, args := #[] }]
def about1 : State := aboutOver below0
def p0 : Program := .bare "" "" ""
def e0 : Env := launch0.env 0 0 0
theorem w_frames : about1.frames = Frame.invoking theMethod args0 :: below0 := rfl
set_option maxRecDepth 65536 in
theorem w_args : argsFit about1.vm theMethod args0 = true := by decide +kernel
set_option maxRecDepth 65536 in
theorem w_heap : heapFits about1 = true := by decide +kernel
set_option maxRecDepth 65536 in
theorem w_runnable : about1.curStatus? = some .runnable := by decide +kernel
set_option maxRecDepth 65536 in
theorem w_alone : about1.alone = true := by decide +kernel
set_option maxRecDepth 65536 in
theorem w_named : about1.methodNamed? x = some theMethod := by decide +kernel
set_option maxRecDepth 65536 in
theorem w_hears : about1.hears theMethod below0 = true := by decide +kernel
set_option maxRecDepth 65536 in
theorem w_ripe : about1.ripe theMethod args0 below0 = true := by decide +kernel
theorem w_running : about1.status = .running := rfl
set_option maxRecDepth 65536 in
theorem w_room : about1.hasRoom e0.platform room_1 = true :=
  launch0.hasRoom_least _ room_1 (by decide +kernel) (by decide +kernel) (by decide +kernel) (by decide +kernel) (by decide +kernel) (by decide +kernel)
theorem allAtoms_all (ts : List Jvm.Cond) (a : Array Jvm.Value) (st : Jvm.State) : (allAtoms ts).before a st = ts.all (fun c => c.before a st) := by
  induction ts with
  | nil => rfl
  | cons c t ih =>
    show (Jvm.Cond.and c (allAtoms t)).before a st = _
    rw [Jvm.Cond.before_and, ih, List.all_cons]
def words1 : List Jvm.Cond := Jvm.Cond.code x code maxLocals ret :: tables_1
/-- a 'code' word, met by the world's own term for the bytes: nothing is compared byte by byte -/
theorem code_word {y : MethodName} {bytes : ByteArray} {mx : Nat} {rt : Option FieldType} {a : Array Value} {s : State} {m : MethodId} {meth : Method} {c : Code} (h1 : s.methodNamed? y = some m) (h2 : s.vm.method? m = some meth) (h3 : meth.code = some c) (h4 : c.code = bytes)
    (h5 : (c.maxLocals == mx && c.exceptionTable.isEmpty && decide (c.maxStack ≤ mostOperands) && decide (meth.sig.returnType = rt) && !meth.locks && decide (parseMethodDescriptor y.desc = some meth.sig)) = true) : (Jvm.Cond.code y bytes mx rt).before a s = true := by
  simp only [Bool.and_eq_true, beq_iff_eq, Bool.not_eq_true', decide_eq_true_eq] at h5
  obtain ⟨⟨⟨⟨⟨g1, g2⟩, g3⟩, g4⟩, g5⟩, g6⟩ := h5
  simp [Cond.before, Cond.holds, Cond.value, h1, h2, h3, h4, g1, g2, g3, g4, g5, g6]
def isCode : Jvm.Cond → Bool
  | .code _ _ _ _ => true
  | _ => false
theorem all_split {L : List Jvm.Cond} {P : Jvm.Cond → Bool} (h1 : L.all (fun c => isCode c || P c) = true) (h2 : ∀ c ∈ L.filter isCode, P c = true) : L.all P = true := by
  refine List.all_eq_true.mpr fun c hc => ?_
  have h := List.all_eq_true.mp h1 c hc
  rcases Bool.eq_false_or_eq_true (isCode c) with hi | hi
  · exact h2 c (List.mem_filter.mpr ⟨hc, hi⟩)
  · simpa [hi] using h
set_option maxRecDepth 65536 in
theorem w_c0 : (Jvm.Cond.code x code maxLocals ret).before args0 about1 = true := code_word (m := ⟨1, 2⟩) (meth := k1m2) (c := k1c2) (by decide +kernel) rfl rfl rfl (by decide +kernel)
set_option maxRecDepth 65536 in
theorem w_c1 : (Jvm.Cond.code ({ cls := "com/example/metr/metr/Decision", name := "<init>", desc := "()V" } : Jvm.MethodName) prog_4_method_1_code (1 : Nat) (Option.none : Option Jvm.ClassFile.FieldType)).before args0 about1 = true := code_word (m := ⟨2, 0⟩) (meth := k2m0) (c := k2c0) (by decide +kernel) rfl rfl rfl (by decide +kernel)
set_option maxRecDepth 65536 in
theorem w_c2 : (Jvm.Cond.code ({ cls := "java/lang/Object", name := "<init>", desc := "()V" } : Jvm.MethodName) object_method_1_code (1 : Nat) (Option.none : Option Jvm.ClassFile.FieldType)).before args0 about1 = true := code_word (m := ⟨0, 0⟩) (meth := k0m0) (c := k0c0) (by decide +kernel) rfl rfl rfl (by decide +kernel)
set_option maxRecDepth 65536 in
theorem w_c3 : (Jvm.Cond.code ({ cls := "com/example/metr/metr/Parts", name := "<init>", desc := "(JJJ)V" } : Jvm.MethodName) prog_26_method_1_code (7 : Nat) (Option.none : Option Jvm.ClassFile.FieldType)).before args0 about1 = true := code_word (m := ⟨3, 0⟩) (meth := k3m0) (c := k3c0) (by decide +kernel) rfl rfl rfl (by decide +kernel)
set_option maxRecDepth 65536 in
theorem w_c4 : (Jvm.Cond.code ({ cls := "com/example/metr/metr/Parts", name := "parts", desc := "(J)J" } : Jvm.MethodName) prog_26_method_7_code (3 : Nat) (Option.some Jvm.ClassFile.FieldType.long)).before args0 about1 = true := code_word (m := ⟨3, 1⟩) (meth := k3m1) (c := k3c1) (by decide +kernel) rfl rfl rfl (by decide +kernel)
set_option maxRecDepth 65536 in
theorem w_c5 : (Jvm.Cond.code ({ cls := "java/lang/Math", name := "multiplyHigh", desc := "(JJ)J" } : Jvm.MethodName) jdk_29_method_45_code (20 : Nat) (Option.some Jvm.ClassFile.FieldType.long)).before args0 about1 = true := code_word (m := ⟨4, 1⟩) (meth := k4m1) (c := k4c1) (by decide +kernel) rfl rfl rfl (by decide +kernel)
set_option maxRecDepth 65536 in
theorem w_c6 : (Jvm.Cond.code ({ cls := "java/lang/Long", name := "numberOfLeadingZeros", desc := "(J)I" } : Jvm.MethodName) jdk_35_method_48_code (3 : Nat) (Option.some Jvm.ClassFile.FieldType.int)).before args0 about1 = true := code_word (m := ⟨10, 0⟩) (meth := k10m0) (c := k10c0) (by decide +kernel) rfl rfl rfl (by decide +kernel)
set_option maxRecDepth 65536 in
theorem w_c7 : (Jvm.Cond.code ({ cls := "java/lang/Integer", name := "numberOfLeadingZeros", desc := "(I)I" } : Jvm.MethodName) jdk_33_method_47_code (2 : Nat) (Option.some Jvm.ClassFile.FieldType.int)).before args0 about1 = true := code_word (m := ⟨11, 0⟩) (meth := k11m0) (c := k11c0) (by decide +kernel) rfl rfl rfl (by decide +kernel)
set_option maxRecDepth 65536 in
theorem w_c8 : (Jvm.Cond.code ({ cls := "com/example/metr/metr/Decision", name := "granted", desc := "()Z" } : Jvm.MethodName) prog_4_method_2_code (1 : Nat) (Option.some Jvm.ClassFile.FieldType.boolean)).before args0 about1 = true := code_word (m := ⟨2, 1⟩) (meth := k2m1) (c := k2c1) (by decide +kernel) rfl rfl rfl (by decide +kernel)
set_option maxRecDepth 65536 in
theorem w_c9 : (Jvm.Cond.code ({ cls := "com/example/metr/metr/DecisionGrantedPinLaw", name := "step", desc := "(Lcom/example/metr/metr/Decision;IJLcom/example/metr/metr/Parts;)Z" } : Jvm.MethodName) method_2_code (10 : Nat) (Option.some Jvm.ClassFile.FieldType.boolean)).before args0 about1 = true := code_word (m := ⟨1, 1⟩) (meth := k1m1) (c := k1c1) (by decide +kernel) rfl rfl rfl (by decide +kernel)
set_option maxRecDepth 65536 in
theorem w_c10 : (Jvm.Cond.code ({ cls := "com/example/metr/metr/Decision", name := "set", desc := "(ZJJ)V" } : Jvm.MethodName) prog_4_method_6_code (6 : Nat) (Option.none : Option Jvm.ClassFile.FieldType)).before args0 about1 = true := code_word (m := ⟨2, 3⟩) (meth := k2m3) (c := k2c3) (by decide +kernel) rfl rfl rfl (by decide +kernel)
set_option maxRecDepth 65536 in
theorem w_c11 : (Jvm.Cond.code ({ cls := "com/example/metr/metr/Decision", name := "setBehind", desc := "(J)V" } : Jvm.MethodName) prog_4_method_5_code (3 : Nat) (Option.none : Option Jvm.ClassFile.FieldType)).before args0 about1 = true := code_word (m := ⟨2, 2⟩) (meth := k2m2) (c := k2c2) (by decide +kernel) rfl rfl rfl (by decide +kernel)
set_option maxRecDepth 65536 in
theorem w_c12 : (Jvm.Cond.code ({ cls := "com/example/metr/metr/Decision", name := "setRefused", desc := "(Lcom/example/metr/metr/Parts;JJ)V" } : Jvm.MethodName) prog_4_method_9_code (6 : Nat) (Option.none : Option Jvm.ClassFile.FieldType)).before args0 about1 = true := code_word (m := ⟨2, 5⟩) (meth := k2m5) (c := k2c5) (by decide +kernel) rfl rfl rfl (by decide +kernel)
set_option maxRecDepth 65536 in
theorem w_c13 : (Jvm.Cond.code ({ cls := "com/example/metr/metr/Decision", name := "keep", desc := "(Lcom/example/metr/metr/Parts;)V" } : Jvm.MethodName) prog_4_method_10_code (2 : Nat) (Option.none : Option Jvm.ClassFile.FieldType)).before args0 about1 = true := code_word (m := ⟨2, 6⟩) (meth := k2m6) (c := k2c6) (by decide +kernel) rfl rfl rfl (by decide +kernel)
set_option maxRecDepth 65536 in
theorem w_c14 : (Jvm.Cond.code ({ cls := "com/example/metr/metr/Decision", name := "setGranted", desc := "(Lcom/example/metr/metr/Parts;J)V" } : Jvm.MethodName) prog_4_method_8_code (4 : Nat) (Option.none : Option Jvm.ClassFile.FieldType)).before args0 about1 = true := code_word (m := ⟨2, 4⟩) (meth := k2m4) (c := k2c4) (by decide +kernel) rfl rfl rfl (by decide +kernel)
def codes1 : List Jvm.Cond := [Jvm.Cond.code x code maxLocals ret, Jvm.Cond.code ({ cls := "com/example/metr/metr/Decision", name := "<init>", desc := "()V" } : Jvm.MethodName) prog_4_method_1_code (1 : Nat) (Option.none : Option Jvm.ClassFile.FieldType), Jvm.Cond.code ({ cls := "java/lang/Object", name := "<init>", desc := "()V" } : Jvm.MethodName) object_method_1_code (1 : Nat) (Option.none : Option Jvm.ClassFile.FieldType), Jvm.Cond.code ({ cls := "com/example/metr/metr/Parts", name := "<init>", desc := "(JJJ)V" } : Jvm.MethodName) prog_26_method_1_code (7 : Nat) (Option.none : Option Jvm.ClassFile.FieldType), Jvm.Cond.code ({ cls := "com/example/metr/metr/Parts", name := "parts", desc := "(J)J" } : Jvm.MethodName) prog_26_method_7_code (3 : Nat) (Option.some Jvm.ClassFile.FieldType.long), Jvm.Cond.code ({ cls := "java/lang/Math", name := "multiplyHigh", desc := "(JJ)J" } : Jvm.MethodName) jdk_29_method_45_code (20 : Nat) (Option.some Jvm.ClassFile.FieldType.long), Jvm.Cond.code ({ cls := "java/lang/Long", name := "numberOfLeadingZeros", desc := "(J)I" } : Jvm.MethodName) jdk_35_method_48_code (3 : Nat) (Option.some Jvm.ClassFile.FieldType.int), Jvm.Cond.code ({ cls := "java/lang/Integer", name := "numberOfLeadingZeros", desc := "(I)I" } : Jvm.MethodName) jdk_33_method_47_code (2 : Nat) (Option.some Jvm.ClassFile.FieldType.int), Jvm.Cond.code ({ cls := "com/example/metr/metr/Decision", name := "granted", desc := "()Z" } : Jvm.MethodName) prog_4_method_2_code (1 : Nat) (Option.some Jvm.ClassFile.FieldType.boolean), Jvm.Cond.code ({ cls := "com/example/metr/metr/DecisionGrantedPinLaw", name := "step", desc := "(Lcom/example/metr/metr/Decision;IJLcom/example/metr/metr/Parts;)Z" } : Jvm.MethodName) method_2_code (10 : Nat) (Option.some Jvm.ClassFile.FieldType.boolean), Jvm.Cond.code ({ cls := "com/example/metr/metr/Decision", name := "set", desc := "(ZJJ)V" } : Jvm.MethodName) prog_4_method_6_code (6 : Nat) (Option.none : Option Jvm.ClassFile.FieldType), Jvm.Cond.code ({ cls := "com/example/metr/metr/Decision", name := "setBehind", desc := "(J)V" } : Jvm.MethodName) prog_4_method_5_code (3 : Nat) (Option.none : Option Jvm.ClassFile.FieldType), Jvm.Cond.code ({ cls := "com/example/metr/metr/Decision", name := "setRefused", desc := "(Lcom/example/metr/metr/Parts;JJ)V" } : Jvm.MethodName) prog_4_method_9_code (6 : Nat) (Option.none : Option Jvm.ClassFile.FieldType), Jvm.Cond.code ({ cls := "com/example/metr/metr/Decision", name := "keep", desc := "(Lcom/example/metr/metr/Parts;)V" } : Jvm.MethodName) prog_4_method_10_code (2 : Nat) (Option.none : Option Jvm.ClassFile.FieldType), Jvm.Cond.code ({ cls := "com/example/metr/metr/Decision", name := "setGranted", desc := "(Lcom/example/metr/metr/Parts;J)V" } : Jvm.MethodName) prog_4_method_8_code (4 : Nat) (Option.none : Option Jvm.ClassFile.FieldType)]
set_option maxRecDepth 65536 in
theorem codes_eq : words1.filter isCode = codes1 := rfl
theorem w_codes : ∀ c ∈ words1.filter isCode, c.before args0 about1 = true := by
  rw [codes_eq]
  intro c hc
  simp only [codes1, List.mem_cons, List.not_mem_nil, or_false] at hc
  rcases hc with rfl | rfl | rfl | rfl | rfl | rfl | rfl | rfl | rfl | rfl | rfl | rfl | rfl | rfl | rfl
  · exact w_c0
  · exact w_c1
  · exact w_c2
  · exact w_c3
  · exact w_c4
  · exact w_c5
  · exact w_c6
  · exact w_c7
  · exact w_c8
  · exact w_c9
  · exact w_c10
  · exact w_c11
  · exact w_c12
  · exact w_c13
  · exact w_c14
set_option maxRecDepth 65536 in
theorem w_t1 : (words1.take 24).all (fun c => isCode c || c.before args0 about1) = true := by decide +kernel
set_option maxRecDepth 65536 in
theorem w_t2 : ((words1.drop 24).take 24).all (fun c => isCode c || c.before args0 about1) = true := by decide +kernel
set_option maxRecDepth 65536 in
theorem w_t3 : (((words1.drop 24).drop 24).take 24).all (fun c => isCode c || c.before args0 about1) = true := by decide +kernel
set_option maxRecDepth 65536 in
theorem w_t4 : ((((words1.drop 24).drop 24).drop 24).take 24).all (fun c => isCode c || c.before args0 about1) = true := by decide +kernel
set_option maxRecDepth 65536 in
theorem w_t5 : ((((words1.drop 24).drop 24).drop 24).drop 24).all (fun c => isCode c || c.before args0 about1) = true := by decide +kernel
theorem w_tables : (allAtoms (Jvm.Cond.code x code maxLocals ret :: tables_1)).before args0 about1 = true := by
  rw [allAtoms_all]
  show words1.all (fun c => c.before args0 about1) = true
  refine all_split ?_ w_codes
  rw [← List.take_append_drop 24 words1, List.all_append, w_t1, ← List.take_append_drop 24 (words1.drop 24), List.all_append, w_t2, ← List.take_append_drop 24 ((words1.drop 24).drop 24), List.all_append, w_t3, ← List.take_append_drop 24 (((words1.drop 24).drop 24).drop 24), List.all_append, w_t4, w_t5]
  rfl
set_option maxRecDepth 65536 in
theorem w_case : (Jvm.Cond.and given_1 narrow_1).before args0 about1 = true := by decide +kernel
theorem w_applies : (headSpec (Jvm.Cond.code x code maxLocals ret :: tables_1) room_1).applies x e0.platform about1 = true :=
  (Spec.applies_iff w_frames).mpr ⟨w_running, w_runnable, w_alone, w_named, w_hears, w_ripe, w_room, w_tables⟩
theorem atStart : AtStart classFile x code maxLocals ret World_1 tables_1 room_1 Calls_1 rest_1 Pre_1 launch0 p0 e0 about1 theMethod args0 below0 :=
  ⟨lists_1, trivial, launch0.admits_env _ _ _, launch0.least_env, fairChoices_fair.cas, fairChoices_fair.clock, w_frames, w_args, w_heap, w_applies, trivial, trivial, w_case⟩
end start1
theorem witness_1 : WitnessClaimed_1 := ⟨start1.p0, start1.e0, start1.about1, start1.theMethod, start1.args0, start1.below0, start1.atStart⟩
end Jvm.Pilot.@@N@@
