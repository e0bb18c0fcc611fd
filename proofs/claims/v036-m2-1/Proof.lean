import JvmDerived
import JvmDerived.Pilot.@@N@@Statement
import JvmDerived.Pilot.@@N@@Code
set_option linter.unusedVariables false
set_option linter.unusedSimpArgs false
namespace Jvm.Pilot.@@N@@
open Jvm Jvm.ClassFile Sem Op Lib Jvm.Free Jvm.Stand Jvm.LawKit Jvm.RoadKit Bundle Jvm.Pilot.@@N@@.Jvm.D
section OwnKit
def own_G (p : Program) (e : Env) (below : List Frame) (Φ : State → Outcome → Prop) (T : State) (f : JFrame) : Prop := ∃ s₂ o, Steps p.tables e below (T.setTop f) s₂ ∧ Φ s₂ o
def own_S (Z : State) (n0 : Nat) (bytes : ByteArray) (y : MethodName) (ml : Nat) (ret : Option FieldType) (p : Program) (l : Launch) (e : Env) (R : Room) (s : State) (m : MethodId) (args : Array Value) (below : List Frame) (meth : Method) (c : Code) (T : State) (k sl : Nat) (h : Heap) : Prop :=
  (∃ locs, Stand p l e R s m args below meth c T locs k sl ∧ Fr n0 locs) ∧ T.heap = h ∧ n0 ≤ s.heap.size ∧ p.tables.exec = Jvm.exec ∧ Z.Warmed39 s.vm ∧ c.code = bytes ∧ c.maxLocals = ml ∧ s.vm.findClass y.cls = some m.cls ∧ meth.name = y.name ∧ meth.sig.returnType = ret ∧ meth.locks = false
def own_Q (n0 : Nat) (below : List Frame) (s : State) (R : Room) (w : Option Value) (Θ : Heap → Prop) : State → Outcome → Prop := fun s₂ o => s₂.status = .running ∧ Ended s₂ below o ∧ ∃ v L, o = .returned v ∧ ((v = w ∧ Θ s₂.heap) ∧ Fr n0 L) ∧ FrameEnd s o s₂ L R.cells R.slots
def own_Met (l : Launch) (y : MethodName) (bytes : ByteArray) (ml : Nat) (ret : Option FieldType) (rm : Room) (Z : State) (n0 : Nat) (as : Array Value) (h0 : Heap) (w : Option Value) (Θ : Heap → Prop) : Prop :=
  ∀ ws, MetFree l y (head1 (Jvm.Cond.code y bytes ml ret :: ws) rm) (fun a U => a = as ∧ Z.Warmed39 U.vm ∧ U.heap = h0) (fun _ _ _ _ _ => True) (fun _ U o U' => ∃ v L, o = .returned v ∧ ((v = w ∧ Θ U'.heap) ∧ Fr n0 L) ∧ FrameEnd U o U' L rm.cells rm.slots)
theorem own_met {l : Launch} {y : MethodName} {bytes : ByteArray} {ml : Nat} {ret : Option FieldType} {rm : Room} {Z : State} {n0 : Nat} {as : Array Value} {h0 : Heap} {w : Option Value} {Θ : Heap → Prop} (hp : plainFor y = true) (hn0 : n0 ≤ h0.size)
    (body : ∀ p e s m below meth c T, own_S Z n0 bytes y ml ret p l e rm s m as below meth c T 0 0 h0 → own_G p e below (own_Q n0 below s rm w Θ) T (entryFrame m as ml)) : own_Met l y bytes ml ret rm Z n0 as h0 w Θ := by
  intro ws
  refine MetFree.of_bodySF hp hisR ?_
  intro p e s m args below meth c s₁ Bd hml0 hP hK
  obtain ⟨rfl, hZ, hh⟩ := hP
  obtain ⟨s₂, o, st, h1, h2, h3⟩ := body p e s m below meth c s₁ ⟨⟨[], Stand.of_body Bd, Fr.nil n0⟩, by rw [← hh, Bd.state]; rfl, by rw [hh]; exact hn0, Bd.exec, hZ, Bd.bytes, hml0, findClass_of_methodNamed Bd.named, (name_of_methodNamed Bd.named Bd.method).1, Bd.returns, BodyLoose.notSynchronized Bd⟩
  exact ⟨s₂, o, st, h1, h2, h3⟩
variable {Z : State} {n0 : Nat} {bytes : ByteArray} {y : MethodName} {ml : Nat} {ret : Option FieldType} {p : Program} {l : Launch} {e : Env} {R : Room} {s : State} {m : MethodId} {args : Array Value} {below : List Frame} {meth : Method} {c : Code} {T : State} {k sl : Nat} {h : Heap} {Φ : State → Outcome → Prop} {pc pc' : Nat} {Ls Ls' : Array Slot} {S : List Value} {a0 : Array Value}
theorem own_cast {f f' : JFrame} (q : f = f') (K : own_G p e below Φ T f') : own_G p e below Φ T f := q ▸ K
theorem own_by {T T' : State} {f f' : JFrame} (K : own_G p e below Φ T' f') (st : ∀ t, Steps p.tables e below (T'.setTop f') t → Steps p.tables e below (T.setTop f) t) : own_G p e below Φ T f := by
  obtain ⟨s₂, o, q, r⟩ := K
  exact ⟨s₂, o, st _ q, r⟩
theorem own_S.size (X : own_S Z n0 bytes y ml ret p l e R s m args below meth c T k sl h) : n0 ≤ h.size := by
  obtain ⟨⟨locs, Y, N⟩, hh, hn, hx, hZ, hby, hml, hown, hnm, hret, hlk⟩ := X
  subst hh
  exact Nat.le_trans hn Y.same.2.1
theorem own_iadd (X : own_S Z n0 bytes y ml ret p l e R s m args below meth c T k sl h) {a b r : Int32} (hd : decode bytes pc = .ok (.iadd, 1)) (hpc : pc + 1 = pc') (hr : a + b = r) (K : own_G p e below Φ T (mkF m pc' Ls (.int r :: S))) : own_G p e below Φ T (mkF m pc Ls (.int b :: .int a :: S)) := by
  obtain ⟨⟨locs, Y, N⟩, hh, hn, hx, hZ, hby, hml, hown, hnm, hret, hlk⟩ := X
  subst hpc
  exact own_by K fun t kk => XS.iadd Y.here hx rfl (hb hby hd) rfl (hr ▸ kk)
theorem own_ladd (X : own_S Z n0 bytes y ml ret p l e R s m args below meth c T k sl h) {a b r : Int64} (hd : decode bytes pc = .ok (.ladd, 1)) (hpc : pc + 1 = pc') (hr : a + b = r) (K : own_G p e below Φ T (mkF m pc' Ls (.long r :: S))) : own_G p e below Φ T (mkF m pc Ls (.long b :: .long a :: S)) := by
  obtain ⟨⟨locs, Y, N⟩, hh, hn, hx, hZ, hby, hml, hown, hnm, hret, hlk⟩ := X
  subst hpc
  exact own_by K fun t kk => XS.ladd Y.here hx rfl (hb hby hd) rfl (hr ▸ kk)
theorem own_isub (X : own_S Z n0 bytes y ml ret p l e R s m args below meth c T k sl h) {a b r : Int32} (hd : decode bytes pc = .ok (.isub, 1)) (hpc : pc + 1 = pc') (hr : a - b = r) (K : own_G p e below Φ T (mkF m pc' Ls (.int r :: S))) : own_G p e below Φ T (mkF m pc Ls (.int b :: .int a :: S)) := by
  obtain ⟨⟨locs, Y, N⟩, hh, hn, hx, hZ, hby, hml, hown, hnm, hret, hlk⟩ := X
  subst hpc
  exact own_by K fun t kk => XS.isub Y.here hx rfl (hb hby hd) rfl (hr ▸ kk)
theorem own_lsub (X : own_S Z n0 bytes y ml ret p l e R s m args below meth c T k sl h) {a b r : Int64} (hd : decode bytes pc = .ok (.lsub, 1)) (hpc : pc + 1 = pc') (hr : a - b = r) (K : own_G p e below Φ T (mkF m pc' Ls (.long r :: S))) : own_G p e below Φ T (mkF m pc Ls (.long b :: .long a :: S)) := by
  obtain ⟨⟨locs, Y, N⟩, hh, hn, hx, hZ, hby, hml, hown, hnm, hret, hlk⟩ := X
  subst hpc
  exact own_by K fun t kk => XS.lsub Y.here hx rfl (hb hby hd) rfl (hr ▸ kk)
theorem own_imul (X : own_S Z n0 bytes y ml ret p l e R s m args below meth c T k sl h) {a b r : Int32} (hd : decode bytes pc = .ok (.imul, 1)) (hpc : pc + 1 = pc') (hr : a * b = r) (K : own_G p e below Φ T (mkF m pc' Ls (.int r :: S))) : own_G p e below Φ T (mkF m pc Ls (.int b :: .int a :: S)) := by
  obtain ⟨⟨locs, Y, N⟩, hh, hn, hx, hZ, hby, hml, hown, hnm, hret, hlk⟩ := X
  subst hpc
  exact own_by K fun t kk => XS.imul Y.here hx rfl (hb hby hd) rfl (hr ▸ kk)
theorem own_lmul (X : own_S Z n0 bytes y ml ret p l e R s m args below meth c T k sl h) {a b r : Int64} (hd : decode bytes pc = .ok (.lmul, 1)) (hpc : pc + 1 = pc') (hr : a * b = r) (K : own_G p e below Φ T (mkF m pc' Ls (.long r :: S))) : own_G p e below Φ T (mkF m pc Ls (.long b :: .long a :: S)) := by
  obtain ⟨⟨locs, Y, N⟩, hh, hn, hx, hZ, hby, hml, hown, hnm, hret, hlk⟩ := X
  subst hpc
  exact own_by K fun t kk => XS.lmul Y.here hx rfl (hb hby hd) rfl (hr ▸ kk)
theorem own_iand (X : own_S Z n0 bytes y ml ret p l e R s m args below meth c T k sl h) {a b r : Int32} (hd : decode bytes pc = .ok (.iand, 1)) (hpc : pc + 1 = pc') (hr : a &&& b = r) (K : own_G p e below Φ T (mkF m pc' Ls (.int r :: S))) : own_G p e below Φ T (mkF m pc Ls (.int b :: .int a :: S)) := by
  obtain ⟨⟨locs, Y, N⟩, hh, hn, hx, hZ, hby, hml, hown, hnm, hret, hlk⟩ := X
  subst hpc
  exact own_by K fun t kk => XS.iand Y.here hx rfl (hb hby hd) rfl (hr ▸ kk)
theorem own_land (X : own_S Z n0 bytes y ml ret p l e R s m args below meth c T k sl h) {a b r : Int64} (hd : decode bytes pc = .ok (.land, 1)) (hpc : pc + 1 = pc') (hr : a &&& b = r) (K : own_G p e below Φ T (mkF m pc' Ls (.long r :: S))) : own_G p e below Φ T (mkF m pc Ls (.long b :: .long a :: S)) := by
  obtain ⟨⟨locs, Y, N⟩, hh, hn, hx, hZ, hby, hml, hown, hnm, hret, hlk⟩ := X
  subst hpc
  exact own_by K fun t kk => XS.land Y.here hx rfl (hb hby hd) rfl (hr ▸ kk)
theorem own_ior (X : own_S Z n0 bytes y ml ret p l e R s m args below meth c T k sl h) {a b r : Int32} (hd : decode bytes pc = .ok (.ior, 1)) (hpc : pc + 1 = pc') (hr : a ||| b = r) (K : own_G p e below Φ T (mkF m pc' Ls (.int r :: S))) : own_G p e below Φ T (mkF m pc Ls (.int b :: .int a :: S)) := by
  obtain ⟨⟨locs, Y, N⟩, hh, hn, hx, hZ, hby, hml, hown, hnm, hret, hlk⟩ := X
  subst hpc
  exact own_by K fun t kk => XS.ior Y.here hx rfl (hb hby hd) rfl (hr ▸ kk)
theorem own_lor (X : own_S Z n0 bytes y ml ret p l e R s m args below meth c T k sl h) {a b r : Int64} (hd : decode bytes pc = .ok (.lor, 1)) (hpc : pc + 1 = pc') (hr : a ||| b = r) (K : own_G p e below Φ T (mkF m pc' Ls (.long r :: S))) : own_G p e below Φ T (mkF m pc Ls (.long b :: .long a :: S)) := by
  obtain ⟨⟨locs, Y, N⟩, hh, hn, hx, hZ, hby, hml, hown, hnm, hret, hlk⟩ := X
  subst hpc
  exact own_by K fun t kk => XS.lor Y.here hx rfl (hb hby hd) rfl (hr ▸ kk)
theorem own_ixor (X : own_S Z n0 bytes y ml ret p l e R s m args below meth c T k sl h) {a b r : Int32} (hd : decode bytes pc = .ok (.ixor, 1)) (hpc : pc + 1 = pc') (hr : a ^^^ b = r) (K : own_G p e below Φ T (mkF m pc' Ls (.int r :: S))) : own_G p e below Φ T (mkF m pc Ls (.int b :: .int a :: S)) := by
  obtain ⟨⟨locs, Y, N⟩, hh, hn, hx, hZ, hby, hml, hown, hnm, hret, hlk⟩ := X
  subst hpc
  exact own_by K fun t kk => XS.ixor Y.here hx rfl (hb hby hd) rfl (hr ▸ kk)
theorem own_lxor (X : own_S Z n0 bytes y ml ret p l e R s m args below meth c T k sl h) {a b r : Int64} (hd : decode bytes pc = .ok (.lxor, 1)) (hpc : pc + 1 = pc') (hr : a ^^^ b = r) (K : own_G p e below Φ T (mkF m pc' Ls (.long r :: S))) : own_G p e below Φ T (mkF m pc Ls (.long b :: .long a :: S)) := by
  obtain ⟨⟨locs, Y, N⟩, hh, hn, hx, hZ, hby, hml, hown, hnm, hret, hlk⟩ := X
  subst hpc
  exact own_by K fun t kk => XS.lxor Y.here hx rfl (hb hby hd) rfl (hr ▸ kk)
theorem own_ishl (X : own_S Z n0 bytes y ml ret p l e R s m args below meth c T k sl h) {a r : Int32} {b : Int32} (hd : decode bytes pc = .ok (.ishl, 1)) (hpc : pc + 1 = pc') (hr : (a <<< (b &&& 31)) = r) (K : own_G p e below Φ T (mkF m pc' Ls (.int r :: S))) : own_G p e below Φ T (mkF m pc Ls (.int b :: .int a :: S)) := by
  obtain ⟨⟨locs, Y, N⟩, hh, hn, hx, hZ, hby, hml, hown, hnm, hret, hlk⟩ := X
  subst hpc
  exact own_by K fun t kk => XS.ishl Y.here hx rfl (hb hby hd) rfl (hr ▸ kk)
theorem own_ishr (X : own_S Z n0 bytes y ml ret p l e R s m args below meth c T k sl h) {a r : Int32} {b : Int32} (hd : decode bytes pc = .ok (.ishr, 1)) (hpc : pc + 1 = pc') (hr : (a >>> (b &&& 31)) = r) (K : own_G p e below Φ T (mkF m pc' Ls (.int r :: S))) : own_G p e below Φ T (mkF m pc Ls (.int b :: .int a :: S)) := by
  obtain ⟨⟨locs, Y, N⟩, hh, hn, hx, hZ, hby, hml, hown, hnm, hret, hlk⟩ := X
  subst hpc
  exact own_by K fun t kk => XS.ishr Y.here hx rfl (hb hby hd) rfl (hr ▸ kk)
theorem own_iushr (X : own_S Z n0 bytes y ml ret p l e R s m args below meth c T k sl h) {a r : Int32} {b : Int32} (hd : decode bytes pc = .ok (.iushr, 1)) (hpc : pc + 1 = pc') (hr : ((a.toUInt32 >>> (b &&& 31).toUInt32).toInt32) = r) (K : own_G p e below Φ T (mkF m pc' Ls (.int r :: S))) : own_G p e below Φ T (mkF m pc Ls (.int b :: .int a :: S)) := by
  obtain ⟨⟨locs, Y, N⟩, hh, hn, hx, hZ, hby, hml, hown, hnm, hret, hlk⟩ := X
  subst hpc
  exact own_by K fun t kk => XS.iushr Y.here hx rfl (hb hby hd) rfl (hr ▸ kk)
theorem own_lshl (X : own_S Z n0 bytes y ml ret p l e R s m args below meth c T k sl h) {a r : Int64} {b : Int32} (hd : decode bytes pc = .ok (.lshl, 1)) (hpc : pc + 1 = pc') (hr : (a <<< (b &&& 0x3f).toInt64) = r) (K : own_G p e below Φ T (mkF m pc' Ls (.long r :: S))) : own_G p e below Φ T (mkF m pc Ls (.int b :: .long a :: S)) := by
  obtain ⟨⟨locs, Y, N⟩, hh, hn, hx, hZ, hby, hml, hown, hnm, hret, hlk⟩ := X
  subst hpc
  exact own_by K fun t kk => XS.lshl Y.here hx rfl (hb hby hd) rfl (hr ▸ kk)
theorem own_lshr (X : own_S Z n0 bytes y ml ret p l e R s m args below meth c T k sl h) {a r : Int64} {b : Int32} (hd : decode bytes pc = .ok (.lshr, 1)) (hpc : pc + 1 = pc') (hr : (a >>> (b &&& 0x3f).toInt64) = r) (K : own_G p e below Φ T (mkF m pc' Ls (.long r :: S))) : own_G p e below Φ T (mkF m pc Ls (.int b :: .long a :: S)) := by
  obtain ⟨⟨locs, Y, N⟩, hh, hn, hx, hZ, hby, hml, hown, hnm, hret, hlk⟩ := X
  subst hpc
  exact own_by K fun t kk => XS.lshr Y.here hx rfl (hb hby hd) rfl (hr ▸ kk)
theorem own_lushr (X : own_S Z n0 bytes y ml ret p l e R s m args below meth c T k sl h) {a r : Int64} {b : Int32} (hd : decode bytes pc = .ok (.lushr, 1)) (hpc : pc + 1 = pc') (hr : ((a.toUInt64 >>> (b &&& 0x3f).toInt64.toUInt64).toInt64) = r) (K : own_G p e below Φ T (mkF m pc' Ls (.long r :: S))) : own_G p e below Φ T (mkF m pc Ls (.int b :: .long a :: S)) := by
  obtain ⟨⟨locs, Y, N⟩, hh, hn, hx, hZ, hby, hml, hown, hnm, hret, hlk⟩ := X
  subst hpc
  exact own_by K fun t kk => XS.lushr Y.here hx rfl (hb hby hd) rfl (hr ▸ kk)
theorem own_idiv (X : own_S Z n0 bytes y ml ret p l e R s m args below meth c T k sl h) {a b r : Int32} (hd : decode bytes pc = .ok (.idiv, 1)) (hpc : pc + 1 = pc') (hz : b ≠ 0) (hr : a / b = r) (K : own_G p e below Φ T (mkF m pc' Ls (.int r :: S))) : own_G p e below Φ T (mkF m pc Ls (.int b :: .int a :: S)) := by
  obtain ⟨⟨locs, Y, N⟩, hh, hn, hx, hZ, hby, hml, hown, hnm, hret, hlk⟩ := X
  subst hpc
  exact own_by K fun t kk => XS.idiv Y.here hx rfl (hb hby hd) rfl hz (hr ▸ kk)
theorem own_irem (X : own_S Z n0 bytes y ml ret p l e R s m args below meth c T k sl h) {a b r : Int32} (hd : decode bytes pc = .ok (.irem, 1)) (hpc : pc + 1 = pc') (hz : b ≠ 0) (hr : a - (a / b) * b = r) (K : own_G p e below Φ T (mkF m pc' Ls (.int r :: S))) : own_G p e below Φ T (mkF m pc Ls (.int b :: .int a :: S)) := by
  obtain ⟨⟨locs, Y, N⟩, hh, hn, hx, hZ, hby, hml, hown, hnm, hret, hlk⟩ := X
  subst hpc
  exact own_by K fun t kk => XS.irem Y.here hx rfl (hb hby hd) rfl hz (hr ▸ kk)
theorem own_ldiv (X : own_S Z n0 bytes y ml ret p l e R s m args below meth c T k sl h) {a b r : Int64} (hd : decode bytes pc = .ok (.ldiv, 1)) (hpc : pc + 1 = pc') (hz : b ≠ 0) (hr : a / b = r) (K : own_G p e below Φ T (mkF m pc' Ls (.long r :: S))) : own_G p e below Φ T (mkF m pc Ls (.long b :: .long a :: S)) := by
  obtain ⟨⟨locs, Y, N⟩, hh, hn, hx, hZ, hby, hml, hown, hnm, hret, hlk⟩ := X
  subst hpc
  exact own_by K fun t kk => XS.ldiv Y.here hx rfl (hb hby hd) rfl hz (hr ▸ kk)
theorem own_lrem (X : own_S Z n0 bytes y ml ret p l e R s m args below meth c T k sl h) {a b r : Int64} (hd : decode bytes pc = .ok (.lrem, 1)) (hpc : pc + 1 = pc') (hz : b ≠ 0) (hr : a - (a / b) * b = r) (K : own_G p e below Φ T (mkF m pc' Ls (.long r :: S))) : own_G p e below Φ T (mkF m pc Ls (.long b :: .long a :: S)) := by
  obtain ⟨⟨locs, Y, N⟩, hh, hn, hx, hZ, hby, hml, hown, hnm, hret, hlk⟩ := X
  subst hpc
  exact own_by K fun t kk => XS.lrem Y.here hx rfl (hb hby hd) rfl hz (hr ▸ kk)
theorem own_ineg (X : own_S Z n0 bytes y ml ret p l e R s m args below meth c T k sl h) {a : Int32} {r : Int32} (hd : decode bytes pc = .ok (.ineg, 1)) (hpc : pc + 1 = pc') (hr : -a = r) (K : own_G p e below Φ T (mkF m pc' Ls (.int r :: S))) : own_G p e below Φ T (mkF m pc Ls (.int a :: S)) := by
  obtain ⟨⟨locs, Y, N⟩, hh, hn, hx, hZ, hby, hml, hown, hnm, hret, hlk⟩ := X
  subst hpc
  exact own_by K fun t kk => XS.ineg Y.here hx rfl (hb hby hd) rfl (hr ▸ kk)
theorem own_lneg (X : own_S Z n0 bytes y ml ret p l e R s m args below meth c T k sl h) {a : Int64} {r : Int64} (hd : decode bytes pc = .ok (.lneg, 1)) (hpc : pc + 1 = pc') (hr : -a = r) (K : own_G p e below Φ T (mkF m pc' Ls (.long r :: S))) : own_G p e below Φ T (mkF m pc Ls (.long a :: S)) := by
  obtain ⟨⟨locs, Y, N⟩, hh, hn, hx, hZ, hby, hml, hown, hnm, hret, hlk⟩ := X
  subst hpc
  exact own_by K fun t kk => XS.lneg Y.here hx rfl (hb hby hd) rfl (hr ▸ kk)
theorem own_i2l (X : own_S Z n0 bytes y ml ret p l e R s m args below meth c T k sl h) {a : Int32} {r : Int64} (hd : decode bytes pc = .ok (.i2l, 1)) (hpc : pc + 1 = pc') (hr : a.toInt64 = r) (K : own_G p e below Φ T (mkF m pc' Ls (.long r :: S))) : own_G p e below Φ T (mkF m pc Ls (.int a :: S)) := by
  obtain ⟨⟨locs, Y, N⟩, hh, hn, hx, hZ, hby, hml, hown, hnm, hret, hlk⟩ := X
  subst hpc
  exact own_by K fun t kk => XS.i2l Y.here hx rfl (hb hby hd) rfl (hr ▸ kk)
theorem own_l2i (X : own_S Z n0 bytes y ml ret p l e R s m args below meth c T k sl h) {a : Int64} {r : Int32} (hd : decode bytes pc = .ok (.l2i, 1)) (hpc : pc + 1 = pc') (hr : a.toInt32 = r) (K : own_G p e below Φ T (mkF m pc' Ls (.int r :: S))) : own_G p e below Φ T (mkF m pc Ls (.long a :: S)) := by
  obtain ⟨⟨locs, Y, N⟩, hh, hn, hx, hZ, hby, hml, hown, hnm, hret, hlk⟩ := X
  subst hpc
  exact own_by K fun t kk => XS.l2i Y.here hx rfl (hb hby hd) rfl (hr ▸ kk)
theorem own_i2b (X : own_S Z n0 bytes y ml ret p l e R s m args below meth c T k sl h) {a : Int32} {r : Int32} (hd : decode bytes pc = .ok (.i2b, 1)) (hpc : pc + 1 = pc') (hr : a.toInt8.toInt32 = r) (K : own_G p e below Φ T (mkF m pc' Ls (.int r :: S))) : own_G p e below Φ T (mkF m pc Ls (.int a :: S)) := by
  obtain ⟨⟨locs, Y, N⟩, hh, hn, hx, hZ, hby, hml, hown, hnm, hret, hlk⟩ := X
  subst hpc
  exact own_by K fun t kk => XS.i2b Y.here hx rfl (hb hby hd) rfl (hr ▸ kk)
theorem own_i2s (X : own_S Z n0 bytes y ml ret p l e R s m args below meth c T k sl h) {a : Int32} {r : Int32} (hd : decode bytes pc = .ok (.i2s, 1)) (hpc : pc + 1 = pc') (hr : a.toInt16.toInt32 = r) (K : own_G p e below Φ T (mkF m pc' Ls (.int r :: S))) : own_G p e below Φ T (mkF m pc Ls (.int a :: S)) := by
  obtain ⟨⟨locs, Y, N⟩, hh, hn, hx, hZ, hby, hml, hown, hnm, hret, hlk⟩ := X
  subst hpc
  exact own_by K fun t kk => XS.i2s Y.here hx rfl (hb hby hd) rfl (hr ▸ kk)
theorem own_i2c (X : own_S Z n0 bytes y ml ret p l e R s m args below meth c T k sl h) {a : Int32} {r : Int32} (hd : decode bytes pc = .ok (.i2c, 1)) (hpc : pc + 1 = pc') (hr : a.toUInt32.toUInt16.toUInt32.toInt32 = r) (K : own_G p e below Φ T (mkF m pc' Ls (.int r :: S))) : own_G p e below Φ T (mkF m pc Ls (.int a :: S)) := by
  obtain ⟨⟨locs, Y, N⟩, hh, hn, hx, hZ, hby, hml, hown, hnm, hret, hlk⟩ := X
  subst hpc
  exact own_by K fun t kk => XS.i2c Y.here hx rfl (hb hby hd) rfl (hr ▸ kk)
theorem own_lcmp (X : own_S Z n0 bytes y ml ret p l e R s m args below meth c T k sl h) {a b : Int64} (hd : decode bytes pc = .ok (.lcmp, 1)) (hpc : pc + 1 = pc') (K : own_G p e below Φ T (mkF m pc' Ls (.int (lcmpW a b) :: S))) : own_G p e below Φ T (mkF m pc Ls (.long b :: .long a :: S)) := by
  obtain ⟨⟨locs, Y, N⟩, hh, hn, hx, hZ, hby, hml, hown, hnm, hret, hlk⟩ := X
  subst hpc
  exact own_by K fun t kk => XS.lcmp Y.here hx rfl (hb hby hd) rfl kk
theorem own_iconst (X : own_S Z n0 bytes y ml ret p l e R s m args below meth c T k sl h) {i : Int} {v : Int32} (hd : decode bytes pc = .ok (.iconst i, 1)) (hpc : pc + 1 = pc') (hv : Int32.ofInt i = v) (K : own_G p e below Φ T (mkF m pc' Ls (.int v :: S))) : own_G p e below Φ T (mkF m pc Ls (S)) := by
  obtain ⟨⟨locs, Y, N⟩, hh, hn, hx, hZ, hby, hml, hown, hnm, hret, hlk⟩ := X
  subst hpc
  exact own_by K fun t kk => XS.iconst Y.here hx rfl (hb hby hd) (hv ▸ kk)
theorem own_bipush (X : own_S Z n0 bytes y ml ret p l e R s m args below meth c T k sl h) {i : Int} {v : Int32} (hd : decode bytes pc = .ok (.bipush i, 2)) (hpc : pc + 2 = pc') (hv : (Int8.ofInt i).toInt32 = v) (K : own_G p e below Φ T (mkF m pc' Ls (.int v :: S))) : own_G p e below Φ T (mkF m pc Ls (S)) := by
  obtain ⟨⟨locs, Y, N⟩, hh, hn, hx, hZ, hby, hml, hown, hnm, hret, hlk⟩ := X
  subst hpc
  exact own_by K fun t kk => XS.bipush Y.here hx rfl (hb hby hd) (hv ▸ kk)
theorem own_sipush (X : own_S Z n0 bytes y ml ret p l e R s m args below meth c T k sl h) {i : Int} {v : Int32} (hd : decode bytes pc = .ok (.sipush i, 3)) (hpc : pc + 3 = pc') (hv : (Int16.ofInt i).toInt32 = v) (K : own_G p e below Φ T (mkF m pc' Ls (.int v :: S))) : own_G p e below Φ T (mkF m pc Ls (S)) := by
  obtain ⟨⟨locs, Y, N⟩, hh, hn, hx, hZ, hby, hml, hown, hnm, hret, hlk⟩ := X
  subst hpc
  exact own_by K fun t kk => XS.sipush Y.here hx rfl (hb hby hd) (hv ▸ kk)
theorem own_lconst (X : own_S Z n0 bytes y ml ret p l e R s m args below meth c T k sl h) {i : Fin 2} {v : Int64} (hd : decode bytes pc = .ok (.lconst i, 1)) (hpc : pc + 1 = pc') (hv : Int64.ofNat i = v) (K : own_G p e below Φ T (mkF m pc' Ls (.long v :: S))) : own_G p e below Φ T (mkF m pc Ls (S)) := by
  obtain ⟨⟨locs, Y, N⟩, hh, hn, hx, hZ, hby, hml, hown, hnm, hret, hlk⟩ := X
  subst hpc
  exact own_by K fun t kk => XS.lconst Y.here hx rfl (hb hby hd) (hv ▸ kk)
theorem own_aconst_null (X : own_S Z n0 bytes y ml ret p l e R s m args below meth c T k sl h) (hd : decode bytes pc = .ok (.aconst_null, 1)) (hpc : pc + 1 = pc') (K : own_G p e below Φ T (mkF m pc' Ls (.null :: S))) : own_G p e below Φ T (mkF m pc Ls (S)) := by
  obtain ⟨⟨locs, Y, N⟩, hh, hn, hx, hZ, hby, hml, hown, hnm, hret, hlk⟩ := X
  subst hpc
  exact own_by K fun t kk => XS.aconstNull Y.here hx rfl (hb hby hd) kk
theorem own_iload (X : own_S Z n0 bytes y ml ret p l e R s m args below meth c T k sl h) {i : Nat} {v : Int32} (hd : decode bytes pc = .ok (.iload i, 2)) (hpc : pc + 2 = pc') (hl : Ls[i]? = some (.val (.int v))) (K : own_G p e below Φ T (mkF m pc' Ls (.int v :: S))) : own_G p e below Φ T (mkF m pc Ls (S)) := by
  obtain ⟨⟨locs, Y, N⟩, hh, hn, hx, hZ, hby, hml, hown, hnm, hret, hlk⟩ := X
  subst hpc
  exact own_by K fun t kk => XS.iload Y.here hx rfl (hb hby hd) hl kk
theorem own_iloadN (X : own_S Z n0 bytes y ml ret p l e R s m args below meth c T k sl h) {i : Fin 4} {v : Int32} (hd : decode bytes pc = .ok (.iload_n i, 1)) (hpc : pc + 1 = pc') (hl : Ls[i.val]? = some (.val (.int v))) (K : own_G p e below Φ T (mkF m pc' Ls (.int v :: S))) : own_G p e below Φ T (mkF m pc Ls (S)) := by
  obtain ⟨⟨locs, Y, N⟩, hh, hn, hx, hZ, hby, hml, hown, hnm, hret, hlk⟩ := X
  subst hpc
  exact own_by K fun t kk => XS.iloadN Y.here hx rfl (hb hby hd) hl kk
theorem own_lload (X : own_S Z n0 bytes y ml ret p l e R s m args below meth c T k sl h) {i : Nat} {v : Int64} (hd : decode bytes pc = .ok (.lload i, 2)) (hpc : pc + 2 = pc') (hl : Ls[i]? = some (.val (.long v))) (K : own_G p e below Φ T (mkF m pc' Ls (.long v :: S))) : own_G p e below Φ T (mkF m pc Ls (S)) := by
  obtain ⟨⟨locs, Y, N⟩, hh, hn, hx, hZ, hby, hml, hown, hnm, hret, hlk⟩ := X
  subst hpc
  exact own_by K fun t kk => XS.lload Y.here hx rfl (hb hby hd) hl kk
theorem own_lloadN (X : own_S Z n0 bytes y ml ret p l e R s m args below meth c T k sl h) {i : Fin 4} {v : Int64} (hd : decode bytes pc = .ok (.lload_n i, 1)) (hpc : pc + 1 = pc') (hl : Ls[i.val]? = some (.val (.long v))) (K : own_G p e below Φ T (mkF m pc' Ls (.long v :: S))) : own_G p e below Φ T (mkF m pc Ls (S)) := by
  obtain ⟨⟨locs, Y, N⟩, hh, hn, hx, hZ, hby, hml, hown, hnm, hret, hlk⟩ := X
  subst hpc
  exact own_by K fun t kk => XS.lloadN Y.here hx rfl (hb hby hd) hl kk
theorem own_aload (X : own_S Z n0 bytes y ml ret p l e R s m args below meth c T k sl h) {i : Nat} {v : Value} (hd : decode bytes pc = .ok (.aload i, 2)) (hpc : pc + 2 = pc') (hl : Ls[i]? = some (.val v)) (hv : v.isRef = true) (K : own_G p e below Φ T (mkF m pc' Ls (v :: S))) : own_G p e below Φ T (mkF m pc Ls (S)) := by
  obtain ⟨⟨locs, Y, N⟩, hh, hn, hx, hZ, hby, hml, hown, hnm, hret, hlk⟩ := X
  subst hpc
  exact own_by K fun t kk => XS.aload Y.here hx rfl (hb hby hd) hl hv kk
theorem own_aloadN (X : own_S Z n0 bytes y ml ret p l e R s m args below meth c T k sl h) {i : Fin 4} {v : Value} (hd : decode bytes pc = .ok (.aload_n i, 1)) (hpc : pc + 1 = pc') (hl : Ls[i.val]? = some (.val v)) (hv : v.isRef = true) (K : own_G p e below Φ T (mkF m pc' Ls (v :: S))) : own_G p e below Φ T (mkF m pc Ls (S)) := by
  obtain ⟨⟨locs, Y, N⟩, hh, hn, hx, hZ, hby, hml, hown, hnm, hret, hlk⟩ := X
  subst hpc
  exact own_by K fun t kk => XS.aloadN Y.here hx rfl (hb hby hd) hl hv kk
theorem own_dup (X : own_S Z n0 bytes y ml ret p l e R s m args below meth c T k sl h) {v : Value} (hd : decode bytes pc = .ok (.dup, 1)) (hpc : pc + 1 = pc') (hv : v.category = 1) (K : own_G p e below Φ T (mkF m pc' Ls (v :: v :: S))) : own_G p e below Φ T (mkF m pc Ls (v :: S)) := by
  obtain ⟨⟨locs, Y, N⟩, hh, hn, hx, hZ, hby, hml, hown, hnm, hret, hlk⟩ := X
  subst hpc
  exact own_by K fun t kk => XS.dup Y.here hx rfl (hb hby hd) rfl hv kk
theorem own_dup2 (X : own_S Z n0 bytes y ml ret p l e R s m args below meth c T k sl h) {v w : Value} (hd : decode bytes pc = .ok (.dup2, 1)) (hpc : pc + 1 = pc') (hv : v.category = 1) (hw : w.category = 1) (K : own_G p e below Φ T (mkF m pc' Ls (v :: w :: v :: w :: S))) : own_G p e below Φ T (mkF m pc Ls (v :: w :: S)) := by
  obtain ⟨⟨locs, Y, N⟩, hh, hn, hx, hZ, hby, hml, hown, hnm, hret, hlk⟩ := X
  subst hpc
  exact own_by K fun t kk => XT.dup2 Y.here hx rfl (hb hby hd) rfl hv hw kk
theorem own_pop (X : own_S Z n0 bytes y ml ret p l e R s m args below meth c T k sl h) {v : Value} (hd : decode bytes pc = .ok (.pop, 1)) (hpc : pc + 1 = pc') (hv : v.category = 1) (K : own_G p e below Φ T (mkF m pc' Ls (S))) : own_G p e below Φ T (mkF m pc Ls (v :: S)) := by
  obtain ⟨⟨locs, Y, N⟩, hh, hn, hx, hZ, hby, hml, hown, hnm, hret, hlk⟩ := X
  subst hpc
  exact own_by K fun t kk => XS.pop Y.here hx rfl (hb hby hd) rfl hv kk
theorem own_istore (X : own_S Z n0 bytes y ml ret p l e R s m args below meth c T k sl h) {i : Nat} {v : Int32} (hd : decode bytes pc = .ok (.istore i, 2)) (hpc : pc + 2 = pc') (hl : storeLocals Ls i (.int v) = some Ls') (K : own_G p e below Φ T (mkF m pc' Ls' S)) : own_G p e below Φ T (mkF m pc Ls (.int v :: S)) := by
  obtain ⟨⟨locs, Y, N⟩, hh, hn, hx, hZ, hby, hml, hown, hnm, hret, hlk⟩ := X
  subst hpc
  exact own_by K fun t kk => XS.istore Y.here hx rfl (hb hby hd) rfl hl kk
theorem own_istoreN (X : own_S Z n0 bytes y ml ret p l e R s m args below meth c T k sl h) {i : Fin 4} {v : Int32} (hd : decode bytes pc = .ok (.istore_n i, 1)) (hpc : pc + 1 = pc') (hl : storeLocals Ls i.val (.int v) = some Ls') (K : own_G p e below Φ T (mkF m pc' Ls' S)) : own_G p e below Φ T (mkF m pc Ls (.int v :: S)) := by
  obtain ⟨⟨locs, Y, N⟩, hh, hn, hx, hZ, hby, hml, hown, hnm, hret, hlk⟩ := X
  subst hpc
  exact own_by K fun t kk => XS.istoreN Y.here hx rfl (hb hby hd) rfl hl kk
theorem own_lstore (X : own_S Z n0 bytes y ml ret p l e R s m args below meth c T k sl h) {i : Nat} {v : Int64} (hd : decode bytes pc = .ok (.lstore i, 2)) (hpc : pc + 2 = pc') (hl : storeLocals Ls i (.long v) = some Ls') (K : own_G p e below Φ T (mkF m pc' Ls' S)) : own_G p e below Φ T (mkF m pc Ls (.long v :: S)) := by
  obtain ⟨⟨locs, Y, N⟩, hh, hn, hx, hZ, hby, hml, hown, hnm, hret, hlk⟩ := X
  subst hpc
  exact own_by K fun t kk => XS.lstore Y.here hx rfl (hb hby hd) rfl hl kk
theorem own_lstoreN (X : own_S Z n0 bytes y ml ret p l e R s m args below meth c T k sl h) {i : Fin 4} {v : Int64} (hd : decode bytes pc = .ok (.lstore_n i, 1)) (hpc : pc + 1 = pc') (hl : storeLocals Ls i.val (.long v) = some Ls') (K : own_G p e below Φ T (mkF m pc' Ls' S)) : own_G p e below Φ T (mkF m pc Ls (.long v :: S)) := by
  obtain ⟨⟨locs, Y, N⟩, hh, hn, hx, hZ, hby, hml, hown, hnm, hret, hlk⟩ := X
  subst hpc
  exact own_by K fun t kk => XS.lstoreN Y.here hx rfl (hb hby hd) rfl hl kk
theorem own_astore (X : own_S Z n0 bytes y ml ret p l e R s m args below meth c T k sl h) {i : Nat} {v : Value} (hd : decode bytes pc = .ok (.astore i, 2)) (hpc : pc + 2 = pc') (hv : v.isRef = true) (hl : storeLocals Ls i (v) = some Ls') (K : own_G p e below Φ T (mkF m pc' Ls' S)) : own_G p e below Φ T (mkF m pc Ls (v :: S)) := by
  obtain ⟨⟨locs, Y, N⟩, hh, hn, hx, hZ, hby, hml, hown, hnm, hret, hlk⟩ := X
  subst hpc
  exact own_by K fun t kk => XS.astore Y.here hx rfl (hb hby hd) rfl hv hl kk
theorem own_astoreN (X : own_S Z n0 bytes y ml ret p l e R s m args below meth c T k sl h) {i : Fin 4} {v : Value} (hd : decode bytes pc = .ok (.astore_n i, 1)) (hpc : pc + 1 = pc') (hv : v.isRef = true) (hl : storeLocals Ls i.val (v) = some Ls') (K : own_G p e below Φ T (mkF m pc' Ls' S)) : own_G p e below Φ T (mkF m pc Ls (v :: S)) := by
  obtain ⟨⟨locs, Y, N⟩, hh, hn, hx, hZ, hby, hml, hown, hnm, hret, hlk⟩ := X
  subst hpc
  exact own_by K fun t kk => XS.astoreN Y.here hx rfl (hb hby hd) rfl hv hl kk
theorem own_iinc (X : own_S Z n0 bytes y ml ret p l e R s m args below meth c T k sl h) {i : Nat} {cst : Int} {v : Int32} (hd : decode bytes pc = .ok (.iinc i cst, 3)) (hpc : pc + 3 = pc') (hl : Ls[i]? = some (.val (.int v))) {w : Int32} (hw : v + Int32.ofInt cst = w) (hs : storeLocals Ls i (.int w) = some Ls') (K : own_G p e below Φ T (mkF m pc' Ls' S)) : own_G p e below Φ T (mkF m pc Ls S) := by
  obtain ⟨⟨locs, Y, N⟩, hh, hn, hx, hZ, hby, hml, hown, hnm, hret, hlk⟩ := X
  subst hpc
  exact own_by K fun t kk => XS.iinc Y.here hx rfl (hb hby hd) hl (hw ▸ hs) kk
theorem own_goto (X : own_S Z n0 bytes y ml ret p l e R s m args below meth c T k sl h) {o : Int} (hd : decode bytes pc = .ok (.goto o, 3)) (ho : 0 ≤ (pc : Int) + o) (hp : ((pc : Int) + o).toNat = pc') (K : own_G p e below Φ T (mkF m pc' Ls S)) : own_G p e below Φ T (mkF m pc Ls S) := by
  obtain ⟨⟨locs, Y, N⟩, hh, hn, hx, hZ, hby, hml, hown, hnm, hret, hlk⟩ := X
  exact own_by K fun t kk => XS.goto Y.here hx rfl rfl (hb hby hd) ho hp kk
theorem own_icmp_eq (X : own_S Z n0 bytes y ml ret p l e R s m args below meth c T k sl h) {o : Int} {a b : Int32} {pct : Nat} (hd : decode bytes pc = .ok (.if_icmp .eq o, 3)) (hpc : pc + 3 = pc') (ho : 0 ≤ (pc : Int) + o) (hp : ((pc : Int) + o).toNat = pct) (Ky : a = b → own_G p e below Φ T (mkF m pct Ls S)) (Kn : ¬ a = b → own_G p e below Φ T (mkF m pc' Ls S)) : own_G p e below Φ T (mkF m pc Ls (.int b :: .int a :: S)) := by
  obtain ⟨⟨locs, Y, N⟩, hh, hn, hx, hZ, hby, hml, hown, hnm, hret, hlk⟩ := X
  subst hpc
  by_cases hc : a = b
  · exact own_by (Ky hc) fun t kk => XS.icmpYes Y.here hx rfl rfl (hb hby hd) rfl (teq hc).1 ho hp kk
  · exact own_by (Kn hc) fun t kk => XS.icmpNo Y.here hx rfl (hb hby hd) rfl (feq hc).1 kk
theorem own_if_eq (X : own_S Z n0 bytes y ml ret p l e R s m args below meth c T k sl h) {o : Int} {a : Int32} {pct : Nat} (hd : decode bytes pc = .ok (.ifCond .eq o, 3)) (hpc : pc + 3 = pc') (ho : 0 ≤ (pc : Int) + o) (hp : ((pc : Int) + o).toNat = pct) (Ky : a = 0 → own_G p e below Φ T (mkF m pct Ls S)) (Kn : ¬ a = 0 → own_G p e below Φ T (mkF m pc' Ls S)) : own_G p e below Φ T (mkF m pc Ls (.int a :: S)) := by
  obtain ⟨⟨locs, Y, N⟩, hh, hn, hx, hZ, hby, hml, hown, hnm, hret, hlk⟩ := X
  subst hpc
  by_cases hc : a = 0
  · exact own_by (Ky hc) fun t kk => XS.ifYes Y.here hx rfl rfl (hb hby hd) rfl ((if0 _ _).trans (teq hc).1) ho hp kk
  · exact own_by (Kn hc) fun t kk => XS.ifNo Y.here hx rfl (hb hby hd) rfl ((if0 _ _).trans (feq hc).1) kk
theorem own_icmp_ne (X : own_S Z n0 bytes y ml ret p l e R s m args below meth c T k sl h) {o : Int} {a b : Int32} {pct : Nat} (hd : decode bytes pc = .ok (.if_icmp .ne o, 3)) (hpc : pc + 3 = pc') (ho : 0 ≤ (pc : Int) + o) (hp : ((pc : Int) + o).toNat = pct) (Ky : ¬ a = b → own_G p e below Φ T (mkF m pct Ls S)) (Kn : a = b → own_G p e below Φ T (mkF m pc' Ls S)) : own_G p e below Φ T (mkF m pc Ls (.int b :: .int a :: S)) := by
  obtain ⟨⟨locs, Y, N⟩, hh, hn, hx, hZ, hby, hml, hown, hnm, hret, hlk⟩ := X
  subst hpc
  by_cases hc : ¬ a = b
  · exact own_by (Ky hc) fun t kk => XS.icmpYes Y.here hx rfl rfl (hb hby hd) rfl (feq hc).2 ho hp kk
  · replace hc := Decidable.not_not.mp hc; exact own_by (Kn hc) fun t kk => XS.icmpNo Y.here hx rfl (hb hby hd) rfl (teq hc).2 kk
theorem own_if_ne (X : own_S Z n0 bytes y ml ret p l e R s m args below meth c T k sl h) {o : Int} {a : Int32} {pct : Nat} (hd : decode bytes pc = .ok (.ifCond .ne o, 3)) (hpc : pc + 3 = pc') (ho : 0 ≤ (pc : Int) + o) (hp : ((pc : Int) + o).toNat = pct) (Ky : ¬ a = 0 → own_G p e below Φ T (mkF m pct Ls S)) (Kn : a = 0 → own_G p e below Φ T (mkF m pc' Ls S)) : own_G p e below Φ T (mkF m pc Ls (.int a :: S)) := by
  obtain ⟨⟨locs, Y, N⟩, hh, hn, hx, hZ, hby, hml, hown, hnm, hret, hlk⟩ := X
  subst hpc
  by_cases hc : ¬ a = 0
  · exact own_by (Ky hc) fun t kk => XS.ifYes Y.here hx rfl rfl (hb hby hd) rfl ((if0 _ _).trans (feq hc).2) ho hp kk
  · replace hc := Decidable.not_not.mp hc; exact own_by (Kn hc) fun t kk => XS.ifNo Y.here hx rfl (hb hby hd) rfl ((if0 _ _).trans (teq hc).2) kk
theorem own_icmp_lt (X : own_S Z n0 bytes y ml ret p l e R s m args below meth c T k sl h) {o : Int} {a b : Int32} {pct : Nat} (hd : decode bytes pc = .ok (.if_icmp .lt o, 3)) (hpc : pc + 3 = pc') (ho : 0 ≤ (pc : Int) + o) (hp : ((pc : Int) + o).toNat = pct) (Ky : a < b → own_G p e below Φ T (mkF m pct Ls S)) (Kn : ¬ a < b → own_G p e below Φ T (mkF m pc' Ls S)) : own_G p e below Φ T (mkF m pc Ls (.int b :: .int a :: S)) := by
  obtain ⟨⟨locs, Y, N⟩, hh, hn, hx, hZ, hby, hml, hown, hnm, hret, hlk⟩ := X
  subst hpc
  by_cases hc : a < b
  · exact own_by (Ky hc) fun t kk => XS.icmpYes Y.here hx rfl rfl (hb hby hd) rfl (tlt hc).1 ho hp kk
  · exact own_by (Kn hc) fun t kk => XS.icmpNo Y.here hx rfl (hb hby hd) rfl (flt hc).1 kk
theorem own_if_lt (X : own_S Z n0 bytes y ml ret p l e R s m args below meth c T k sl h) {o : Int} {a : Int32} {pct : Nat} (hd : decode bytes pc = .ok (.ifCond .lt o, 3)) (hpc : pc + 3 = pc') (ho : 0 ≤ (pc : Int) + o) (hp : ((pc : Int) + o).toNat = pct) (Ky : a < 0 → own_G p e below Φ T (mkF m pct Ls S)) (Kn : ¬ a < 0 → own_G p e below Φ T (mkF m pc' Ls S)) : own_G p e below Φ T (mkF m pc Ls (.int a :: S)) := by
  obtain ⟨⟨locs, Y, N⟩, hh, hn, hx, hZ, hby, hml, hown, hnm, hret, hlk⟩ := X
  subst hpc
  by_cases hc : a < 0
  · exact own_by (Ky hc) fun t kk => XS.ifYes Y.here hx rfl rfl (hb hby hd) rfl ((if0 _ _).trans (tlt hc).1) ho hp kk
  · exact own_by (Kn hc) fun t kk => XS.ifNo Y.here hx rfl (hb hby hd) rfl ((if0 _ _).trans (flt hc).1) kk
theorem own_icmp_ge (X : own_S Z n0 bytes y ml ret p l e R s m args below meth c T k sl h) {o : Int} {a b : Int32} {pct : Nat} (hd : decode bytes pc = .ok (.if_icmp .ge o, 3)) (hpc : pc + 3 = pc') (ho : 0 ≤ (pc : Int) + o) (hp : ((pc : Int) + o).toNat = pct) (Ky : ¬ a < b → own_G p e below Φ T (mkF m pct Ls S)) (Kn : a < b → own_G p e below Φ T (mkF m pc' Ls S)) : own_G p e below Φ T (mkF m pc Ls (.int b :: .int a :: S)) := by
  obtain ⟨⟨locs, Y, N⟩, hh, hn, hx, hZ, hby, hml, hown, hnm, hret, hlk⟩ := X
  subst hpc
  by_cases hc : ¬ a < b
  · exact own_by (Ky hc) fun t kk => XS.icmpYes Y.here hx rfl rfl (hb hby hd) rfl (flt hc).2.1 ho hp kk
  · replace hc := Decidable.not_not.mp hc; exact own_by (Kn hc) fun t kk => XS.icmpNo Y.here hx rfl (hb hby hd) rfl (tlt hc).2.1 kk
theorem own_if_ge (X : own_S Z n0 bytes y ml ret p l e R s m args below meth c T k sl h) {o : Int} {a : Int32} {pct : Nat} (hd : decode bytes pc = .ok (.ifCond .ge o, 3)) (hpc : pc + 3 = pc') (ho : 0 ≤ (pc : Int) + o) (hp : ((pc : Int) + o).toNat = pct) (Ky : ¬ a < 0 → own_G p e below Φ T (mkF m pct Ls S)) (Kn : a < 0 → own_G p e below Φ T (mkF m pc' Ls S)) : own_G p e below Φ T (mkF m pc Ls (.int a :: S)) := by
  obtain ⟨⟨locs, Y, N⟩, hh, hn, hx, hZ, hby, hml, hown, hnm, hret, hlk⟩ := X
  subst hpc
  by_cases hc : ¬ a < 0
  · exact own_by (Ky hc) fun t kk => XS.ifYes Y.here hx rfl rfl (hb hby hd) rfl ((if0 _ _).trans (flt hc).2.1) ho hp kk
  · replace hc := Decidable.not_not.mp hc; exact own_by (Kn hc) fun t kk => XS.ifNo Y.here hx rfl (hb hby hd) rfl ((if0 _ _).trans (tlt hc).2.1) kk
theorem own_icmp_gt (X : own_S Z n0 bytes y ml ret p l e R s m args below meth c T k sl h) {o : Int} {a b : Int32} {pct : Nat} (hd : decode bytes pc = .ok (.if_icmp .gt o, 3)) (hpc : pc + 3 = pc') (ho : 0 ≤ (pc : Int) + o) (hp : ((pc : Int) + o).toNat = pct) (Ky : b < a → own_G p e below Φ T (mkF m pct Ls S)) (Kn : ¬ b < a → own_G p e below Φ T (mkF m pc' Ls S)) : own_G p e below Φ T (mkF m pc Ls (.int b :: .int a :: S)) := by
  obtain ⟨⟨locs, Y, N⟩, hh, hn, hx, hZ, hby, hml, hown, hnm, hret, hlk⟩ := X
  subst hpc
  by_cases hc : b < a
  · exact own_by (Ky hc) fun t kk => XS.icmpYes Y.here hx rfl rfl (hb hby hd) rfl (tlt hc).2.2.1 ho hp kk
  · exact own_by (Kn hc) fun t kk => XS.icmpNo Y.here hx rfl (hb hby hd) rfl (flt hc).2.2.1 kk
theorem own_if_gt (X : own_S Z n0 bytes y ml ret p l e R s m args below meth c T k sl h) {o : Int} {a : Int32} {pct : Nat} (hd : decode bytes pc = .ok (.ifCond .gt o, 3)) (hpc : pc + 3 = pc') (ho : 0 ≤ (pc : Int) + o) (hp : ((pc : Int) + o).toNat = pct) (Ky : 0 < a → own_G p e below Φ T (mkF m pct Ls S)) (Kn : ¬ 0 < a → own_G p e below Φ T (mkF m pc' Ls S)) : own_G p e below Φ T (mkF m pc Ls (.int a :: S)) := by
  obtain ⟨⟨locs, Y, N⟩, hh, hn, hx, hZ, hby, hml, hown, hnm, hret, hlk⟩ := X
  subst hpc
  by_cases hc : 0 < a
  · exact own_by (Ky hc) fun t kk => XS.ifYes Y.here hx rfl rfl (hb hby hd) rfl ((if0 _ _).trans (tlt hc).2.2.1) ho hp kk
  · exact own_by (Kn hc) fun t kk => XS.ifNo Y.here hx rfl (hb hby hd) rfl ((if0 _ _).trans (flt hc).2.2.1) kk
theorem own_icmp_le (X : own_S Z n0 bytes y ml ret p l e R s m args below meth c T k sl h) {o : Int} {a b : Int32} {pct : Nat} (hd : decode bytes pc = .ok (.if_icmp .le o, 3)) (hpc : pc + 3 = pc') (ho : 0 ≤ (pc : Int) + o) (hp : ((pc : Int) + o).toNat = pct) (Ky : ¬ b < a → own_G p e below Φ T (mkF m pct Ls S)) (Kn : b < a → own_G p e below Φ T (mkF m pc' Ls S)) : own_G p e below Φ T (mkF m pc Ls (.int b :: .int a :: S)) := by
  obtain ⟨⟨locs, Y, N⟩, hh, hn, hx, hZ, hby, hml, hown, hnm, hret, hlk⟩ := X
  subst hpc
  by_cases hc : ¬ b < a
  · exact own_by (Ky hc) fun t kk => XS.icmpYes Y.here hx rfl rfl (hb hby hd) rfl (flt hc).2.2.2 ho hp kk
  · replace hc := Decidable.not_not.mp hc; exact own_by (Kn hc) fun t kk => XS.icmpNo Y.here hx rfl (hb hby hd) rfl (tlt hc).2.2.2 kk
theorem own_if_le (X : own_S Z n0 bytes y ml ret p l e R s m args below meth c T k sl h) {o : Int} {a : Int32} {pct : Nat} (hd : decode bytes pc = .ok (.ifCond .le o, 3)) (hpc : pc + 3 = pc') (ho : 0 ≤ (pc : Int) + o) (hp : ((pc : Int) + o).toNat = pct) (Ky : ¬ 0 < a → own_G p e below Φ T (mkF m pct Ls S)) (Kn : 0 < a → own_G p e below Φ T (mkF m pc' Ls S)) : own_G p e below Φ T (mkF m pc Ls (.int a :: S)) := by
  obtain ⟨⟨locs, Y, N⟩, hh, hn, hx, hZ, hby, hml, hown, hnm, hret, hlk⟩ := X
  subst hpc
  by_cases hc : ¬ 0 < a
  · exact own_by (Ky hc) fun t kk => XS.ifYes Y.here hx rfl rfl (hb hby hd) rfl ((if0 _ _).trans (flt hc).2.2.2) ho hp kk
  · replace hc := Decidable.not_not.mp hc; exact own_by (Kn hc) fun t kk => XS.ifNo Y.here hx rfl (hb hby hd) rfl ((if0 _ _).trans (tlt hc).2.2.2) kk
theorem own_ifl_eq (X : own_S Z n0 bytes y ml ret p l e R s m args below meth c T k sl h) {o : Int} {a b : Int64} {pct : Nat} (hd : decode bytes pc = .ok (.ifCond .eq o, 3)) (hpc : pc + 3 = pc') (ho : 0 ≤ (pc : Int) + o) (hp : ((pc : Int) + o).toNat = pct) (Ky : a = b → own_G p e below Φ T (mkF m pct Ls S)) (Kn : ¬ a = b → own_G p e below Φ T (mkF m pc' Ls S)) : own_G p e below Φ T (mkF m pc Ls (.int (lcmpW a b) :: S)) :=
  own_if_eq X hd hpc ho hp (fun q => Ky ((lw_eq a b).mp q)) (fun q => Kn (fun r => q ((lw_eq a b).mpr r)))
theorem own_ifl_ne (X : own_S Z n0 bytes y ml ret p l e R s m args below meth c T k sl h) {o : Int} {a b : Int64} {pct : Nat} (hd : decode bytes pc = .ok (.ifCond .ne o, 3)) (hpc : pc + 3 = pc') (ho : 0 ≤ (pc : Int) + o) (hp : ((pc : Int) + o).toNat = pct) (Ky : ¬ a = b → own_G p e below Φ T (mkF m pct Ls S)) (Kn : a = b → own_G p e below Φ T (mkF m pc' Ls S)) : own_G p e below Φ T (mkF m pc Ls (.int (lcmpW a b) :: S)) :=
  own_if_ne X hd hpc ho hp (fun q => Ky (fun r => q ((lw_eq a b).mpr r))) (fun q => Kn ((lw_eq a b).mp q))
theorem own_ifl_lt (X : own_S Z n0 bytes y ml ret p l e R s m args below meth c T k sl h) {o : Int} {a b : Int64} {pct : Nat} (hd : decode bytes pc = .ok (.ifCond .lt o, 3)) (hpc : pc + 3 = pc') (ho : 0 ≤ (pc : Int) + o) (hp : ((pc : Int) + o).toNat = pct) (Ky : a < b → own_G p e below Φ T (mkF m pct Ls S)) (Kn : ¬ a < b → own_G p e below Φ T (mkF m pc' Ls S)) : own_G p e below Φ T (mkF m pc Ls (.int (lcmpW a b) :: S)) :=
  own_if_lt X hd hpc ho hp (fun q => Ky ((lw_lt a b).mp q)) (fun q => Kn (fun r => q ((lw_lt a b).mpr r)))
theorem own_ifl_ge (X : own_S Z n0 bytes y ml ret p l e R s m args below meth c T k sl h) {o : Int} {a b : Int64} {pct : Nat} (hd : decode bytes pc = .ok (.ifCond .ge o, 3)) (hpc : pc + 3 = pc') (ho : 0 ≤ (pc : Int) + o) (hp : ((pc : Int) + o).toNat = pct) (Ky : ¬ a < b → own_G p e below Φ T (mkF m pct Ls S)) (Kn : a < b → own_G p e below Φ T (mkF m pc' Ls S)) : own_G p e below Φ T (mkF m pc Ls (.int (lcmpW a b) :: S)) :=
  own_if_ge X hd hpc ho hp (fun q => Ky (fun r => q ((lw_lt a b).mpr r))) (fun q => Kn ((lw_lt a b).mp q))
theorem own_ifl_gt (X : own_S Z n0 bytes y ml ret p l e R s m args below meth c T k sl h) {o : Int} {a b : Int64} {pct : Nat} (hd : decode bytes pc = .ok (.ifCond .gt o, 3)) (hpc : pc + 3 = pc') (ho : 0 ≤ (pc : Int) + o) (hp : ((pc : Int) + o).toNat = pct) (Ky : b < a → own_G p e below Φ T (mkF m pct Ls S)) (Kn : ¬ b < a → own_G p e below Φ T (mkF m pc' Ls S)) : own_G p e below Φ T (mkF m pc Ls (.int (lcmpW a b) :: S)) :=
  own_if_gt X hd hpc ho hp (fun q => Ky ((lw_gt a b).mp q)) (fun q => Kn (fun r => q ((lw_gt a b).mpr r)))
theorem own_ifl_le (X : own_S Z n0 bytes y ml ret p l e R s m args below meth c T k sl h) {o : Int} {a b : Int64} {pct : Nat} (hd : decode bytes pc = .ok (.ifCond .le o, 3)) (hpc : pc + 3 = pc') (ho : 0 ≤ (pc : Int) + o) (hp : ((pc : Int) + o).toNat = pct) (Ky : ¬ b < a → own_G p e below Φ T (mkF m pct Ls S)) (Kn : b < a → own_G p e below Φ T (mkF m pc' Ls S)) : own_G p e below Φ T (mkF m pc Ls (.int (lcmpW a b) :: S)) :=
  own_if_le X hd hpc ho hp (fun q => Ky (fun r => q ((lw_gt a b).mpr r))) (fun q => Kn ((lw_gt a b).mp q))
theorem own_ldc {i : Nat} {v : Int32} (X : own_S Z n0 bytes y ml ret p l e R s m args below meth c T k sl h) (hw : (Jvm.Cond.constant y.cls i v).before a0 Z = true) (hd : decode bytes pc = .ok (.ldc i, 2)) (hpc : pc + 2 = pc') (K : own_G p e below Φ T (mkF m pc' Ls (.int v :: S))) : own_G p e below Φ T (mkF m pc Ls S) := by
  obtain ⟨⟨locs, Y, N⟩, hh, hn, hx, hZ, hby, hml, hown, hnm, hret, hlk⟩ := X
  subst hpc
  exact own_by K fun t kk => Y.ldcInt hx hown (mvT hZ hw) (g := mkF m pc Ls S) rfl (hb hby hd) t kk
theorem own_ldc2 {i : Nat} {v : Int64} (X : own_S Z n0 bytes y ml ret p l e R s m args below meth c T k sl h) (hw : (Jvm.Cond.constantLong y.cls i v).before a0 Z = true) (hd : decode bytes pc = .ok (.ldc2_w i, 3)) (hpc : pc + 3 = pc') (K : own_G p e below Φ T (mkF m pc' Ls (.long v :: S))) : own_G p e below Φ T (mkF m pc Ls S) := by
  obtain ⟨⟨locs, Y, N⟩, hh, hn, hx, hZ, hby, hml, hown, hnm, hret, hlk⟩ := X
  subst hpc
  exact own_by K fun t kk => Y.ldc2Long hx hown (mvT hZ hw) (g := mkF m pc Ls S) rfl (hb hby hd) t kk
theorem own_ret {w' : Option Value} {Θ : Heap → Prop} {w : Value} {t : FieldType} {i : Instr} (X : own_S Z n0 bytes y ml (some t) p l e R s m args below meth c T k sl h)
    (hd : decode bytes pc = .ok (i, 1)) (hi : (i = .ireturn ∧ (t = .int ∨ t = .boolean ∨ t = .byte ∨ t = .char ∨ t = .short) ∧ ∃ z, w = .int z) ∨ (i = .lreturn ∧ t = .long ∧ ∃ z, w = .long z) ∨ (i = .dreturn ∧ t = .double ∧ ∃ z, w = .double z) ∨ (i = .freturn ∧ t = .float ∧ ∃ z, w = .float z) ∨ (i = .areturn ∧ t.isReference = true ∧ w.isRef = true))
    (hnw : narrow t w = w) (hk : k ≤ R.cells) (hs : sl ≤ R.slots) (hw : some w = w') (hΘ : Θ h) : own_G p e below (own_Q n0 below s R w' Θ) T (mkF m pc Ls (w :: S)) := by
  obtain ⟨⟨locs, Y, N⟩, hh, hn, hx, hZ, hby, hml, hown, hnm, hret, hlk⟩ := X
  obtain ⟨fs, hr, hrun, hended, hW, hsame⟩ := Y.leave (v := some w) (fun h => by rw [hret] at h; cases h) hlk
  refine ⟨_, _, retOut Y hx hret hnw hi (hb hby hd) hr, hrun, hended, _, _, rfl, ⟨⟨hw, ?_⟩, N⟩, ⟨_, rfl⟩, hW, hsame.mono hk hs⟩
  show Θ T.heap
  rw [hh]; exact hΘ
theorem own_retV {w' : Option Value} {Θ : Heap → Prop} (X : own_S Z n0 bytes y ml none p l e R s m args below meth c T k sl h)
    (hd : decode bytes pc = .ok (.return_, 1)) (hk : k ≤ R.cells) (hs : sl ≤ R.slots) (hw : none = w') (hΘ : Θ h) : own_G p e below (own_Q n0 below s R w' Θ) T (mkF m pc Ls []) := by
  obtain ⟨⟨locs, Y, N⟩, hh, hn, hx, hZ, hby, hml, hown, hnm, hret, hlk⟩ := X
  obtain ⟨fs, hr, hrun, hended, hW, hsame⟩ := Y.leave (v := none) (fun _ => rfl) hlk
  refine ⟨_, _, Y.returnOut hx hret (hb hby hd) hr, hrun, hended, _, _, rfl, ⟨⟨hw, ?_⟩, N⟩, ⟨_, rfl⟩, hW, hsame.mono hk hs⟩
  show Θ T.heap
  rw [hh]; exact hΘ
theorem own_retZ {w' : Option Value} {Θ : Heap → Prop} {z : Int32} (X : own_S Z n0 bytes y ml (some .boolean) p l e R s m args below meth c T k sl h) (hd : decode bytes pc = .ok (.ireturn, 1)) (hz : z &&& 1 = z) (hk : k ≤ R.cells) (hs : sl ≤ R.slots) (hw : some (.int z) = w') (hΘ : Θ h) : own_G p e below (own_Q n0 below s R w' Θ) T (mkF m pc Ls (.int z :: S)) :=
  own_ret X hd (Or.inl ⟨rfl, by simp, _, rfl⟩) (by simp [narrow, hz]) hk hs hw hΘ
theorem own_retI {w' : Option Value} {Θ : Heap → Prop} {z : Int32} (X : own_S Z n0 bytes y ml (some .int) p l e R s m args below meth c T k sl h) (hd : decode bytes pc = .ok (.ireturn, 1)) (hk : k ≤ R.cells) (hs : sl ≤ R.slots) (hw : some (.int z) = w') (hΘ : Θ h) : own_G p e below (own_Q n0 below s R w' Θ) T (mkF m pc Ls (.int z :: S)) :=
  own_ret X hd (Or.inl ⟨rfl, by simp, _, rfl⟩) rfl hk hs hw hΘ
theorem own_retB {w' : Option Value} {Θ : Heap → Prop} {z : Int32} (X : own_S Z n0 bytes y ml (some .byte) p l e R s m args below meth c T k sl h) (hd : decode bytes pc = .ok (.ireturn, 1)) (hz : z.toInt8.toInt32 = z) (hk : k ≤ R.cells) (hs : sl ≤ R.slots) (hw : some (.int z) = w') (hΘ : Θ h) : own_G p e below (own_Q n0 below s R w' Θ) T (mkF m pc Ls (.int z :: S)) :=
  own_ret X hd (Or.inl ⟨rfl, by simp, _, rfl⟩) (by simp [narrow, hz]) hk hs hw hΘ
theorem own_retL {w' : Option Value} {Θ : Heap → Prop} {z : Int64} (X : own_S Z n0 bytes y ml (some .long) p l e R s m args below meth c T k sl h) (hd : decode bytes pc = .ok (.lreturn, 1)) (hk : k ≤ R.cells) (hs : sl ≤ R.slots) (hw : some (.long z) = w') (hΘ : Θ h) : own_G p e below (own_Q n0 below s R w' Θ) T (mkF m pc Ls (.long z :: S)) :=
  own_ret X hd (Or.inr (Or.inl ⟨rfl, rfl, _, rfl⟩)) rfl hk hs hw hΘ
theorem own_callS {z : MethodName} {cb : ByteArray} {cml : Nat} {cret : Option FieldType} {crm : Room} {i : Nat} {argsL rest S' : List Value} {w : Option Value} {Θ : Heap → Prop} (X : own_S Z n0 bytes y ml ret p l e R s m args below meth c T k sl h) (M : own_Met l z cb cml cret crm Z n0 argsL.toArray h w Θ)
    (w1 : (Jvm.Cond.methodLink y.cls i z).before a0 Z = true) (w2 : (Jvm.Cond.static z).before a0 Z = true) (w3 : (Jvm.Cond.initialized z.cls).before a0 Z = true) (w4 : (Jvm.Cond.code z cb cml cret).before a0 Z = true) (hz : z.cls ≠ "java/lang/invoke/MethodHandle" ∧ z.cls ≠ "java/lang/invoke/VarHandle")
    {W : Nat} (hf : crm.frames + 1 ≤ R.frames) (hl : W + (cml + 11) + crm.locals ≤ R.locals) (hc0 : crm.cells = 0) (hs0 : crm.slots = 0) (hc : k ≤ R.cells) (hs : sl ≤ R.slots)
    (hlen : ∀ sig, parseMethodDescriptor z.desc = some sig → argsL.length = sig.parameters.length) (hst : S = argsL.reverse ++ rest) (hW : 2 * 0 + (rest.map fun v => v.category).sum ≤ W) (hsz : Ls.size = ml)
    (hd : decode bytes pc = .ok (.invokestatic i, 3)) (hpc : pc + 3 = pc')
    (hS' : w.toList ++ rest = S') (K : ∀ T' h', own_S Z n0 bytes y ml ret p l e R s m args below meth c T' k sl h' → Θ h' → own_G p e below Φ T' (mkF m pc' Ls S')) : own_G p e below Φ T (mkF m pc Ls S) := by
  obtain ⟨⟨locs, Y, N⟩, hh, hn, hx, hZ, hby, hml, hown, hnm, hret, hlk⟩ := X
  subst hpc
  obtain ⟨v, _, ⟨T', L', k', n'⟩, -, X', ⟨Lc, hQ, l1, y1, z1⟩, st⟩ := Jvm.LawKit.callS Y hx (y := z) hown (mvT hZ w1) (mvT hZ w2) (mvT hZ w3) (mvT hZ w4) hz (backOf (W := W) (Q := fun v h' L => (v = w ∧ Θ h') ∧ Fr n0 L) (M []) hZ w4 w3 hf hl) (g := mkF m pc Ls S) rfl (by rw [hml]; exact hsz) (argsL := argsL) (rest := rest) hlen hst hW (hb hby hd) (fun _ _ => ⟨rfl, hh, by rw [hc0]; exact hc, by rw [hs0]; exact hs⟩)
  dsimp only [Pt.U, Pt.locs, Pt.cells, Pt.slots] at X' l1 y1 z1 st hQ
  subst l1 y1 z1
  obtain ⟨⟨rfl, hQ1⟩, hQ2⟩ := hQ
  rw [hc0, hs0] at X'
  subst hS'
  exact own_by (K T' _ ⟨⟨_, X', N.app hQ2⟩, rfl, hn, hx, hZ, hby, hml, hown, hnm, hret, hlk⟩ hQ1) st
theorem own_callI {z : MethodName} {cb : ByteArray} {cml : Nat} {crm : Room} {i : Nat} {a : Addr} {argsL rest S' : List Value} {w : Option Value} {Θ : Heap → Prop} (X : own_S Z n0 bytes y ml ret p l e R s m args below meth c T k sl h) (M : own_Met l z cb cml none crm Z n0 (.ref a :: argsL).toArray h w Θ) (hi : z.name = "<init>")
    (w1 : (Jvm.Cond.methodLink y.cls i z).before a0 Z = true) (w2 : (Jvm.Cond.instanceMethod z).before a0 Z = true) (w3 : (Jvm.Cond.initialized z.cls).before a0 Z = true) (w4 : (Jvm.Cond.code z cb cml none).before a0 Z = true) (hz : z.cls ≠ "java/lang/invoke/MethodHandle" ∧ z.cls ≠ "java/lang/invoke/VarHandle")
    {W : Nat} (hf : crm.frames + 1 ≤ R.frames) (hl : W + (cml + 11) + crm.locals ≤ R.locals) (hc0 : crm.cells = 0) (hs0 : crm.slots = 0) (hc : k ≤ R.cells) (hs : sl ≤ R.slots)
    (hlen : ∀ sig, parseMethodDescriptor z.desc = some sig → argsL.length = sig.parameters.length) (hst : S = argsL.reverse ++ .ref a :: rest) (hW : 2 * 0 + (rest.map fun v => v.category).sum ≤ W) (hsz : Ls.size = ml)
    (hd : decode bytes pc = .ok (.invokespecial i, 3)) (hpc : pc + 3 = pc')
    (hS' : w.toList ++ rest = S') (K : ∀ T' h', own_S Z n0 bytes y ml ret p l e R s m args below meth c T' k sl h' → Θ h' → own_G p e below Φ T' (mkF m pc' Ls S')) : own_G p e below Φ T (mkF m pc Ls S) := by
  obtain ⟨⟨locs, Y, N⟩, hh, hn, hx, hZ, hby, hml, hown, hnm, hret, hlk⟩ := X
  subst hpc
  obtain ⟨v, _, ⟨T', L', k', n'⟩, -, X', ⟨Lc, hQ, l1, y1, z1⟩, st⟩ := Y.specialBack hx (y := z) hi hown (mvT hZ w1) (mvT hZ w2) (mvT hZ w4) hz (backOf (W := W) (Q := fun v h' L => (v = w ∧ Θ h') ∧ Fr n0 L) (M []) hZ w4 w3 hf hl) (g := mkF m pc Ls S) rfl (by rw [hml]; exact hsz) (Steps.refl _) (a := a) (argsL := argsL) (rest := rest) hlen hst hW (hb hby hd) (fun _ _ => ⟨rfl, hh, by rw [hc0]; exact hc, by rw [hs0]; exact hs⟩)
  dsimp only [Pt.U, Pt.locs, Pt.cells, Pt.slots] at X' l1 y1 z1 st hQ
  subst l1 y1 z1
  obtain ⟨⟨rfl, hQ1⟩, hQ2⟩ := hQ
  rw [hc0, hs0] at X'
  subst hS'
  exact own_by (K T' _ ⟨⟨_, X', N.app hQ2⟩, rfl, hn, hx, hZ, hby, hml, hown, hnm, hret, hlk⟩ hQ1) fun t kk => st.trans kk
theorem own_callV {z : MethodName} {cb : ByteArray} {cml : Nat} {cret : Option FieldType} {crm : Room} {i : Nat} {a : Addr} {argsL rest S' : List Value} {w : Option Value} {Θ : Heap → Prop} (X : own_S Z n0 bytes y ml ret p l e R s m args below meth c T k sl h) (M : own_Met l z cb cml cret crm Z n0 (.ref a :: argsL).toArray h w Θ) (E : Exa Z h a z.cls)
    (w1 : (Jvm.Cond.methodLink y.cls i z).before a0 Z = true) (w2 : (Jvm.Cond.declares z).before a0 Z = true) (w5 : (Jvm.Cond.selects z.cls z z).before a0 Z = true) (w6 : (Jvm.Cond.instanceMethod z).before a0 Z = true) (w3 : (Jvm.Cond.initialized z.cls).before a0 Z = true) (w4 : (Jvm.Cond.code z cb cml cret).before a0 Z = true) (hz : z.cls ≠ "java/lang/invoke/MethodHandle" ∧ z.cls ≠ "java/lang/invoke/VarHandle")
    {W : Nat} (hf : crm.frames + 1 ≤ R.frames) (hl : W + (cml + 11) + crm.locals ≤ R.locals) (hc0 : crm.cells = 0) (hs0 : crm.slots = 0) (hc : k ≤ R.cells) (hs : sl ≤ R.slots)
    (hlen : ∀ sig, parseMethodDescriptor z.desc = some sig → argsL.length = sig.parameters.length) (hst : S = argsL.reverse ++ .ref a :: rest) (hW : 2 * 0 + (rest.map fun v => v.category).sum ≤ W) (hsz : Ls.size = ml)
    (hd : decode bytes pc = .ok (.invokevirtual i, 3)) (hpc : pc + 3 = pc')
    (hS' : w.toList ++ rest = S') (K : ∀ T' h', own_S Z n0 bytes y ml ret p l e R s m args below meth c T' k sl h' → Θ h' → own_G p e below Φ T' (mkF m pc' Ls S')) : own_G p e below Φ T (mkF m pc Ls S) := by
  obtain ⟨⟨locs, Y, N⟩, hh, hn, hx, hZ, hby, hml, hown, hnm, hret, hlk⟩ := X
  subst hpc
  obtain ⟨cq, kq, qa, qb, qc⟩ := isOf hZ hh E
  obtain ⟨v, _, ⟨T', L', k', n'⟩, -, X', ⟨Lc, hQ, l1, y1, z1⟩, st⟩ := Y.virtualBack hx (y := z) (z := z) hown (mvT hZ w1) (mvT hZ w2) (notFace_of_selects (args := #[]) (mvT hZ w5)) (mvT hZ w5) (mvT hZ w6) hz (backOf (W := W) (Q := fun v h' L => (v = w ∧ Θ h') ∧ Fr n0 L) (M []) hZ w4 w3 hf hl) qa qc (g := mkF m pc Ls S) rfl (by rw [hml]; exact hsz) (Steps.refl _) (argsL := argsL) (rest := rest) hlen hst hW (hb hby hd) (fun _ _ => ⟨rfl, hh, by rw [hc0]; exact hc, by rw [hs0]; exact hs⟩)
  dsimp only [Pt.U, Pt.locs, Pt.cells, Pt.slots] at X' l1 y1 z1 st hQ
  subst l1 y1 z1
  obtain ⟨⟨rfl, hQ1⟩, hQ2⟩ := hQ
  rw [hc0, hs0] at X'
  subst hS'
  exact own_by (K T' _ ⟨⟨_, X', N.app hQ2⟩, rfl, hn, hx, hZ, hby, hml, hown, hnm, hret, hlk⟩ hQ1) fun t kk => st.trans kk
theorem own_objI (X : own_S Z n0 bytes y ml ret p l e R s m args below meth c T k sl h) {i : Nat} {a : Addr} (w1 : (Jvm.Cond.methodLink y.cls i Lib.objectInit).before a0 Z = true) (w2 : (Jvm.Cond.instanceMethod Lib.objectInit).before a0 Z = true) (w3 : (Jvm.Cond.code Lib.objectInit object_method_1_code 1 none).before a0 Z = true)
    (hd : decode bytes pc = .ok (.invokespecial i, 3)) (hpc : pc + 3 = pc') (hsz : Ls.size = ml) (hf : 1 ≤ R.frames) {W : Nat} (hW : 2 * 0 + (S.map fun v => v.category).sum ≤ W) (hl : W + 12 ≤ R.locals)
    (K : ∀ T', own_S Z n0 bytes y ml ret p l e R s m args below meth c T' k sl h → own_G p e below Φ T' (mkF m pc' Ls S)) : own_G p e below Φ T (mkF m pc Ls (.ref a :: S)) := by
  obtain ⟨⟨locs, Y, N⟩, hh, hn, hx, hZ, hby, hml, hown, hnm, hret, hlk⟩ := X
  subst hpc
  obtain ⟨T', X', e', st⟩ := initO Y hx hZ hown w1 w2 w3 hh (g := mkF m pc Ls (.ref a :: S)) rfl (by rw [hml]; exact hsz) rfl (hb hby hd) hf (W := W) hW hl
  exact own_by (K T' ⟨⟨_, X', N⟩, e', hn, hx, hZ, hby, hml, hown, hnm, hret, hlk⟩) st
theorem own_getF (X : own_S Z n0 bytes y ml ret p l e R s m args below meth c T k sl h) {i : Nat} {a : Addr} {O nm d : String} {v : Value} (w : (Jvm.Cond.fieldLink y.cls i O nm d).before a0 Z = true) (F : Fld Z h a O nm d v) (hd : decode bytes pc = .ok (.getfield i, 3)) (hpc : pc + 3 = pc')
    (K : ∀ T', own_S Z n0 bytes y ml ret p l e R s m args below meth c T' k sl h → own_G p e below Φ T' (mkF m pc' Ls (v :: S))) : own_G p e below Φ T (mkF m pc Ls (.ref a :: S)) := by
  obtain ⟨⟨locs, Y, N⟩, hh, hn, hx, hZ, hby, hml, hown, hnm, hret, hlk⟩ := X
  subst hpc
  obtain ⟨T', X', e', st⟩ := getF Y hx hZ hown (host := "") (Or.inl w) Via.refl hh F (g := mkF m pc Ls (.ref a :: S)) rfl rfl (hb hby hd)
  exact own_by (K T' ⟨⟨_, X', N⟩, e', hn, hx, hZ, hby, hml, hown, hnm, hret, hlk⟩) st
theorem own_putF (X : own_S Z n0 bytes y ml ret p l e R s m args below meth c T k sl h) {i kk : Nat} {a : Addr} {O nm d C : String} {v v' old : Value} {ty : FieldType} (w : (Jvm.Cond.fieldLink y.cls i O nm d).before a0 Z = true) (F : Fld Z h a O nm d old) (E : Exa Z h a C) (ha : n0 ≤ a)
    (L : (Jvm.Cond.lays C O nm d).before a0 Z = true ∨ ((Jvm.Cond.laysFinal C O nm d).before a0 Z = true ∧ y.cls = O ∧ y.name = "<init>")) (wi : (Jvm.Cond.instantiable C kk).before a0 Z = true) (hty : parseFieldDescriptor d = some ty) (hv : narrow ty v = v') (hf : fits ty v' = true)
    (hd : decode bytes pc = .ok (.putfield i, 3)) (hpc : pc + 3 = pc')
    (K : ∀ T' h', own_S Z n0 bytes y ml ret p l e R s m args below meth c T' k sl h' → Wr h h' a (Jvm.RoadKit.slotOf Z O nm d) v' → own_G p e below Φ T' (mkF m pc' Ls S)) : own_G p e below Φ T (mkF m pc Ls (v :: .ref a :: S)) := by
  obtain ⟨⟨locs, Y, N⟩, hh, hn, hx, hZ, hby, hml, hown, hnm, hret, hlk⟩ := X
  subst hpc
  obtain ⟨T', h', X', e', W', st⟩ := putFN Y hx hZ hown w Via.refl hh F E (L.imp id fun q => ⟨q.1, q.2.1, hnm.trans q.2.2⟩) wi hty hv hf (g := mkF m pc Ls (v :: .ref a :: S)) rfl rfl (hb hby hd)
  exact own_by (K T' h' ⟨⟨_, X', Fr.snoc X' N ha⟩, e', hn, hx, hZ, hby, hml, hown, hnm, hret, hlk⟩ W') st
theorem own_new (X : own_S Z n0 bytes y ml ret p l e R s m args below meth c T k sl h) {i n : Nat} {C : String} (w : (Jvm.Cond.classLink y.cls i C).before a0 Z = true) (wi : (Jvm.Cond.instantiable C n).before a0 Z = true) (wz : (Jvm.Cond.initialized C).before a0 Z = true) (hd : decode bytes pc = .ok (.new i, 3)) (hpc : pc + 3 = pc') (hc : k + 1 ≤ R.cells) (hs : sl + n ≤ R.slots)
    (K : ∀ T' h' a, own_S Z n0 bytes y ml ret p l e R s m args below meth c T' (k + 1) (sl + n) h' → n0 ≤ a → a = h.size → Ext h h' → Exa Z h' a C → (∀ {O nm d : String} {ty : FieldType}, Laid Z a0 C O nm d → parseFieldDescriptor d = some ty → Fld Z h' a O nm d (defaultValue ty)) → own_G p e below Φ T' (mkF m pc' Ls (.ref a :: S))) : own_G p e below Φ T (mkF m pc Ls S) := by
  have hsz := X.size
  obtain ⟨⟨locs, Y, N⟩, hh, hn, hx, hZ, hby, hml, hown, hnm, hret, hlk⟩ := X
  subst hpc
  obtain ⟨T', h', X', e', E', A', D', -, st⟩ := newO Y hx hZ hown w wi wz hh (g := mkF m pc Ls S) rfl (hb hby hd) hc hs
  exact own_by (K T' h' h.size ⟨⟨_, X', N⟩, e', hn, hx, hZ, hby, hml, hown, hnm, hret, hlk⟩ hsz rfl E' A' D') st
def own_A (Z : State) (h : Heap) (a : Addr) (ty : FieldType) (vs : List Int32) : Prop := ∃ cl : Cell, Arr Z h a cl ty ∧ cl.slots.size = vs.length ∧ ∀ j, j < vs.length → cl.slots[j]? = some (.int (vs.getD j 0))
theorem own_A.ext {h' : Heap} {a : Addr} {ty : FieldType} {vs : List Int32} (A : own_A Z h a ty vs) (E : Ext h h') : own_A Z h' a ty vs := by obtain ⟨cl, q, r⟩ := A; exact ⟨cl, q.ext E, r⟩
theorem own_A.other {h' : Heap} {a b : Addr} {ty : FieldType} {vs : List Int32} {i : Nat} {v : Value} (A : own_A Z h b ty vs) (W : Wr h h' a i v) (q : b ≠ a) : own_A Z h' b ty vs := by obtain ⟨cl, r, t⟩ := A; exact ⟨cl, r.other W q, t⟩
theorem own_A.keep {h' : Heap} {a : Addr} {ty : FieldType} {vs : List Int32} {ws : List Addr} (A : own_A Z h a ty vs) (K : Keep h h' ws) (q : a ∉ ws) : own_A Z h' a ty vs := by obtain ⟨cl, r, t⟩ := A; exact ⟨cl, ⟨K.2.1 a cl r.1 q, r.2⟩, t⟩
theorem own_A.lt {a : Addr} {ty : FieldType} {vs : List Int32} (A : own_A Z h a ty vs) : a < h.size := by obtain ⟨cl, q, r⟩ := A; exact q.lt
def own_in (j : Int32) (n : Nat) : Bool := decide (0 ≤ j.toInt) && Nat.blt j.toNatClampNeg n
theorem own_in_not {j : Int32} {n : Nat} (q : own_in j n = true) : j.toNatClampNeg < n ∧ ¬ (j < 0 ∨ n ≤ j.toNatClampNeg) := by
  simp only [own_in, Bool.and_eq_true, decide_eq_true_eq] at q
  have h2 : j.toNatClampNeg < n := Nat.le_of_ble_eq_true q.2
  refine ⟨h2, ?_⟩
  simp only [Int32.lt_iff_toInt_lt, Int32.reduceToInt]
  omega
theorem own_baload (X : own_S Z n0 bytes y ml ret p l e R s m args below meth c T k sl h) {a : Addr} {vs : List Int32} {j v : Int32} (A : own_A Z h a .byte vs) (hj : own_in j vs.length = true) (hv : vs.getD j.toNatClampNeg 0 = v) (hd : decode bytes pc = .ok (.baload, 1)) (hpc : pc + 1 = pc') (K : own_G p e below Φ T (mkF m pc' Ls (.int v :: S))) : own_G p e below Φ T (mkF m pc Ls (.int j :: .ref a :: S)) := by
  obtain ⟨⟨locs, Y, N⟩, hh, hn, hx, hZ, hby, hml, hown, hnm, hret, hlk⟩ := X
  subst hpc
  obtain ⟨cl, q, r, t⟩ := A
  obtain ⟨j1, j2⟩ := own_in_not hj
  exact own_by K fun t' kk => Y.baloadBytes hx (j := j) (v := .int v) (by rw [hh]; exact q.1) (State.isArrayOf_alike hZ.alike q.2.1) q.2.2 (by rw [r]; exact j2) (by rw [t _ j1, hv]) (g := mkF m pc Ls (.int j :: .ref a :: S)) rfl rfl (hb hby hd) t' kk
theorem own_iaload (X : own_S Z n0 bytes y ml ret p l e R s m args below meth c T k sl h) {a : Addr} {vs : List Int32} {j v : Int32} (A : own_A Z h a .int vs) (hj : own_in j vs.length = true) (hv : vs.getD j.toNatClampNeg 0 = v) (hd : decode bytes pc = .ok (.iaload, 1)) (hpc : pc + 1 = pc') (K : own_G p e below Φ T (mkF m pc' Ls (.int v :: S))) : own_G p e below Φ T (mkF m pc Ls (.int j :: .ref a :: S)) := by
  obtain ⟨⟨locs, Y, N⟩, hh, hn, hx, hZ, hby, hml, hown, hnm, hret, hlk⟩ := X
  subst hpc
  obtain ⟨cl, q, r, t⟩ := A
  obtain ⟨j1, j2⟩ := own_in_not hj
  exact own_by K fun t' kk => Y.iaload hx (j := j) (v := .int v) (by rw [hh]; exact q.1) (State.isArrayOf_alike hZ.alike q.2.1) q.2.2 (by rw [r]; exact j2) (by rw [t _ j1, hv]) (g := mkF m pc Ls (.int j :: .ref a :: S)) rfl rfl (hb hby hd) t' kk
theorem own_len (X : own_S Z n0 bytes y ml ret p l e R s m args below meth c T k sl h) {a : Addr} {ty : FieldType} {vs : List Int32} {v : Int32} (A : own_A Z h a ty vs) (hv : vs.length.toInt32 = v) (hd : decode bytes pc = .ok (.arraylength, 1)) (hpc : pc + 1 = pc') (K : own_G p e below Φ T (mkF m pc' Ls (.int v :: S))) : own_G p e below Φ T (mkF m pc Ls (.ref a :: S)) := by
  obtain ⟨⟨locs, Y, N⟩, hh, hn, hx, hZ, hby, hml, hown, hnm, hret, hlk⟩ := X
  subst hpc
  obtain ⟨cl, q, r, t⟩ := A
  exact own_by K fun t' kk => Y.arraylength hx (by rw [hh]; exact q.1) (State.isArrayOf_alike hZ.alike q.2.1) (g := mkF m pc Ls (.ref a :: S)) rfl rfl (hb hby hd) t' (by rw [r, hv]; exact kk)
theorem own_set {h' : Heap} {a : Addr} {ty : FieldType} {vs : List Int32} {i : Nat} {v : Int32} {cl : Cell} (q : Arr Z h a cl ty) (r : cl.slots.size = vs.length) (t : ∀ j, j < vs.length → cl.slots[j]? = some (.int (vs.getD j 0))) (hi : i < vs.length) (W : Wr h h' a i (.int v)) : own_A Z h' a ty (vs.set i v) := by
  refine ⟨cl.setSlot i (.int v), q.same W, by rw [sz_set, r, List.length_set], fun j hj => ?_⟩
  rw [List.length_set] at hj
  have hc : i < cl.slots.size := by rw [r]; exact hi
  show (cl.slots.setIfInBounds i (.int v))[j]? = _
  rw [Array.getElem?_setIfInBounds]
  by_cases e : i = j
  · subst e
    simp [hc, List.getD_eq_getElem?_getD, hi]
  · simp only [e, if_false]
    rw [t j hj]
    simp [List.getD_eq_getElem?_getD, List.getElem?_set, e]
theorem own_bastore (X : own_S Z n0 bytes y ml ret p l e R s m args below meth c T k sl h) {a : Addr} {vs vs' : List Int32} {j v v' : Int32} (A : own_A Z h a .byte vs) (ha : n0 ≤ a) (hj : own_in j vs.length = true) (hv : v.toInt8.toInt32 = v') (hvs : vs.set j.toNatClampNeg v' = vs') (hd : decode bytes pc = .ok (.bastore, 1)) (hpc : pc + 1 = pc')
    (K : ∀ T' h', own_S Z n0 bytes y ml ret p l e R s m args below meth c T' k sl h' → own_A Z h' a .byte vs' → Wr h h' a j.toNatClampNeg (.int v') → own_G p e below Φ T' (mkF m pc' Ls S)) : own_G p e below Φ T (mkF m pc Ls (.int v :: .int j :: .ref a :: S)) := by
  obtain ⟨⟨locs, Y, N⟩, hh, hn, hx, hZ, hby, hml, hown, hnm, hret, hlk⟩ := X
  subst hpc hvs hv
  obtain ⟨cl, q, r, t⟩ := A
  obtain ⟨j1, j2⟩ := own_in_not hj
  obtain ⟨T', h', X', e', W', st⟩ := stB Y hx hZ hh q (j := j) (x := v) (by rw [r]; exact j2) (g := mkF m pc Ls (.int v :: .int j :: .ref a :: S)) rfl rfl (hb hby hd)
  exact own_by (K T' h' ⟨⟨_, X', Fr.snoc X' N ha⟩, e', hn, hx, hZ, hby, hml, hown, hnm, hret, hlk⟩ (own_set q r t j1 W') W') st
theorem own_iastore (X : own_S Z n0 bytes y ml ret p l e R s m args below meth c T k sl h) {a : Addr} {vs vs' : List Int32} {j v : Int32} (A : own_A Z h a .int vs) (ha : n0 ≤ a) (hj : own_in j vs.length = true) (hvs : vs.set j.toNatClampNeg v = vs') (hd : decode bytes pc = .ok (.iastore, 1)) (hpc : pc + 1 = pc')
    (K : ∀ T' h', own_S Z n0 bytes y ml ret p l e R s m args below meth c T' k sl h' → own_A Z h' a .int vs' → Wr h h' a j.toNatClampNeg (.int v) → own_G p e below Φ T' (mkF m pc' Ls S)) : own_G p e below Φ T (mkF m pc Ls (.int v :: .int j :: .ref a :: S)) := by
  obtain ⟨⟨locs, Y, N⟩, hh, hn, hx, hZ, hby, hml, hown, hnm, hret, hlk⟩ := X
  subst hpc hvs
  obtain ⟨cl, q, r, t⟩ := A
  obtain ⟨j1, j2⟩ := own_in_not hj
  obtain ⟨T', h', X', e', W', st⟩ := stI Y hx hZ hh q (j := j) (x := v) (by rw [r]; exact j2) (g := mkF m pc Ls (.int v :: .int j :: .ref a :: S)) rfl rfl (hb hby hd)
  exact own_by (K T' h' ⟨⟨_, X', Fr.snoc X' N ha⟩, e', hn, hx, hZ, hby, hml, hown, hnm, hret, hlk⟩ (own_set q r t j1 W') W') st
theorem own_newarr (X : own_S Z n0 bytes y ml ret p l e R s m args below meth c T k sl h) {aty : ArrayType} {n : Int32} {len : Nat} {vs : List Int32} (w : (Jvm.Cond.arrayClass (newarray.typeOf aty)).before a0 Z = true) (hty : defaultValue (newarray.typeOf aty) = .int 0) (hn0 : ¬ n < 0) (hlen : n.toNatClampNeg = len) (hvs : List.replicate len 0 = vs) (hbig : len * 8 ≤ 536870912) (hd : decode bytes pc = .ok (.newarray aty, 2)) (hpc : pc + 2 = pc') (hc : k + 1 ≤ R.cells) (hs : sl + len ≤ R.slots)
    (K : ∀ T' h' a, own_S Z n0 bytes y ml ret p l e R s m args below meth c T' (k + 1) (sl + len) h' → n0 ≤ a → a = h.size → Ext h h' → own_A Z h' a (newarray.typeOf aty) vs → own_G p e below Φ T' (mkF m pc' Ls (.ref a :: S))) : own_G p e below Φ T (mkF m pc Ls (.int n :: S)) := by
  have hsz := X.size
  obtain ⟨⟨locs, Y, N⟩, hh, hn, hx, hZ, hby, hml, hown, hnm, hret, hlk⟩ := X
  subst hpc hvs hlen
  obtain ⟨T', h', cA, X', e', E', A', st⟩ := newP Y hx hZ w hh (g := mkF m pc Ls (.int n :: S)) rfl (hb hby hd) rfl hn0 (cap := n.toNatClampNeg) (Nat.le_refl _) hbig hc hs
  refine own_by (K T' h' h.size ⟨⟨_, X', N⟩, e', hn, hx, hZ, hby, hml, hown, hnm, hret, hlk⟩ hsz rfl E' ⟨_, A', by rw [sz_new, List.length_replicate], fun j hj => ?_⟩) st
  rw [List.length_replicate] at hj
  simp [newA, hj, hty, List.getD_eq_getElem?_getD]
theorem own_b8 (v : Int32) : (v.toInt8.toInt32).toInt8.toInt32 = v.toInt8.toInt32 := by simp
end OwnKit
def own_D (Z : State) (h : Heap) (a : Addr) (mx : Int64) (bh : Int32) (lb : Int64) : Prop := Exa Z h a "dev/tidemark/bench/Lateness" ∧ Fld Z h a "dev/tidemark/bench/Lateness" "maxNanos" "J" (.long mx) ∧ Fld Z h a "dev/tidemark/bench/Lateness" "behind" "Z" (.int bh) ∧ Fld Z h a "dev/tidemark/bench/Lateness" "lastBehind" "J" (.long lb)
def own_mx (mx r : Int64) : Int64 := if mx < r then r else mx
def own_bh (bh : Int32) (r : Int64) : Int32 := if (100000000 : Int64) < r then 1 else bh
def own_lb (lb r now : Int64) : Int64 := if (100000000 : Int64) < r then now else lb
def own_bs (bh : Int32) (lb mo : Int64) : Int32 := if bh = 0 then 0 else if lb - mo < 0 then 0 else 1
def own_max (a b : Int64) : Int64 := if a < b then b else a
theorem own_add (a b : Int64) : (a - b) + b = a := by simp
theorem d1_0 : decode prog_23_method_1_code 0 = .ok (.aload_n 0, 1) := by decide +kernel
theorem d1_1 : decode prog_23_method_1_code 1 = .ok (.invokespecial 1, 3) := by decide +kernel
theorem d1_4 : decode prog_23_method_1_code 4 = .ok (.return_, 1) := by decide +kernel
theorem pn_rm1 : plainFor (⟨"dev/tidemark/bench/Lateness", "<init>", "()V"⟩ : MethodName) = true := plainFor_of_name (by first | (simp [plainName, overriddenIn]; done) | decide +kernel)
theorem ef_rm1 (m : MethodId) (x0 : Addr) : entryFrame m #[(.ref x0)] 1 = mkF m 0 #[.val (.ref x0)] [] := by first | (simp [entryFrame, mkF, argsToLocals, Value.category]; done) | rfl
set_option maxRecDepth 65536 in
set_option maxHeartbeats 4000000 in
theorem rm1 (l : Launch) (Z : State) (a0 : Array Value) (hw : ∀ d ∈ tables_1, d.before a0 Z = true) (n0 : Nat) (a : Addr) (h0 : Heap) (hn0 : n0 ≤ h0.size) :
    own_Met l (⟨"dev/tidemark/bench/Lateness", "<init>", "()V"⟩ : MethodName) prog_23_method_1_code 1 none ({ frames := 1, cells := 0, slots := 0, locals := 12 } : Room) Z n0 #[(.ref a)] h0 none (fun h' => h' = h0) := by
  refine own_met pn_rm1 hn0 ?_
  intro p e s m below meth c T X
  refine own_cast (ef_rm1 m a) ?_
  generalize hΦ : own_Q n0 below s _ _ _ = Φ
  refine own_aloadN X (pc' := 1) d1_0 rfl rfl rfl ?_
  refine own_objI X (W := 0) (pc' := 4) (hw _ (List.mem_of_getElem? (i := 6) rfl)) (hw _ (List.mem_of_getElem? (i := 7) rfl)) (hw _ (List.mem_of_getElem? (i := 8) rfl)) d1_1 rfl rfl (by decide) (by decide) (by decide) ?_
  intro T1 X1
  subst hΦ
  exact own_retV X1 d1_4 (by decide) (by decide) rfl rfl
theorem d3_0 : decode prog_23_method_2_code 0 = .ok (.lload_n 1, 1) := by decide +kernel
theorem d3_1 : decode prog_23_method_2_code 1 = .ok (.lload_n 3, 1) := by decide +kernel
theorem d3_2 : decode prog_23_method_2_code 2 = .ok (.lsub, 1) := by decide +kernel
theorem d3_3 : decode prog_23_method_2_code 3 = .ok (.lstore 5, 2) := by decide +kernel
theorem d3_5 : decode prog_23_method_2_code 5 = .ok (.lload 5, 2) := by decide +kernel
theorem d3_7 : decode prog_23_method_2_code 7 = .ok (.aload_n 0, 1) := by decide +kernel
theorem d3_8 : decode prog_23_method_2_code 8 = .ok (.getfield 7, 3) := by decide +kernel
theorem d3_11 : decode prog_23_method_2_code 11 = .ok (.lcmp, 1) := by decide +kernel
theorem d3_12 : decode prog_23_method_2_code 12 = .ok (.ifCond .le 9, 3) := by decide +kernel
theorem d3_15 : decode prog_23_method_2_code 15 = .ok (.aload_n 0, 1) := by decide +kernel
theorem d3_16 : decode prog_23_method_2_code 16 = .ok (.lload 5, 2) := by decide +kernel
theorem d3_18 : decode prog_23_method_2_code 18 = .ok (.putfield 7, 3) := by decide +kernel
theorem d3_21 : decode prog_23_method_2_code 21 = .ok (.lload 5, 2) := by decide +kernel
theorem d3_23 : decode prog_23_method_2_code 23 = .ok (.ldc2_w 13, 3) := by decide +kernel
theorem d3_26 : decode prog_23_method_2_code 26 = .ok (.lcmp, 1) := by decide +kernel
theorem d3_27 : decode prog_23_method_2_code 27 = .ok (.ifCond .le 13, 3) := by decide +kernel
theorem d3_30 : decode prog_23_method_2_code 30 = .ok (.aload_n 0, 1) := by decide +kernel
theorem d3_31 : decode prog_23_method_2_code 31 = .ok (.iconst 1, 1) := by decide +kernel
theorem d3_32 : decode prog_23_method_2_code 32 = .ok (.putfield 15, 3) := by decide +kernel
theorem d3_35 : decode prog_23_method_2_code 35 = .ok (.aload_n 0, 1) := by decide +kernel
theorem d3_36 : decode prog_23_method_2_code 36 = .ok (.lload_n 1, 1) := by decide +kernel
theorem d3_37 : decode prog_23_method_2_code 37 = .ok (.putfield 19, 3) := by decide +kernel
theorem d3_40 : decode prog_23_method_2_code 40 = .ok (.lload 5, 2) := by decide +kernel
theorem d3_42 : decode prog_23_method_2_code 42 = .ok (.lreturn, 1) := by decide +kernel
theorem pn_rm3 : plainFor (⟨"dev/tidemark/bench/Lateness", "release", "(JJ)J"⟩ : MethodName) = true := plainFor_of_name (by first | (simp [plainName, overriddenIn]; done) | decide +kernel)
theorem ef_rm3 (m : MethodId) (x0 : Addr) (x1 : Int64) (x2 : Int64) : entryFrame m #[(.ref x0), (.long x1), (.long x2)] 7 = mkF m 0 #[.val (.ref x0), .val (.long x1), .second, .val (.long x2), .second, .unset, .unset] [] := by first | (simp [entryFrame, mkF, argsToLocals, Value.category]; done) | rfl
set_option maxRecDepth 65536 in
set_option maxHeartbeats 4000000 in
theorem rm3 (l : Launch) (Z : State) (a0 : Array Value) (hw : ∀ d ∈ tables_1, d.before a0 Z = true) (n0 : Nat) (a : Addr) (now : Int64) (due : Int64) (h0 : Heap) (hn0 : n0 ≤ h0.size) (mx : Int64) (bh : Int32) (lb : Int64) (D : own_D Z h0 a mx bh lb) (ge : n0 ≤ a) :
    own_Met l (⟨"dev/tidemark/bench/Lateness", "release", "(JJ)J"⟩ : MethodName) prog_23_method_2_code 7 (some .long) ({ frames := 0, cells := 0, slots := 0, locals := 0 } : Room) Z n0 #[(.ref a), (.long now), (.long due)] h0 (some (.long (now - due))) (fun h' => own_D Z h' a (own_mx mx (now - due)) (own_bh bh (now - due)) (own_lb lb (now - due) now) ∧ Keep h0 h' [a]) := by
  refine own_met pn_rm3 hn0 ?_
  intro p e s m below meth c T X
  refine own_cast (ef_rm3 m a now due) ?_
  generalize hΦ : own_Q n0 below s _ _ _ = Φ
  obtain ⟨Ex, F_maxNanos, F_behind, F_lastBehind⟩ := D
  have K0 := Keep.refl h0 [a]
  refine own_lloadN X (pc' := 1) d3_0 rfl rfl ?_
  refine own_lloadN X (pc' := 2) d3_1 rfl rfl ?_
  refine own_lsub X (r := (now - due)) (pc' := 3) d3_2 rfl rfl ?_
  refine own_lstore X (pc' := 5) (Ls' := #[.val (.ref a), .val (.long now), .second, .val (.long due), .second, .val (.long (now - due)), .second]) d3_3 rfl rfl ?_
  refine own_lload X (pc' := 7) d3_5 rfl rfl ?_
  refine own_aloadN X (pc' := 8) d3_7 rfl rfl rfl ?_
  refine own_getF X (pc' := 11) (hw _ (List.mem_of_getElem? (i := 14) rfl)) F_maxNanos d3_8 rfl ?_
  intro T1 X1
  refine own_lcmp X1 (pc' := 12) d3_11 rfl ?_
  refine own_ifl_le X1 (pct := 21) (pc' := 15) d3_12 rfl (by decide) (by decide) (fun hc12_2 => ?_) (fun hc12_2 => ?_)
  · refine own_lload X1 (pc' := 23) d3_21 rfl rfl ?_
    refine own_ldc2 X1 (pc' := 26) (hw _ (List.mem_of_getElem? (i := 16) rfl)) d3_23 rfl ?_
    refine own_lcmp X1 (pc' := 27) d3_26 rfl ?_
    refine own_ifl_le X1 (pct := 40) (pc' := 30) d3_27 rfl (by decide) (by decide) (fun hc27_3 => ?_) (fun hc27_3 => ?_)
    · refine own_lload X1 (pc' := 42) d3_40 rfl rfl ?_
      subst hΦ
      exact own_retL X1 d3_42 (by decide) (by decide) rfl ⟨by rw [own_mx, if_neg hc12_2, own_bh, if_neg hc27_3, own_lb, if_neg hc27_3]; exact ⟨Ex, F_maxNanos, F_behind, F_lastBehind⟩, K0⟩
    · refine own_aloadN X1 (pc' := 31) d3_30 rfl rfl rfl ?_
      refine own_iconst X1 (v := (1 : Int32)) (pc' := 32) d3_31 rfl (by decide) ?_
      refine own_putF X1 (v' := (.int (1 : Int32))) (ty := .boolean) (pc' := 35) (hw _ (List.mem_of_getElem? (i := 32) rfl)) F_behind Ex ge (Or.inl (hw _ (List.mem_of_getElem? (i := 33) rfl))) (hw _ (List.mem_of_getElem? (i := 1) rfl)) (by decide) rfl rfl d3_32 rfl ?_
      intro T4 h4 X4 W4
      have F5 := F_maxNanos.other W4 (Or.inr (slot_ne (Or.inl (hw _ (List.mem_of_getElem? (i := 15) rfl))) (Or.inl (hw _ (List.mem_of_getElem? (i := 33) rfl))) (by decide) (t := .long) (t' := .boolean) (by decide) (by decide)))
      have F6 := F_lastBehind.other W4 (Or.inr (slot_ne (Or.inl (hw _ (List.mem_of_getElem? (i := 35) rfl))) (Or.inl (hw _ (List.mem_of_getElem? (i := 33) rfl))) (by decide) (t := .long) (t' := .boolean) (by decide) (by decide)))
      have Ex7 := Ex.wr W4
      have K8 := K0.wr W4 (Or.inl (by simp))
      have F4_behind := F_behind.same W4
      refine own_aloadN X4 (pc' := 36) d3_35 rfl rfl rfl ?_
      refine own_lloadN X4 (pc' := 37) d3_36 rfl rfl ?_
      refine own_putF X4 (v' := (.long now)) (ty := .long) (pc' := 40) (hw _ (List.mem_of_getElem? (i := 34) rfl)) F6 Ex7 ge (Or.inl (hw _ (List.mem_of_getElem? (i := 35) rfl))) (hw _ (List.mem_of_getElem? (i := 1) rfl)) (by decide) rfl rfl d3_37 rfl ?_
      intro T9 h9 X9 W9
      have F10 := F5.other W9 (Or.inr (slot_ne (Or.inl (hw _ (List.mem_of_getElem? (i := 15) rfl))) (Or.inl (hw _ (List.mem_of_getElem? (i := 35) rfl))) (by decide) (t := .long) (t' := .long) (by decide) (by decide)))
      have F11 := F4_behind.other W9 (Or.inr (slot_ne (Or.inl (hw _ (List.mem_of_getElem? (i := 33) rfl))) (Or.inl (hw _ (List.mem_of_getElem? (i := 35) rfl))) (by decide) (t := .boolean) (t' := .long) (by decide) (by decide)))
      have Ex12 := Ex7.wr W9
      have K13 := K8.wr W9 (Or.inl (by simp))
      have F9_lastBehind := F6.same W9
      refine own_lload X9 (pc' := 42) d3_40 rfl rfl ?_
      subst hΦ
      exact own_retL X9 d3_42 (by decide) (by decide) rfl ⟨by rw [own_mx, if_neg hc12_2, own_bh, if_pos hc27_3, own_lb, if_pos hc27_3]; exact ⟨Ex12, F10, F11, F9_lastBehind⟩, K13⟩
  · refine own_aloadN X1 (pc' := 16) d3_15 rfl rfl rfl ?_
    refine own_lload X1 (pc' := 18) d3_16 rfl rfl ?_
    refine own_putF X1 (v' := (.long (now - due))) (ty := .long) (pc' := 21) (hw _ (List.mem_of_getElem? (i := 14) rfl)) F_maxNanos Ex ge (Or.inl (hw _ (List.mem_of_getElem? (i := 15) rfl))) (hw _ (List.mem_of_getElem? (i := 1) rfl)) (by decide) rfl rfl d3_18 rfl ?_
    intro T14 h14 X14 W14
    have F15 := F_behind.other W14 (Or.inr (slot_ne (Or.inl (hw _ (List.mem_of_getElem? (i := 33) rfl))) (Or.inl (hw _ (List.mem_of_getElem? (i := 15) rfl))) (by decide) (t := .boolean) (t' := .long) (by decide) (by decide)))
    have F16 := F_lastBehind.other W14 (Or.inr (slot_ne (Or.inl (hw _ (List.mem_of_getElem? (i := 35) rfl))) (Or.inl (hw _ (List.mem_of_getElem? (i := 15) rfl))) (by decide) (t := .long) (t' := .long) (by decide) (by decide)))
    have Ex17 := Ex.wr W14
    have K18 := K0.wr W14 (Or.inl (by simp))
    have F14_maxNanos := F_maxNanos.same W14
    refine own_lload X14 (pc' := 23) d3_21 rfl rfl ?_
    refine own_ldc2 X14 (pc' := 26) (hw _ (List.mem_of_getElem? (i := 16) rfl)) d3_23 rfl ?_
    refine own_lcmp X14 (pc' := 27) d3_26 rfl ?_
    refine own_ifl_le X14 (pct := 40) (pc' := 30) d3_27 rfl (by decide) (by decide) (fun hc27_19 => ?_) (fun hc27_19 => ?_)
    · refine own_lload X14 (pc' := 42) d3_40 rfl rfl ?_
      subst hΦ
      exact own_retL X14 d3_42 (by decide) (by decide) rfl ⟨by rw [own_mx, if_pos hc12_2, own_bh, if_neg hc27_19, own_lb, if_neg hc27_19]; exact ⟨Ex17, F14_maxNanos, F15, F16⟩, K18⟩
    · refine own_aloadN X14 (pc' := 31) d3_30 rfl rfl rfl ?_
      refine own_iconst X14 (v := (1 : Int32)) (pc' := 32) d3_31 rfl (by decide) ?_
      refine own_putF X14 (v' := (.int (1 : Int32))) (ty := .boolean) (pc' := 35) (hw _ (List.mem_of_getElem? (i := 32) rfl)) F15 Ex17 ge (Or.inl (hw _ (List.mem_of_getElem? (i := 33) rfl))) (hw _ (List.mem_of_getElem? (i := 1) rfl)) (by decide) rfl rfl d3_32 rfl ?_
      intro T20 h20 X20 W20
      have F21 := F14_maxNanos.other W20 (Or.inr (slot_ne (Or.inl (hw _ (List.mem_of_getElem? (i := 15) rfl))) (Or.inl (hw _ (List.mem_of_getElem? (i := 33) rfl))) (by decide) (t := .long) (t' := .boolean) (by decide) (by decide)))
      have F22 := F16.other W20 (Or.inr (slot_ne (Or.inl (hw _ (List.mem_of_getElem? (i := 35) rfl))) (Or.inl (hw _ (List.mem_of_getElem? (i := 33) rfl))) (by decide) (t := .long) (t' := .boolean) (by decide) (by decide)))
      have Ex23 := Ex17.wr W20
      have K24 := K18.wr W20 (Or.inl (by simp))
      have F20_behind := F15.same W20
      refine own_aloadN X20 (pc' := 36) d3_35 rfl rfl rfl ?_
      refine own_lloadN X20 (pc' := 37) d3_36 rfl rfl ?_
      refine own_putF X20 (v' := (.long now)) (ty := .long) (pc' := 40) (hw _ (List.mem_of_getElem? (i := 34) rfl)) F22 Ex23 ge (Or.inl (hw _ (List.mem_of_getElem? (i := 35) rfl))) (hw _ (List.mem_of_getElem? (i := 1) rfl)) (by decide) rfl rfl d3_37 rfl ?_
      intro T25 h25 X25 W25
      have F26 := F21.other W25 (Or.inr (slot_ne (Or.inl (hw _ (List.mem_of_getElem? (i := 15) rfl))) (Or.inl (hw _ (List.mem_of_getElem? (i := 35) rfl))) (by decide) (t := .long) (t' := .long) (by decide) (by decide)))
      have F27 := F20_behind.other W25 (Or.inr (slot_ne (Or.inl (hw _ (List.mem_of_getElem? (i := 33) rfl))) (Or.inl (hw _ (List.mem_of_getElem? (i := 35) rfl))) (by decide) (t := .boolean) (t' := .long) (by decide) (by decide)))
      have Ex28 := Ex23.wr W25
      have K29 := K24.wr W25 (Or.inl (by simp))
      have F25_lastBehind := F22.same W25
      refine own_lload X25 (pc' := 42) d3_40 rfl rfl ?_
      subst hΦ
      exact own_retL X25 d3_42 (by decide) (by decide) rfl ⟨by rw [own_mx, if_pos hc12_2, own_bh, if_pos hc27_19, own_lb, if_pos hc27_19]; exact ⟨Ex28, F26, F27, F25_lastBehind⟩, K29⟩
theorem d4_0 : decode jdk_29_method_66_code 0 = .ok (.lload_n 0, 1) := by decide +kernel
theorem d4_1 : decode jdk_29_method_66_code 1 = .ok (.lload_n 2, 1) := by decide +kernel
theorem d4_2 : decode jdk_29_method_66_code 2 = .ok (.lcmp, 1) := by decide +kernel
theorem d4_3 : decode jdk_29_method_66_code 3 = .ok (.ifCond .lt 7, 3) := by decide +kernel
theorem d4_6 : decode jdk_29_method_66_code 6 = .ok (.lload_n 0, 1) := by decide +kernel
theorem d4_7 : decode jdk_29_method_66_code 7 = .ok (.goto 4, 3) := by decide +kernel
theorem d4_10 : decode jdk_29_method_66_code 10 = .ok (.lload_n 2, 1) := by decide +kernel
theorem d4_11 : decode jdk_29_method_66_code 11 = .ok (.lreturn, 1) := by decide +kernel
theorem pn_rm4 : plainFor (⟨"java/lang/Math", "max", "(JJ)J"⟩ : MethodName) = true := Jvm.Free.JP.mathPlain rfl (by decide +kernel)
theorem ef_rm4 (m : MethodId) (x0 : Int64) (x1 : Int64) : entryFrame m #[(.long x0), (.long x1)] 4 = mkF m 0 #[.val (.long x0), .second, .val (.long x1), .second] [] := by first | (simp [entryFrame, mkF, argsToLocals, Value.category]; done) | rfl
set_option maxRecDepth 65536 in
set_option maxHeartbeats 4000000 in
theorem rm4 (l : Launch) (Z : State) (a0 : Array Value) (hw : ∀ d ∈ tables_1, d.before a0 Z = true) (n0 : Nat) (u : Int64) (v : Int64) (h0 : Heap) (hn0 : n0 ≤ h0.size) :
    own_Met l (⟨"java/lang/Math", "max", "(JJ)J"⟩ : MethodName) jdk_29_method_66_code 4 (some .long) ({ frames := 0, cells := 0, slots := 0, locals := 0 } : Room) Z n0 #[(.long u), (.long v)] h0 (some (.long (own_max u v))) (fun h' => h' = h0) := by
  refine own_met pn_rm4 hn0 ?_
  intro p e s m below meth c T X
  refine own_cast (ef_rm4 m u v) ?_
  generalize hΦ : own_Q n0 below s _ _ _ = Φ
  refine own_lloadN X (pc' := 1) d4_0 rfl rfl ?_
  refine own_lloadN X (pc' := 2) d4_1 rfl rfl ?_
  refine own_lcmp X (pc' := 3) d4_2 rfl ?_
  refine own_ifl_lt X (pct := 10) (pc' := 6) d4_3 rfl (by decide) (by decide) (fun hc3_1 => ?_) (fun hc3_1 => ?_)
  · refine own_lloadN X (pc' := 11) d4_10 rfl rfl ?_
    subst hΦ
    exact own_retL X d4_11 (by decide) (by decide) (by simp [own_max, *]) rfl
  · refine own_lloadN X (pc' := 7) d4_6 rfl rfl ?_
    refine own_goto X (pc' := 11) d4_7 (by decide) (by decide) ?_
    subst hΦ
    exact own_retL X d4_11 (by decide) (by decide) (by simp [own_max, *]) rfl
theorem d5_0 : decode prog_23_method_3_code 0 = .ok (.aload_n 0, 1) := by decide +kernel
theorem d5_1 : decode prog_23_method_3_code 1 = .ok (.getfield 7, 3) := by decide +kernel
theorem d5_4 : decode prog_23_method_3_code 4 = .ok (.lreturn, 1) := by decide +kernel
theorem pn_rm5 : plainFor (⟨"dev/tidemark/bench/Lateness", "maxNanos", "()J"⟩ : MethodName) = true := plainFor_of_name (by first | (simp [plainName, overriddenIn]; done) | decide +kernel)
theorem ef_rm5 (m : MethodId) (x0 : Addr) : entryFrame m #[(.ref x0)] 1 = mkF m 0 #[.val (.ref x0)] [] := by first | (simp [entryFrame, mkF, argsToLocals, Value.category]; done) | rfl
set_option maxRecDepth 65536 in
set_option maxHeartbeats 4000000 in
theorem rm5 (l : Launch) (Z : State) (a0 : Array Value) (hw : ∀ d ∈ tables_1, d.before a0 Z = true) (n0 : Nat) (a : Addr) (h0 : Heap) (hn0 : n0 ≤ h0.size) (mx : Int64) (bh : Int32) (lb : Int64) (D : own_D Z h0 a mx bh lb) :
    own_Met l (⟨"dev/tidemark/bench/Lateness", "maxNanos", "()J"⟩ : MethodName) prog_23_method_3_code 1 (some .long) ({ frames := 0, cells := 0, slots := 0, locals := 0 } : Room) Z n0 #[(.ref a)] h0 (some (.long mx)) (fun h' => h' = h0) := by
  refine own_met pn_rm5 hn0 ?_
  intro p e s m below meth c T X
  refine own_cast (ef_rm5 m a) ?_
  generalize hΦ : own_Q n0 below s _ _ _ = Φ
  obtain ⟨Ex, F_maxNanos, F_behind, F_lastBehind⟩ := D
  refine own_aloadN X (pc' := 1) d5_0 rfl rfl rfl ?_
  refine own_getF X (pc' := 4) (hw _ (List.mem_of_getElem? (i := 14) rfl)) F_maxNanos d5_1 rfl ?_
  intro T1 X1
  subst hΦ
  exact own_retL X1 d5_4 (by decide) (by decide) rfl rfl
theorem d6_0 : decode prog_23_method_4_code 0 = .ok (.aload_n 0, 1) := by decide +kernel
theorem d6_1 : decode prog_23_method_4_code 1 = .ok (.getfield 15, 3) := by decide +kernel
theorem d6_4 : decode prog_23_method_4_code 4 = .ok (.ifCond .eq 18, 3) := by decide +kernel
theorem d6_7 : decode prog_23_method_4_code 7 = .ok (.aload_n 0, 1) := by decide +kernel
theorem d6_8 : decode prog_23_method_4_code 8 = .ok (.getfield 19, 3) := by decide +kernel
theorem d6_11 : decode prog_23_method_4_code 11 = .ok (.lload_n 1, 1) := by decide +kernel
theorem d6_12 : decode prog_23_method_4_code 12 = .ok (.lsub, 1) := by decide +kernel
theorem d6_13 : decode prog_23_method_4_code 13 = .ok (.lconst 0, 1) := by decide +kernel
theorem d6_14 : decode prog_23_method_4_code 14 = .ok (.lcmp, 1) := by decide +kernel
theorem d6_15 : decode prog_23_method_4_code 15 = .ok (.ifCond .lt 7, 3) := by decide +kernel
theorem d6_18 : decode prog_23_method_4_code 18 = .ok (.iconst 1, 1) := by decide +kernel
theorem d6_19 : decode prog_23_method_4_code 19 = .ok (.goto 4, 3) := by decide +kernel
theorem d6_22 : decode prog_23_method_4_code 22 = .ok (.iconst 0, 1) := by decide +kernel
theorem d6_23 : decode prog_23_method_4_code 23 = .ok (.ireturn, 1) := by decide +kernel
theorem pn_rm6 : plainFor (⟨"dev/tidemark/bench/Lateness", "behindSince", "(J)Z"⟩ : MethodName) = true := plainFor_of_name (by first | (simp [plainName, overriddenIn]; done) | decide +kernel)
theorem ef_rm6 (m : MethodId) (x0 : Addr) (x1 : Int64) : entryFrame m #[(.ref x0), (.long x1)] 3 = mkF m 0 #[.val (.ref x0), .val (.long x1), .second] [] := by first | (simp [entryFrame, mkF, argsToLocals, Value.category]; done) | rfl
set_option maxRecDepth 65536 in
set_option maxHeartbeats 4000000 in
theorem rm6 (l : Launch) (Z : State) (a0 : Array Value) (hw : ∀ d ∈ tables_1, d.before a0 Z = true) (n0 : Nat) (a : Addr) (mo : Int64) (h0 : Heap) (hn0 : n0 ≤ h0.size) (mx : Int64) (bh : Int32) (lb : Int64) (D : own_D Z h0 a mx bh lb) :
    own_Met l (⟨"dev/tidemark/bench/Lateness", "behindSince", "(J)Z"⟩ : MethodName) prog_23_method_4_code 3 (some .boolean) ({ frames := 0, cells := 0, slots := 0, locals := 0 } : Room) Z n0 #[(.ref a), (.long mo)] h0 (some (.int (own_bs bh lb mo))) (fun h' => h' = h0) := by
  refine own_met pn_rm6 hn0 ?_
  intro p e s m below meth c T X
  refine own_cast (ef_rm6 m a mo) ?_
  generalize hΦ : own_Q n0 below s _ _ _ = Φ
  obtain ⟨Ex, F_maxNanos, F_behind, F_lastBehind⟩ := D
  refine own_aloadN X (pc' := 1) d6_0 rfl rfl rfl ?_
  refine own_getF X (pc' := 4) (hw _ (List.mem_of_getElem? (i := 32) rfl)) F_behind d6_1 rfl ?_
  intro T1 X1
  refine own_if_eq X1 (pct := 22) (pc' := 7) d6_4 rfl (by decide) (by decide) (fun hc4_2 => ?_) (fun hc4_2 => ?_)
  · refine own_iconst X1 (v := (0 : Int32)) (pc' := 23) d6_22 rfl (by decide) ?_
    subst hΦ
    exact own_retZ X1 d6_23 (by decide) (by decide) (by decide) (by simp [own_bs, *]) rfl
  · refine own_aloadN X1 (pc' := 8) d6_7 rfl rfl rfl ?_
    refine own_getF X1 (pc' := 11) (hw _ (List.mem_of_getElem? (i := 34) rfl)) F_lastBehind d6_8 rfl ?_
    intro T3 X3
    refine own_lloadN X3 (pc' := 12) d6_11 rfl rfl ?_
    refine own_lsub X3 (r := (lb - mo)) (pc' := 13) d6_12 rfl rfl ?_
    refine own_lconst X3 (v := (0 : Int64)) (pc' := 14) d6_13 rfl (by decide) ?_
    refine own_lcmp X3 (pc' := 15) d6_14 rfl ?_
    refine own_ifl_lt X3 (pct := 22) (pc' := 18) d6_15 rfl (by decide) (by decide) (fun hc15_4 => ?_) (fun hc15_4 => ?_)
    · refine own_iconst X3 (v := (0 : Int32)) (pc' := 23) d6_22 rfl (by decide) ?_
      subst hΦ
      exact own_retZ X3 d6_23 (by decide) (by decide) (by decide) (by simp [own_bs, *]) rfl
    · refine own_iconst X3 (v := (1 : Int32)) (pc' := 19) d6_18 rfl (by decide) ?_
      refine own_goto X3 (pc' := 23) d6_19 (by decide) (by decide) ?_
      subst hΦ
      exact own_retZ X3 d6_23 (by decide) (by decide) (by decide) (by simp [own_bs, *]) rfl
theorem pd_0 : parseMethodDescriptor "()V" = some ⟨[], none⟩ := by decide +kernel
theorem pd_1 : parseMethodDescriptor "(JJ)J" = some ⟨[.long, .long], some .long⟩ := by decide +kernel
theorem pd_2 : parseMethodDescriptor "()J" = some ⟨[], some .long⟩ := by decide +kernel
theorem pd_3 : parseMethodDescriptor "(J)Z" = some ⟨[.long], some .boolean⟩ := by decide +kernel
theorem pn_rm0 : plainFor (⟨"dev/tidemark/bench/LatenessReleasePinLaw", "law", "(JJJJJ)Z"⟩ : MethodName) = true := plainFor_of_name (by first | (simp [plainName, overriddenIn]; done) | decide +kernel)
theorem ef_rm0 (m : MethodId) (x0 : Int64) (x1 : Int64) (x2 : Int64) (x3 : Int64) (x4 : Int64) : entryFrame m #[(.long x0), (.long x1), (.long x2), (.long x3), (.long x4)] maxLocals = mkF m 0 #[.val (.long x0), .second, .val (.long x1), .second, .val (.long x2), .second, .val (.long x3), .second, .val (.long x4), .second, .unset, .unset, .unset, .unset, .unset, .unset, .unset, .unset, .unset, .unset, .unset, .unset, .unset, .unset] [] := by first | (simp [entryFrame, mkF, argsToLocals, Value.category, maxLocals]; done) | rfl
set_option maxRecDepth 65536 in
set_option maxHeartbeats 4000000 in
theorem rm0 (l : Launch) (Z : State) (a0 : Array Value) (hw : ∀ d ∈ tables_1, d.before a0 Z = true) (n0 : Nat) (now1 : Int64) (due1 : Int64) (now2 : Int64) (due2 : Int64) (mo : Int64) (h0 : Heap) (hn0 : n0 ≤ h0.size) :
    own_Met l x code maxLocals ret room_1 Z n0 #[(.long now1), (.long due1), (.long now2), (.long due2), (.long mo)] h0 (some (.int 1)) (fun _ => True) := by
  refine own_met pn_rm0 hn0 ?_
  intro p e s m below meth c T X
  refine own_cast (ef_rm0 m now1 due1 now2 due2 mo) ?_
  change own_S Z n0 code x 24 ret p l e room_1 s m _ below meth c T 0 0 h0 at X
  generalize hΦ : own_Q n0 below s _ _ _ = Φ
  refine own_new X (pc' := 3) (hw _ (List.mem_of_getElem? (i := 0) rfl)) (hw _ (List.mem_of_getElem? (i := 1) rfl)) (hw _ (List.mem_of_getElem? (i := 2) rfl)) at_0 rfl (by decide) (by decide) ?_
  intro T1 h1 ad1 X1 ge_ad1 g_ad1 E1 Ex1 D1
  have F1_maxNanos : Fld Z h1 ad1 "dev/tidemark/bench/Lateness" "maxNanos" "J" (.long (0 : Int64)) := D1 (Or.inl (hw _ (List.mem_of_getElem? (i := 15) rfl))) (ty := .long) (by decide)
  have F1_behind : Fld Z h1 ad1 "dev/tidemark/bench/Lateness" "behind" "Z" (.int (0 : Int32)) := D1 (Or.inl (hw _ (List.mem_of_getElem? (i := 33) rfl))) (ty := .boolean) (by decide)
  have F1_lastBehind : Fld Z h1 ad1 "dev/tidemark/bench/Lateness" "lastBehind" "J" (.long (0 : Int64)) := D1 (Or.inl (hw _ (List.mem_of_getElem? (i := 35) rfl))) (ty := .long) (by decide)
  refine own_dup X1 (pc' := 4) at_3 rfl rfl ?_
  refine own_callI X1 (W := 1) (a := ad1) (argsL := []) (rest := [(.ref ad1)]) (S' := [(.ref ad1)]) (pc' := 7) (rm1 l Z a0 hw n0 ad1 h1 X1.size) rfl (hw _ (List.mem_of_getElem? (i := 3) rfl)) (hw _ (List.mem_of_getElem? (i := 4) rfl)) (hw _ (List.mem_of_getElem? (i := 2) rfl)) (hw _ (List.mem_of_getElem? (i := 5) rfl)) (by decide) (by decide) (by decide) rfl rfl (by decide) (by decide) (lenOf pd_0 rfl) rfl (by first | decide | exact Nat.le_of_eq rfl) rfl at_4 rfl rfl ?_
  intro T2 h2 X2 qq2
  rw [show h2 = h1 from qq2] at X2
  refine own_astore X2 (pc' := 9) (Ls' := #[.val (.long now1), .second, .val (.long due1), .second, .val (.long now2), .second, .val (.long due2), .second, .val (.long mo), .second, .val (.ref ad1), .unset, .unset, .unset, .unset, .unset, .unset, .unset, .unset, .unset, .unset, .unset, .unset, .unset]) at_7 rfl rfl rfl ?_
  refine own_aload X2 (pc' := 11) at_9 rfl rfl rfl ?_
  refine own_lloadN X2 (pc' := 12) at_11 rfl rfl ?_
  refine own_lloadN X2 (pc' := 13) at_12 rfl rfl ?_
  refine own_callV X2 (W := 0) (a := ad1) (argsL := [(.long now1), (.long due1)]) (rest := []) (S' := [(.long (now1 - due1))]) (pc' := 16) (rm3 l Z a0 hw n0 ad1 now1 due1 h1 X2.size (0 : Int64) (0 : Int32) (0 : Int64) ⟨Ex1, F1_maxNanos, F1_behind, F1_lastBehind⟩ ge_ad1) Ex1 (hw _ (List.mem_of_getElem? (i := 9) rfl)) (hw _ (List.mem_of_getElem? (i := 10) rfl)) (hw _ (List.mem_of_getElem? (i := 12) rfl)) (hw _ (List.mem_of_getElem? (i := 11) rfl)) (hw _ (List.mem_of_getElem? (i := 2) rfl)) (hw _ (List.mem_of_getElem? (i := 13) rfl)) (by decide) (by decide) (by decide) rfl rfl (by decide) (by decide) (lenOf pd_1 rfl) rfl (by first | decide | exact Nat.le_of_eq rfl) rfl at_13 rfl rfl ?_
  intro T3 h3 X3 qq3
  obtain ⟨⟨Ex4, F4_maxNanos, F4_behind, F4_lastBehind⟩, K4⟩ := qq3
  refine own_lstore X3 (pc' := 18) (Ls' := #[.val (.long now1), .second, .val (.long due1), .second, .val (.long now2), .second, .val (.long due2), .second, .val (.long mo), .second, .val (.ref ad1), .val (.long (now1 - due1)), .second, .unset, .unset, .unset, .unset, .unset, .unset, .unset, .unset, .unset, .unset, .unset]) at_16 rfl rfl ?_
  refine own_lload X3 (pc' := 20) at_18 rfl rfl ?_
  refine own_lloadN X3 (pc' := 21) at_20 rfl rfl ?_
  refine own_ladd X3 (r := ((now1 - due1) + due1)) (pc' := 22) at_21 rfl rfl ?_
  refine own_lloadN X3 (pc' := 23) at_22 rfl rfl ?_
  refine own_lcmp X3 (pc' := 24) at_23 rfl ?_
  refine own_ifl_ne X3 (pct := 31) (pc' := 27) at_24 rfl (by decide) (by decide) (fun hc => absurd hc (fun q => q (own_add _ _))) (fun _ => ?_)
  refine own_iconst X3 (v := (1 : Int32)) (pc' := 28) at_27 rfl (by decide) ?_
  refine own_goto X3 (pc' := 32) at_28 (by decide) (by decide) ?_
  refine own_istore X3 (pc' := 34) (Ls' := #[.val (.long now1), .second, .val (.long due1), .second, .val (.long now2), .second, .val (.long due2), .second, .val (.long mo), .second, .val (.ref ad1), .val (.long (now1 - due1)), .second, .val (.int (1 : Int32)), .unset, .unset, .unset, .unset, .unset, .unset, .unset, .unset, .unset, .unset]) at_32 rfl rfl ?_
  refine own_lconst X3 (v := (0 : Int64)) (pc' := 35) at_34 rfl (by decide) ?_
  refine own_lload X3 (pc' := 37) at_35 rfl rfl ?_
  refine own_callS X3 (W := 0) (argsL := [(.long (0 : Int64)), (.long (now1 - due1))]) (rest := []) (S' := [(.long (own_max (0 : Int64) (now1 - due1)))]) (pc' := 40) (rm4 l Z a0 hw n0 (0 : Int64) (now1 - due1) h3 X3.size) (hw _ (List.mem_of_getElem? (i := 17) rfl)) (hw _ (List.mem_of_getElem? (i := 18) rfl)) (hw _ (List.mem_of_getElem? (i := 19) rfl)) (hw _ (List.mem_of_getElem? (i := 20) rfl)) (by decide) (by decide) (by decide) rfl rfl (by decide) (by decide) (lenOf pd_1 rfl) rfl (by first | decide | exact Nat.le_of_eq rfl) rfl at_37 rfl rfl ?_
  intro T5 h5 X5 qq5
  rw [show h5 = h3 from qq5] at X5
  refine own_lstore X5 (pc' := 42) (Ls' := #[.val (.long now1), .second, .val (.long due1), .second, .val (.long now2), .second, .val (.long due2), .second, .val (.long mo), .second, .val (.ref ad1), .val (.long (now1 - due1)), .second, .val (.int (1 : Int32)), .val (.long (own_max (0 : Int64) (now1 - due1))), .second, .unset, .unset, .unset, .unset, .unset, .unset, .unset, .unset]) at_40 rfl rfl ?_
  refine own_lload X5 (pc' := 44) at_42 rfl rfl ?_
  refine own_ldc2 X5 (pc' := 47) (hw _ (List.mem_of_getElem? (i := 21) rfl)) at_44 rfl ?_
  refine own_lcmp X5 (pc' := 48) at_47 rfl ?_
  refine own_ifl_le X5 (pct := 55) (pc' := 51) at_48 rfl (by decide) (by decide) (fun hc48_6 => ?_) (fun hc48_6 => ?_)
  · refine own_iconst X5 (v := (0 : Int32)) (pc' := 56) at_55 rfl (by decide) ?_
    refine own_istore X5 (pc' := 58) (Ls' := #[.val (.long now1), .second, .val (.long due1), .second, .val (.long now2), .second, .val (.long due2), .second, .val (.long mo), .second, .val (.ref ad1), .val (.long (now1 - due1)), .second, .val (.int (1 : Int32)), .val (.long (own_max (0 : Int64) (now1 - due1))), .second, .val (.int (0 : Int32)), .unset, .unset, .unset, .unset, .unset, .unset, .unset]) at_56 rfl rfl ?_
    refine own_iload X5 (pc' := 60) at_58 rfl rfl ?_
    refine own_if_eq X5 (pct := 78) (pc' := 63) at_60 rfl (by decide) (by decide) (fun hc => absurd hc (by decide)) (fun _ => ?_)
    refine own_aload X5 (pc' := 65) at_63 rfl rfl rfl ?_
    refine own_callV X5 (W := 0) (a := ad1) (argsL := []) (rest := []) (S' := [(.long (own_mx (0 : Int64) (now1 - due1)))]) (pc' := 68) (rm5 l Z a0 hw n0 ad1 h3 X5.size (own_mx (0 : Int64) (now1 - due1)) (own_bh (0 : Int32) (now1 - due1)) (own_lb (0 : Int64) (now1 - due1) now1) ⟨Ex4, F4_maxNanos, F4_behind, F4_lastBehind⟩) Ex4 (hw _ (List.mem_of_getElem? (i := 22) rfl)) (hw _ (List.mem_of_getElem? (i := 23) rfl)) (hw _ (List.mem_of_getElem? (i := 25) rfl)) (hw _ (List.mem_of_getElem? (i := 24) rfl)) (hw _ (List.mem_of_getElem? (i := 2) rfl)) (hw _ (List.mem_of_getElem? (i := 26) rfl)) (by decide) (by decide) (by decide) rfl rfl (by decide) (by decide) (lenOf pd_2 rfl) rfl (by first | decide | exact Nat.le_of_eq rfl) rfl at_65 rfl rfl ?_
    intro T7 h7 X7 qq7
    rw [show h7 = h3 from qq7] at X7
    refine own_lload X7 (pc' := 70) at_68 rfl rfl ?_
    refine own_lcmp X7 (pc' := 71) at_70 rfl ?_
    refine own_ifl_ne X7 (pct := 78) (pc' := 74) at_71 rfl (by decide) (by decide) (fun hc => absurd hc (fun q => q rfl)) (fun _ => ?_)
    refine own_iconst X7 (v := (1 : Int32)) (pc' := 75) at_74 rfl (by decide) ?_
    refine own_goto X7 (pc' := 79) at_75 (by decide) (by decide) ?_
    refine own_istore X7 (pc' := 81) (Ls' := #[.val (.long now1), .second, .val (.long due1), .second, .val (.long now2), .second, .val (.long due2), .second, .val (.long mo), .second, .val (.ref ad1), .val (.long (now1 - due1)), .second, .val (.int (1 : Int32)), .val (.long (own_max (0 : Int64) (now1 - due1))), .second, .val (.int (0 : Int32)), .unset, .unset, .unset, .unset, .unset, .unset, .unset]) at_79 rfl rfl ?_
    refine own_iload X7 (pc' := 83) at_81 rfl rfl ?_
    refine own_if_eq X7 (pct := 119) (pc' := 86) at_83 rfl (by decide) (by decide) (fun hc => absurd hc (by decide)) (fun _ => ?_)
    refine own_aload X7 (pc' := 88) at_86 rfl rfl rfl ?_
    refine own_lload X7 (pc' := 90) at_88 rfl rfl ?_
    refine own_callV X7 (W := 0) (a := ad1) (argsL := [(.long mo)]) (rest := []) (S' := [(.int (own_bs (own_bh (0 : Int32) (now1 - due1)) (own_lb (0 : Int64) (now1 - due1) now1) mo))]) (pc' := 93) (rm6 l Z a0 hw n0 ad1 mo h3 X7.size (own_mx (0 : Int64) (now1 - due1)) (own_bh (0 : Int32) (now1 - due1)) (own_lb (0 : Int64) (now1 - due1) now1) ⟨Ex4, F4_maxNanos, F4_behind, F4_lastBehind⟩) Ex4 (hw _ (List.mem_of_getElem? (i := 27) rfl)) (hw _ (List.mem_of_getElem? (i := 28) rfl)) (hw _ (List.mem_of_getElem? (i := 30) rfl)) (hw _ (List.mem_of_getElem? (i := 29) rfl)) (hw _ (List.mem_of_getElem? (i := 2) rfl)) (hw _ (List.mem_of_getElem? (i := 31) rfl)) (by decide) (by decide) (by decide) rfl rfl (by decide) (by decide) (lenOf pd_3 rfl) rfl (by first | decide | exact Nat.le_of_eq rfl) rfl at_90 rfl rfl ?_
    intro T8 h8 X8 qq8
    rw [show h8 = h3 from qq8] at X8
    refine own_iload X8 (pc' := 95) at_93 rfl rfl ?_
    refine own_if_eq X8 (pct := 111) (pc' := 98) at_95 rfl (by decide) (by decide) (fun _ => ?_) (fun hc => absurd hc (by decide))
    refine own_iconst X8 (v := (0 : Int32)) (pc' := 112) at_111 rfl (by decide) ?_
    refine own_icmp_ne X8 (pct := 119) (pc' := 115) at_112 rfl (by decide) (by decide) (fun hc => absurd hc (by first | (simp [own_bs, own_bh, own_lb, hc48_6]; done) | (exfalso; contradiction))) (fun _ => ?_)
    refine own_iconst X8 (v := (1 : Int32)) (pc' := 116) at_115 rfl (by decide) ?_
    refine own_goto X8 (pc' := 120) at_116 (by decide) (by decide) ?_
    refine own_istore X8 (pc' := 122) (Ls' := #[.val (.long now1), .second, .val (.long due1), .second, .val (.long now2), .second, .val (.long due2), .second, .val (.long mo), .second, .val (.ref ad1), .val (.long (now1 - due1)), .second, .val (.int (1 : Int32)), .val (.long (own_max (0 : Int64) (now1 - due1))), .second, .val (.int (0 : Int32)), .unset, .unset, .unset, .unset, .unset, .unset, .unset]) at_120 rfl rfl ?_
    refine own_aload X8 (pc' := 124) at_122 rfl rfl rfl ?_
    refine own_lload X8 (pc' := 126) at_124 rfl rfl ?_
    refine own_lload X8 (pc' := 128) at_126 rfl rfl ?_
    refine own_callV X8 (W := 0) (a := ad1) (argsL := [(.long now2), (.long due2)]) (rest := []) (S' := [(.long (now2 - due2))]) (pc' := 131) (rm3 l Z a0 hw n0 ad1 now2 due2 h3 X8.size (own_mx (0 : Int64) (now1 - due1)) (own_bh (0 : Int32) (now1 - due1)) (own_lb (0 : Int64) (now1 - due1) now1) ⟨Ex4, F4_maxNanos, F4_behind, F4_lastBehind⟩ ge_ad1) Ex4 (hw _ (List.mem_of_getElem? (i := 9) rfl)) (hw _ (List.mem_of_getElem? (i := 10) rfl)) (hw _ (List.mem_of_getElem? (i := 12) rfl)) (hw _ (List.mem_of_getElem? (i := 11) rfl)) (hw _ (List.mem_of_getElem? (i := 2) rfl)) (hw _ (List.mem_of_getElem? (i := 13) rfl)) (by decide) (by decide) (by decide) rfl rfl (by decide) (by decide) (lenOf pd_1 rfl) rfl (by first | decide | exact Nat.le_of_eq rfl) rfl at_128 rfl rfl ?_
    intro T9 h9 X9 qq9
    obtain ⟨⟨Ex10, F10_maxNanos, F10_behind, F10_lastBehind⟩, K10⟩ := qq9
    refine own_lstore X9 (pc' := 133) (Ls' := #[.val (.long now1), .second, .val (.long due1), .second, .val (.long now2), .second, .val (.long due2), .second, .val (.long mo), .second, .val (.ref ad1), .val (.long (now1 - due1)), .second, .val (.int (1 : Int32)), .val (.long (own_max (0 : Int64) (now1 - due1))), .second, .val (.int (0 : Int32)), .val (.long (now2 - due2)), .second, .unset, .unset, .unset, .unset, .unset]) at_131 rfl rfl ?_
    refine own_iload X9 (pc' := 135) at_133 rfl rfl ?_
    refine own_if_eq X9 (pct := 153) (pc' := 138) at_135 rfl (by decide) (by decide) (fun hc => absurd hc (by decide)) (fun _ => ?_)
    refine own_lload X9 (pc' := 140) at_138 rfl rfl ?_
    refine own_lload X9 (pc' := 142) at_140 rfl rfl ?_
    refine own_ladd X9 (r := ((now2 - due2) + due2)) (pc' := 143) at_142 rfl rfl ?_
    refine own_lload X9 (pc' := 145) at_143 rfl rfl ?_
    refine own_lcmp X9 (pc' := 146) at_145 rfl ?_
    refine own_ifl_ne X9 (pct := 153) (pc' := 149) at_146 rfl (by decide) (by decide) (fun hc => absurd hc (fun q => q (own_add _ _))) (fun _ => ?_)
    refine own_iconst X9 (v := (1 : Int32)) (pc' := 150) at_149 rfl (by decide) ?_
    refine own_goto X9 (pc' := 154) at_150 (by decide) (by decide) ?_
    refine own_istore X9 (pc' := 156) (Ls' := #[.val (.long now1), .second, .val (.long due1), .second, .val (.long now2), .second, .val (.long due2), .second, .val (.long mo), .second, .val (.ref ad1), .val (.long (now1 - due1)), .second, .val (.int (1 : Int32)), .val (.long (own_max (0 : Int64) (now1 - due1))), .second, .val (.int (0 : Int32)), .val (.long (now2 - due2)), .second, .unset, .unset, .unset, .unset, .unset]) at_154 rfl rfl ?_
    refine own_lload X9 (pc' := 158) at_156 rfl rfl ?_
    refine own_lload X9 (pc' := 160) at_158 rfl rfl ?_
    refine own_callS X9 (W := 0) (argsL := [(.long (own_max (0 : Int64) (now1 - due1))), (.long (now2 - due2))]) (rest := []) (S' := [(.long (own_max (own_max (0 : Int64) (now1 - due1)) (now2 - due2)))]) (pc' := 163) (rm4 l Z a0 hw n0 (own_max (0 : Int64) (now1 - due1)) (now2 - due2) h9 X9.size) (hw _ (List.mem_of_getElem? (i := 17) rfl)) (hw _ (List.mem_of_getElem? (i := 18) rfl)) (hw _ (List.mem_of_getElem? (i := 19) rfl)) (hw _ (List.mem_of_getElem? (i := 20) rfl)) (by decide) (by decide) (by decide) rfl rfl (by decide) (by decide) (lenOf pd_1 rfl) rfl (by first | decide | exact Nat.le_of_eq rfl) rfl at_160 rfl rfl ?_
    intro T11 h11 X11 qq11
    rw [show h11 = h9 from qq11] at X11
    refine own_lstore X11 (pc' := 165) (Ls' := #[.val (.long now1), .second, .val (.long due1), .second, .val (.long now2), .second, .val (.long due2), .second, .val (.long mo), .second, .val (.ref ad1), .val (.long (now1 - due1)), .second, .val (.int (1 : Int32)), .val (.long (own_max (0 : Int64) (now1 - due1))), .second, .val (.int (0 : Int32)), .val (.long (now2 - due2)), .second, .val (.long (own_max (own_max (0 : Int64) (now1 - due1)) (now2 - due2))), .second, .unset, .unset, .unset]) at_163 rfl rfl ?_
    refine own_lload X11 (pc' := 167) at_165 rfl rfl ?_
    refine own_ldc2 X11 (pc' := 170) (hw _ (List.mem_of_getElem? (i := 21) rfl)) at_167 rfl ?_
    refine own_lcmp X11 (pc' := 171) at_170 rfl ?_
    refine own_ifl_le X11 (pct := 178) (pc' := 174) at_171 rfl (by decide) (by decide) (fun hc171_12 => ?_) (fun hc171_12 => ?_)
    · refine own_iconst X11 (v := (0 : Int32)) (pc' := 179) at_178 rfl (by decide) ?_
      refine own_istore X11 (pc' := 181) (Ls' := #[.val (.long now1), .second, .val (.long due1), .second, .val (.long now2), .second, .val (.long due2), .second, .val (.long mo), .second, .val (.ref ad1), .val (.long (now1 - due1)), .second, .val (.int (1 : Int32)), .val (.long (own_max (0 : Int64) (now1 - due1))), .second, .val (.int (0 : Int32)), .val (.long (now2 - due2)), .second, .val (.long (own_max (own_max (0 : Int64) (now1 - due1)) (now2 - due2))), .second, .val (.int (0 : Int32)), .unset, .unset]) at_179 rfl rfl ?_
      refine own_iload X11 (pc' := 183) at_181 rfl rfl ?_
      refine own_if_eq X11 (pct := 191) (pc' := 186) at_183 rfl (by decide) (by decide) (fun _ => ?_) (fun hc => absurd hc (by decide))
      refine own_lloadN X11 (pc' := 192) at_191 rfl rfl ?_
      refine own_lstore X11 (pc' := 194) (Ls' := #[.val (.long now1), .second, .val (.long due1), .second, .val (.long now2), .second, .val (.long due2), .second, .val (.long mo), .second, .val (.ref ad1), .val (.long (now1 - due1)), .second, .val (.int (1 : Int32)), .val (.long (own_max (0 : Int64) (now1 - due1))), .second, .val (.int (0 : Int32)), .val (.long (now2 - due2)), .second, .val (.long (own_max (own_max (0 : Int64) (now1 - due1)) (now2 - due2))), .second, .val (.int (0 : Int32)), .val (.long now1), .second]) at_192 rfl rfl ?_
      refine own_iload X11 (pc' := 196) at_194 rfl rfl ?_
      refine own_if_eq X11 (pct := 214) (pc' := 199) at_196 rfl (by decide) (by decide) (fun hc => absurd hc (by decide)) (fun _ => ?_)
      refine own_aload X11 (pc' := 201) at_199 rfl rfl rfl ?_
      refine own_callV X11 (W := 0) (a := ad1) (argsL := []) (rest := []) (S' := [(.long (own_mx (own_mx (0 : Int64) (now1 - due1)) (now2 - due2)))]) (pc' := 204) (rm5 l Z a0 hw n0 ad1 h9 X11.size (own_mx (own_mx (0 : Int64) (now1 - due1)) (now2 - due2)) (own_bh (own_bh (0 : Int32) (now1 - due1)) (now2 - due2)) (own_lb (own_lb (0 : Int64) (now1 - due1) now1) (now2 - due2) now2) ⟨Ex10, F10_maxNanos, F10_behind, F10_lastBehind⟩) Ex10 (hw _ (List.mem_of_getElem? (i := 22) rfl)) (hw _ (List.mem_of_getElem? (i := 23) rfl)) (hw _ (List.mem_of_getElem? (i := 25) rfl)) (hw _ (List.mem_of_getElem? (i := 24) rfl)) (hw _ (List.mem_of_getElem? (i := 2) rfl)) (hw _ (List.mem_of_getElem? (i := 26) rfl)) (by decide) (by decide) (by decide) rfl rfl (by decide) (by decide) (lenOf pd_2 rfl) rfl (by first | decide | exact Nat.le_of_eq rfl) rfl at_201 rfl rfl ?_
      intro T13 h13 X13 qq13
      rw [show h13 = h9 from qq13] at X13
      refine own_lload X13 (pc' := 206) at_204 rfl rfl ?_
      refine own_lcmp X13 (pc' := 207) at_206 rfl ?_
      refine own_ifl_ne X13 (pct := 214) (pc' := 210) at_207 rfl (by decide) (by decide) (fun hc => absurd hc (fun q => q rfl)) (fun _ => ?_)
      refine own_iconst X13 (v := (1 : Int32)) (pc' := 211) at_210 rfl (by decide) ?_
      refine own_goto X13 (pc' := 215) at_211 (by decide) (by decide) ?_
      refine own_istore X13 (pc' := 217) (Ls' := #[.val (.long now1), .second, .val (.long due1), .second, .val (.long now2), .second, .val (.long due2), .second, .val (.long mo), .second, .val (.ref ad1), .val (.long (now1 - due1)), .second, .val (.int (1 : Int32)), .val (.long (own_max (0 : Int64) (now1 - due1))), .second, .val (.int (0 : Int32)), .val (.long (now2 - due2)), .second, .val (.long (own_max (own_max (0 : Int64) (now1 - due1)) (now2 - due2))), .second, .val (.int (0 : Int32)), .val (.long now1), .second]) at_215 rfl rfl ?_
      refine own_iload X13 (pc' := 219) at_217 rfl rfl ?_
      refine own_if_eq X13 (pct := 261) (pc' := 222) at_219 rfl (by decide) (by decide) (fun hc => absurd hc (by decide)) (fun _ => ?_)
      refine own_aload X13 (pc' := 224) at_222 rfl rfl rfl ?_
      refine own_lload X13 (pc' := 226) at_224 rfl rfl ?_
      refine own_callV X13 (W := 0) (a := ad1) (argsL := [(.long mo)]) (rest := []) (S' := [(.int (own_bs (own_bh (own_bh (0 : Int32) (now1 - due1)) (now2 - due2)) (own_lb (own_lb (0 : Int64) (now1 - due1) now1) (now2 - due2) now2) mo))]) (pc' := 229) (rm6 l Z a0 hw n0 ad1 mo h9 X13.size (own_mx (own_mx (0 : Int64) (now1 - due1)) (now2 - due2)) (own_bh (own_bh (0 : Int32) (now1 - due1)) (now2 - due2)) (own_lb (own_lb (0 : Int64) (now1 - due1) now1) (now2 - due2) now2) ⟨Ex10, F10_maxNanos, F10_behind, F10_lastBehind⟩) Ex10 (hw _ (List.mem_of_getElem? (i := 27) rfl)) (hw _ (List.mem_of_getElem? (i := 28) rfl)) (hw _ (List.mem_of_getElem? (i := 30) rfl)) (hw _ (List.mem_of_getElem? (i := 29) rfl)) (hw _ (List.mem_of_getElem? (i := 2) rfl)) (hw _ (List.mem_of_getElem? (i := 31) rfl)) (by decide) (by decide) (by decide) rfl rfl (by decide) (by decide) (lenOf pd_3 rfl) rfl (by first | decide | exact Nat.le_of_eq rfl) rfl at_226 rfl rfl ?_
      intro T14 h14 X14 qq14
      rw [show h14 = h9 from qq14] at X14
      refine own_iload X14 (pc' := 231) at_229 rfl rfl ?_
      refine own_if_ne X14 (pct := 239) (pc' := 234) at_231 rfl (by decide) (by decide) (fun hc => absurd hc (by decide)) (fun _ => ?_)
      refine own_iload X14 (pc' := 236) at_234 rfl rfl ?_
      refine own_if_eq X14 (pct := 253) (pc' := 239) at_236 rfl (by decide) (by decide) (fun _ => ?_) (fun hc => absurd hc (by decide))
      refine own_iconst X14 (v := (0 : Int32)) (pc' := 254) at_253 rfl (by decide) ?_
      refine own_icmp_ne X14 (pct := 261) (pc' := 257) at_254 rfl (by decide) (by decide) (fun hc => absurd hc (by first | (simp [own_bs, own_bh, own_lb, hc48_6, hc171_12]; done) | (exfalso; contradiction))) (fun _ => ?_)
      refine own_iconst X14 (v := (1 : Int32)) (pc' := 258) at_257 rfl (by decide) ?_
      refine own_goto X14 (pc' := 262) at_258 (by decide) (by decide) ?_
      refine own_istore X14 (pc' := 264) (Ls' := #[.val (.long now1), .second, .val (.long due1), .second, .val (.long now2), .second, .val (.long due2), .second, .val (.long mo), .second, .val (.ref ad1), .val (.long (now1 - due1)), .second, .val (.int (1 : Int32)), .val (.long (own_max (0 : Int64) (now1 - due1))), .second, .val (.int (0 : Int32)), .val (.long (now2 - due2)), .second, .val (.long (own_max (own_max (0 : Int64) (now1 - due1)) (now2 - due2))), .second, .val (.int (0 : Int32)), .val (.long now1), .second]) at_262 rfl rfl ?_
      refine own_iload X14 (pc' := 266) at_264 rfl rfl ?_
      subst hΦ
      exact own_retZ X14 at_266 (by decide) (by decide) (by decide) rfl trivial
    · refine own_iconst X11 (v := (1 : Int32)) (pc' := 175) at_174 rfl (by decide) ?_
      refine own_goto X11 (pc' := 179) at_175 (by decide) (by decide) ?_
      refine own_istore X11 (pc' := 181) (Ls' := #[.val (.long now1), .second, .val (.long due1), .second, .val (.long now2), .second, .val (.long due2), .second, .val (.long mo), .second, .val (.ref ad1), .val (.long (now1 - due1)), .second, .val (.int (1 : Int32)), .val (.long (own_max (0 : Int64) (now1 - due1))), .second, .val (.int (0 : Int32)), .val (.long (now2 - due2)), .second, .val (.long (own_max (own_max (0 : Int64) (now1 - due1)) (now2 - due2))), .second, .val (.int (1 : Int32)), .unset, .unset]) at_179 rfl rfl ?_
      refine own_iload X11 (pc' := 183) at_181 rfl rfl ?_
      refine own_if_eq X11 (pct := 191) (pc' := 186) at_183 rfl (by decide) (by decide) (fun hc => absurd hc (by decide)) (fun _ => ?_)
      refine own_lload X11 (pc' := 188) at_186 rfl rfl ?_
      refine own_goto X11 (pc' := 192) at_188 (by decide) (by decide) ?_
      refine own_lstore X11 (pc' := 194) (Ls' := #[.val (.long now1), .second, .val (.long due1), .second, .val (.long now2), .second, .val (.long due2), .second, .val (.long mo), .second, .val (.ref ad1), .val (.long (now1 - due1)), .second, .val (.int (1 : Int32)), .val (.long (own_max (0 : Int64) (now1 - due1))), .second, .val (.int (0 : Int32)), .val (.long (now2 - due2)), .second, .val (.long (own_max (own_max (0 : Int64) (now1 - due1)) (now2 - due2))), .second, .val (.int (1 : Int32)), .val (.long now2), .second]) at_192 rfl rfl ?_
      refine own_iload X11 (pc' := 196) at_194 rfl rfl ?_
      refine own_if_eq X11 (pct := 214) (pc' := 199) at_196 rfl (by decide) (by decide) (fun hc => absurd hc (by decide)) (fun _ => ?_)
      refine own_aload X11 (pc' := 201) at_199 rfl rfl rfl ?_
      refine own_callV X11 (W := 0) (a := ad1) (argsL := []) (rest := []) (S' := [(.long (own_mx (own_mx (0 : Int64) (now1 - due1)) (now2 - due2)))]) (pc' := 204) (rm5 l Z a0 hw n0 ad1 h9 X11.size (own_mx (own_mx (0 : Int64) (now1 - due1)) (now2 - due2)) (own_bh (own_bh (0 : Int32) (now1 - due1)) (now2 - due2)) (own_lb (own_lb (0 : Int64) (now1 - due1) now1) (now2 - due2) now2) ⟨Ex10, F10_maxNanos, F10_behind, F10_lastBehind⟩) Ex10 (hw _ (List.mem_of_getElem? (i := 22) rfl)) (hw _ (List.mem_of_getElem? (i := 23) rfl)) (hw _ (List.mem_of_getElem? (i := 25) rfl)) (hw _ (List.mem_of_getElem? (i := 24) rfl)) (hw _ (List.mem_of_getElem? (i := 2) rfl)) (hw _ (List.mem_of_getElem? (i := 26) rfl)) (by decide) (by decide) (by decide) rfl rfl (by decide) (by decide) (lenOf pd_2 rfl) rfl (by first | decide | exact Nat.le_of_eq rfl) rfl at_201 rfl rfl ?_
      intro T15 h15 X15 qq15
      rw [show h15 = h9 from qq15] at X15
      refine own_lload X15 (pc' := 206) at_204 rfl rfl ?_
      refine own_lcmp X15 (pc' := 207) at_206 rfl ?_
      refine own_ifl_ne X15 (pct := 214) (pc' := 210) at_207 rfl (by decide) (by decide) (fun hc => absurd hc (fun q => q rfl)) (fun _ => ?_)
      refine own_iconst X15 (v := (1 : Int32)) (pc' := 211) at_210 rfl (by decide) ?_
      refine own_goto X15 (pc' := 215) at_211 (by decide) (by decide) ?_
      refine own_istore X15 (pc' := 217) (Ls' := #[.val (.long now1), .second, .val (.long due1), .second, .val (.long now2), .second, .val (.long due2), .second, .val (.long mo), .second, .val (.ref ad1), .val (.long (now1 - due1)), .second, .val (.int (1 : Int32)), .val (.long (own_max (0 : Int64) (now1 - due1))), .second, .val (.int (0 : Int32)), .val (.long (now2 - due2)), .second, .val (.long (own_max (own_max (0 : Int64) (now1 - due1)) (now2 - due2))), .second, .val (.int (1 : Int32)), .val (.long now2), .second]) at_215 rfl rfl ?_
      refine own_iload X15 (pc' := 219) at_217 rfl rfl ?_
      refine own_if_eq X15 (pct := 261) (pc' := 222) at_219 rfl (by decide) (by decide) (fun hc => absurd hc (by decide)) (fun _ => ?_)
      refine own_aload X15 (pc' := 224) at_222 rfl rfl rfl ?_
      refine own_lload X15 (pc' := 226) at_224 rfl rfl ?_
      refine own_callV X15 (W := 0) (a := ad1) (argsL := [(.long mo)]) (rest := []) (S' := [(.int (own_bs (own_bh (own_bh (0 : Int32) (now1 - due1)) (now2 - due2)) (own_lb (own_lb (0 : Int64) (now1 - due1) now1) (now2 - due2) now2) mo))]) (pc' := 229) (rm6 l Z a0 hw n0 ad1 mo h9 X15.size (own_mx (own_mx (0 : Int64) (now1 - due1)) (now2 - due2)) (own_bh (own_bh (0 : Int32) (now1 - due1)) (now2 - due2)) (own_lb (own_lb (0 : Int64) (now1 - due1) now1) (now2 - due2) now2) ⟨Ex10, F10_maxNanos, F10_behind, F10_lastBehind⟩) Ex10 (hw _ (List.mem_of_getElem? (i := 27) rfl)) (hw _ (List.mem_of_getElem? (i := 28) rfl)) (hw _ (List.mem_of_getElem? (i := 30) rfl)) (hw _ (List.mem_of_getElem? (i := 29) rfl)) (hw _ (List.mem_of_getElem? (i := 2) rfl)) (hw _ (List.mem_of_getElem? (i := 31) rfl)) (by decide) (by decide) (by decide) rfl rfl (by decide) (by decide) (lenOf pd_3 rfl) rfl (by first | decide | exact Nat.le_of_eq rfl) rfl at_226 rfl rfl ?_
      intro T16 h16 X16 qq16
      rw [show h16 = h9 from qq16] at X16
      refine own_iload X16 (pc' := 231) at_229 rfl rfl ?_
      refine own_if_ne X16 (pct := 239) (pc' := 234) at_231 rfl (by decide) (by decide) (fun hc => absurd hc (by decide)) (fun _ => ?_)
      refine own_iload X16 (pc' := 236) at_234 rfl rfl ?_
      refine own_if_eq X16 (pct := 253) (pc' := 239) at_236 rfl (by decide) (by decide) (fun hc => absurd hc (by decide)) (fun _ => ?_)
      refine own_lload X16 (pc' := 241) at_239 rfl rfl ?_
      refine own_lload X16 (pc' := 243) at_241 rfl rfl ?_
      refine own_lsub X16 (r := (now2 - mo)) (pc' := 244) at_243 rfl rfl ?_
      refine own_lconst X16 (v := (0 : Int64)) (pc' := 245) at_244 rfl (by decide) ?_
      refine own_lcmp X16 (pc' := 246) at_245 rfl ?_
      refine own_ifl_lt X16 (pct := 253) (pc' := 249) at_246 rfl (by decide) (by decide) (fun hc246_17 => ?_) (fun hc246_17 => ?_)
      · refine own_iconst X16 (v := (0 : Int32)) (pc' := 254) at_253 rfl (by decide) ?_
        refine own_icmp_ne X16 (pct := 261) (pc' := 257) at_254 rfl (by decide) (by decide) (fun hc => absurd hc (by first | (simp [own_bs, own_bh, own_lb, hc48_6, hc171_12, hc246_17]; done) | (exfalso; contradiction))) (fun _ => ?_)
        refine own_iconst X16 (v := (1 : Int32)) (pc' := 258) at_257 rfl (by decide) ?_
        refine own_goto X16 (pc' := 262) at_258 (by decide) (by decide) ?_
        refine own_istore X16 (pc' := 264) (Ls' := #[.val (.long now1), .second, .val (.long due1), .second, .val (.long now2), .second, .val (.long due2), .second, .val (.long mo), .second, .val (.ref ad1), .val (.long (now1 - due1)), .second, .val (.int (1 : Int32)), .val (.long (own_max (0 : Int64) (now1 - due1))), .second, .val (.int (0 : Int32)), .val (.long (now2 - due2)), .second, .val (.long (own_max (own_max (0 : Int64) (now1 - due1)) (now2 - due2))), .second, .val (.int (1 : Int32)), .val (.long now2), .second]) at_262 rfl rfl ?_
        refine own_iload X16 (pc' := 266) at_264 rfl rfl ?_
        subst hΦ
        exact own_retZ X16 at_266 (by decide) (by decide) (by decide) rfl trivial
      · refine own_iconst X16 (v := (1 : Int32)) (pc' := 250) at_249 rfl (by decide) ?_
        refine own_goto X16 (pc' := 254) at_250 (by decide) (by decide) ?_
        refine own_icmp_ne X16 (pct := 261) (pc' := 257) at_254 rfl (by decide) (by decide) (fun hc => absurd hc (by first | (simp [own_bs, own_bh, own_lb, hc48_6, hc171_12, hc246_17]; done) | (exfalso; contradiction))) (fun _ => ?_)
        refine own_iconst X16 (v := (1 : Int32)) (pc' := 258) at_257 rfl (by decide) ?_
        refine own_goto X16 (pc' := 262) at_258 (by decide) (by decide) ?_
        refine own_istore X16 (pc' := 264) (Ls' := #[.val (.long now1), .second, .val (.long due1), .second, .val (.long now2), .second, .val (.long due2), .second, .val (.long mo), .second, .val (.ref ad1), .val (.long (now1 - due1)), .second, .val (.int (1 : Int32)), .val (.long (own_max (0 : Int64) (now1 - due1))), .second, .val (.int (0 : Int32)), .val (.long (now2 - due2)), .second, .val (.long (own_max (own_max (0 : Int64) (now1 - due1)) (now2 - due2))), .second, .val (.int (1 : Int32)), .val (.long now2), .second]) at_262 rfl rfl ?_
        refine own_iload X16 (pc' := 266) at_264 rfl rfl ?_
        subst hΦ
        exact own_retZ X16 at_266 (by decide) (by decide) (by decide) rfl trivial
  · refine own_iconst X5 (v := (1 : Int32)) (pc' := 52) at_51 rfl (by decide) ?_
    refine own_goto X5 (pc' := 56) at_52 (by decide) (by decide) ?_
    refine own_istore X5 (pc' := 58) (Ls' := #[.val (.long now1), .second, .val (.long due1), .second, .val (.long now2), .second, .val (.long due2), .second, .val (.long mo), .second, .val (.ref ad1), .val (.long (now1 - due1)), .second, .val (.int (1 : Int32)), .val (.long (own_max (0 : Int64) (now1 - due1))), .second, .val (.int (1 : Int32)), .unset, .unset, .unset, .unset, .unset, .unset, .unset]) at_56 rfl rfl ?_
    refine own_iload X5 (pc' := 60) at_58 rfl rfl ?_
    refine own_if_eq X5 (pct := 78) (pc' := 63) at_60 rfl (by decide) (by decide) (fun hc => absurd hc (by decide)) (fun _ => ?_)
    refine own_aload X5 (pc' := 65) at_63 rfl rfl rfl ?_
    refine own_callV X5 (W := 0) (a := ad1) (argsL := []) (rest := []) (S' := [(.long (own_mx (0 : Int64) (now1 - due1)))]) (pc' := 68) (rm5 l Z a0 hw n0 ad1 h3 X5.size (own_mx (0 : Int64) (now1 - due1)) (own_bh (0 : Int32) (now1 - due1)) (own_lb (0 : Int64) (now1 - due1) now1) ⟨Ex4, F4_maxNanos, F4_behind, F4_lastBehind⟩) Ex4 (hw _ (List.mem_of_getElem? (i := 22) rfl)) (hw _ (List.mem_of_getElem? (i := 23) rfl)) (hw _ (List.mem_of_getElem? (i := 25) rfl)) (hw _ (List.mem_of_getElem? (i := 24) rfl)) (hw _ (List.mem_of_getElem? (i := 2) rfl)) (hw _ (List.mem_of_getElem? (i := 26) rfl)) (by decide) (by decide) (by decide) rfl rfl (by decide) (by decide) (lenOf pd_2 rfl) rfl (by first | decide | exact Nat.le_of_eq rfl) rfl at_65 rfl rfl ?_
    intro T18 h18 X18 qq18
    rw [show h18 = h3 from qq18] at X18
    refine own_lload X18 (pc' := 70) at_68 rfl rfl ?_
    refine own_lcmp X18 (pc' := 71) at_70 rfl ?_
    refine own_ifl_ne X18 (pct := 78) (pc' := 74) at_71 rfl (by decide) (by decide) (fun hc => absurd hc (fun q => q rfl)) (fun _ => ?_)
    refine own_iconst X18 (v := (1 : Int32)) (pc' := 75) at_74 rfl (by decide) ?_
    refine own_goto X18 (pc' := 79) at_75 (by decide) (by decide) ?_
    refine own_istore X18 (pc' := 81) (Ls' := #[.val (.long now1), .second, .val (.long due1), .second, .val (.long now2), .second, .val (.long due2), .second, .val (.long mo), .second, .val (.ref ad1), .val (.long (now1 - due1)), .second, .val (.int (1 : Int32)), .val (.long (own_max (0 : Int64) (now1 - due1))), .second, .val (.int (1 : Int32)), .unset, .unset, .unset, .unset, .unset, .unset, .unset]) at_79 rfl rfl ?_
    refine own_iload X18 (pc' := 83) at_81 rfl rfl ?_
    refine own_if_eq X18 (pct := 119) (pc' := 86) at_83 rfl (by decide) (by decide) (fun hc => absurd hc (by decide)) (fun _ => ?_)
    refine own_aload X18 (pc' := 88) at_86 rfl rfl rfl ?_
    refine own_lload X18 (pc' := 90) at_88 rfl rfl ?_
    refine own_callV X18 (W := 0) (a := ad1) (argsL := [(.long mo)]) (rest := []) (S' := [(.int (own_bs (own_bh (0 : Int32) (now1 - due1)) (own_lb (0 : Int64) (now1 - due1) now1) mo))]) (pc' := 93) (rm6 l Z a0 hw n0 ad1 mo h3 X18.size (own_mx (0 : Int64) (now1 - due1)) (own_bh (0 : Int32) (now1 - due1)) (own_lb (0 : Int64) (now1 - due1) now1) ⟨Ex4, F4_maxNanos, F4_behind, F4_lastBehind⟩) Ex4 (hw _ (List.mem_of_getElem? (i := 27) rfl)) (hw _ (List.mem_of_getElem? (i := 28) rfl)) (hw _ (List.mem_of_getElem? (i := 30) rfl)) (hw _ (List.mem_of_getElem? (i := 29) rfl)) (hw _ (List.mem_of_getElem? (i := 2) rfl)) (hw _ (List.mem_of_getElem? (i := 31) rfl)) (by decide) (by decide) (by decide) rfl rfl (by decide) (by decide) (lenOf pd_3 rfl) rfl (by first | decide | exact Nat.le_of_eq rfl) rfl at_90 rfl rfl ?_
    intro T19 h19 X19 qq19
    rw [show h19 = h3 from qq19] at X19
    refine own_iload X19 (pc' := 95) at_93 rfl rfl ?_
    refine own_if_eq X19 (pct := 111) (pc' := 98) at_95 rfl (by decide) (by decide) (fun hc => absurd hc (by decide)) (fun _ => ?_)
    refine own_lloadN X19 (pc' := 99) at_98 rfl rfl ?_
    refine own_lload X19 (pc' := 101) at_99 rfl rfl ?_
    refine own_lsub X19 (r := (now1 - mo)) (pc' := 102) at_101 rfl rfl ?_
    refine own_lconst X19 (v := (0 : Int64)) (pc' := 103) at_102 rfl (by decide) ?_
    refine own_lcmp X19 (pc' := 104) at_103 rfl ?_
    refine own_ifl_lt X19 (pct := 111) (pc' := 107) at_104 rfl (by decide) (by decide) (fun hc104_20 => ?_) (fun hc104_20 => ?_)
    · refine own_iconst X19 (v := (0 : Int32)) (pc' := 112) at_111 rfl (by decide) ?_
      refine own_icmp_ne X19 (pct := 119) (pc' := 115) at_112 rfl (by decide) (by decide) (fun hc => absurd hc (by first | (simp [own_bs, own_bh, own_lb, hc48_6, hc104_20]; done) | (exfalso; contradiction))) (fun _ => ?_)
      refine own_iconst X19 (v := (1 : Int32)) (pc' := 116) at_115 rfl (by decide) ?_
      refine own_goto X19 (pc' := 120) at_116 (by decide) (by decide) ?_
      refine own_istore X19 (pc' := 122) (Ls' := #[.val (.long now1), .second, .val (.long due1), .second, .val (.long now2), .second, .val (.long due2), .second, .val (.long mo), .second, .val (.ref ad1), .val (.long (now1 - due1)), .second, .val (.int (1 : Int32)), .val (.long (own_max (0 : Int64) (now1 - due1))), .second, .val (.int (1 : Int32)), .unset, .unset, .unset, .unset, .unset, .unset, .unset]) at_120 rfl rfl ?_
      refine own_aload X19 (pc' := 124) at_122 rfl rfl rfl ?_
      refine own_lload X19 (pc' := 126) at_124 rfl rfl ?_
      refine own_lload X19 (pc' := 128) at_126 rfl rfl ?_
      refine own_callV X19 (W := 0) (a := ad1) (argsL := [(.long now2), (.long due2)]) (rest := []) (S' := [(.long (now2 - due2))]) (pc' := 131) (rm3 l Z a0 hw n0 ad1 now2 due2 h3 X19.size (own_mx (0 : Int64) (now1 - due1)) (own_bh (0 : Int32) (now1 - due1)) (own_lb (0 : Int64) (now1 - due1) now1) ⟨Ex4, F4_maxNanos, F4_behind, F4_lastBehind⟩ ge_ad1) Ex4 (hw _ (List.mem_of_getElem? (i := 9) rfl)) (hw _ (List.mem_of_getElem? (i := 10) rfl)) (hw _ (List.mem_of_getElem? (i := 12) rfl)) (hw _ (List.mem_of_getElem? (i := 11) rfl)) (hw _ (List.mem_of_getElem? (i := 2) rfl)) (hw _ (List.mem_of_getElem? (i := 13) rfl)) (by decide) (by decide) (by decide) rfl rfl (by decide) (by decide) (lenOf pd_1 rfl) rfl (by first | decide | exact Nat.le_of_eq rfl) rfl at_128 rfl rfl ?_
      intro T21 h21 X21 qq21
      obtain ⟨⟨Ex22, F22_maxNanos, F22_behind, F22_lastBehind⟩, K22⟩ := qq21
      refine own_lstore X21 (pc' := 133) (Ls' := #[.val (.long now1), .second, .val (.long due1), .second, .val (.long now2), .second, .val (.long due2), .second, .val (.long mo), .second, .val (.ref ad1), .val (.long (now1 - due1)), .second, .val (.int (1 : Int32)), .val (.long (own_max (0 : Int64) (now1 - due1))), .second, .val (.int (1 : Int32)), .val (.long (now2 - due2)), .second, .unset, .unset, .unset, .unset, .unset]) at_131 rfl rfl ?_
      refine own_iload X21 (pc' := 135) at_133 rfl rfl ?_
      refine own_if_eq X21 (pct := 153) (pc' := 138) at_135 rfl (by decide) (by decide) (fun hc => absurd hc (by decide)) (fun _ => ?_)
      refine own_lload X21 (pc' := 140) at_138 rfl rfl ?_
      refine own_lload X21 (pc' := 142) at_140 rfl rfl ?_
      refine own_ladd X21 (r := ((now2 - due2) + due2)) (pc' := 143) at_142 rfl rfl ?_
      refine own_lload X21 (pc' := 145) at_143 rfl rfl ?_
      refine own_lcmp X21 (pc' := 146) at_145 rfl ?_
      refine own_ifl_ne X21 (pct := 153) (pc' := 149) at_146 rfl (by decide) (by decide) (fun hc => absurd hc (fun q => q (own_add _ _))) (fun _ => ?_)
      refine own_iconst X21 (v := (1 : Int32)) (pc' := 150) at_149 rfl (by decide) ?_
      refine own_goto X21 (pc' := 154) at_150 (by decide) (by decide) ?_
      refine own_istore X21 (pc' := 156) (Ls' := #[.val (.long now1), .second, .val (.long due1), .second, .val (.long now2), .second, .val (.long due2), .second, .val (.long mo), .second, .val (.ref ad1), .val (.long (now1 - due1)), .second, .val (.int (1 : Int32)), .val (.long (own_max (0 : Int64) (now1 - due1))), .second, .val (.int (1 : Int32)), .val (.long (now2 - due2)), .second, .unset, .unset, .unset, .unset, .unset]) at_154 rfl rfl ?_
      refine own_lload X21 (pc' := 158) at_156 rfl rfl ?_
      refine own_lload X21 (pc' := 160) at_158 rfl rfl ?_
      refine own_callS X21 (W := 0) (argsL := [(.long (own_max (0 : Int64) (now1 - due1))), (.long (now2 - due2))]) (rest := []) (S' := [(.long (own_max (own_max (0 : Int64) (now1 - due1)) (now2 - due2)))]) (pc' := 163) (rm4 l Z a0 hw n0 (own_max (0 : Int64) (now1 - due1)) (now2 - due2) h21 X21.size) (hw _ (List.mem_of_getElem? (i := 17) rfl)) (hw _ (List.mem_of_getElem? (i := 18) rfl)) (hw _ (List.mem_of_getElem? (i := 19) rfl)) (hw _ (List.mem_of_getElem? (i := 20) rfl)) (by decide) (by decide) (by decide) rfl rfl (by decide) (by decide) (lenOf pd_1 rfl) rfl (by first | decide | exact Nat.le_of_eq rfl) rfl at_160 rfl rfl ?_
      intro T23 h23 X23 qq23
      rw [show h23 = h21 from qq23] at X23
      refine own_lstore X23 (pc' := 165) (Ls' := #[.val (.long now1), .second, .val (.long due1), .second, .val (.long now2), .second, .val (.long due2), .second, .val (.long mo), .second, .val (.ref ad1), .val (.long (now1 - due1)), .second, .val (.int (1 : Int32)), .val (.long (own_max (0 : Int64) (now1 - due1))), .second, .val (.int (1 : Int32)), .val (.long (now2 - due2)), .second, .val (.long (own_max (own_max (0 : Int64) (now1 - due1)) (now2 - due2))), .second, .unset, .unset, .unset]) at_163 rfl rfl ?_
      refine own_lload X23 (pc' := 167) at_165 rfl rfl ?_
      refine own_ldc2 X23 (pc' := 170) (hw _ (List.mem_of_getElem? (i := 21) rfl)) at_167 rfl ?_
      refine own_lcmp X23 (pc' := 171) at_170 rfl ?_
      refine own_ifl_le X23 (pct := 178) (pc' := 174) at_171 rfl (by decide) (by decide) (fun hc171_24 => ?_) (fun hc171_24 => ?_)
      · refine own_iconst X23 (v := (0 : Int32)) (pc' := 179) at_178 rfl (by decide) ?_
        refine own_istore X23 (pc' := 181) (Ls' := #[.val (.long now1), .second, .val (.long due1), .second, .val (.long now2), .second, .val (.long due2), .second, .val (.long mo), .second, .val (.ref ad1), .val (.long (now1 - due1)), .second, .val (.int (1 : Int32)), .val (.long (own_max (0 : Int64) (now1 - due1))), .second, .val (.int (1 : Int32)), .val (.long (now2 - due2)), .second, .val (.long (own_max (own_max (0 : Int64) (now1 - due1)) (now2 - due2))), .second, .val (.int (0 : Int32)), .unset, .unset]) at_179 rfl rfl ?_
        refine own_iload X23 (pc' := 183) at_181 rfl rfl ?_
        refine own_if_eq X23 (pct := 191) (pc' := 186) at_183 rfl (by decide) (by decide) (fun _ => ?_) (fun hc => absurd hc (by decide))
        refine own_lloadN X23 (pc' := 192) at_191 rfl rfl ?_
        refine own_lstore X23 (pc' := 194) (Ls' := #[.val (.long now1), .second, .val (.long due1), .second, .val (.long now2), .second, .val (.long due2), .second, .val (.long mo), .second, .val (.ref ad1), .val (.long (now1 - due1)), .second, .val (.int (1 : Int32)), .val (.long (own_max (0 : Int64) (now1 - due1))), .second, .val (.int (1 : Int32)), .val (.long (now2 - due2)), .second, .val (.long (own_max (own_max (0 : Int64) (now1 - due1)) (now2 - due2))), .second, .val (.int (0 : Int32)), .val (.long now1), .second]) at_192 rfl rfl ?_
        refine own_iload X23 (pc' := 196) at_194 rfl rfl ?_
        refine own_if_eq X23 (pct := 214) (pc' := 199) at_196 rfl (by decide) (by decide) (fun hc => absurd hc (by decide)) (fun _ => ?_)
        refine own_aload X23 (pc' := 201) at_199 rfl rfl rfl ?_
        refine own_callV X23 (W := 0) (a := ad1) (argsL := []) (rest := []) (S' := [(.long (own_mx (own_mx (0 : Int64) (now1 - due1)) (now2 - due2)))]) (pc' := 204) (rm5 l Z a0 hw n0 ad1 h21 X23.size (own_mx (own_mx (0 : Int64) (now1 - due1)) (now2 - due2)) (own_bh (own_bh (0 : Int32) (now1 - due1)) (now2 - due2)) (own_lb (own_lb (0 : Int64) (now1 - due1) now1) (now2 - due2) now2) ⟨Ex22, F22_maxNanos, F22_behind, F22_lastBehind⟩) Ex22 (hw _ (List.mem_of_getElem? (i := 22) rfl)) (hw _ (List.mem_of_getElem? (i := 23) rfl)) (hw _ (List.mem_of_getElem? (i := 25) rfl)) (hw _ (List.mem_of_getElem? (i := 24) rfl)) (hw _ (List.mem_of_getElem? (i := 2) rfl)) (hw _ (List.mem_of_getElem? (i := 26) rfl)) (by decide) (by decide) (by decide) rfl rfl (by decide) (by decide) (lenOf pd_2 rfl) rfl (by first | decide | exact Nat.le_of_eq rfl) rfl at_201 rfl rfl ?_
        intro T25 h25 X25 qq25
        rw [show h25 = h21 from qq25] at X25
        refine own_lload X25 (pc' := 206) at_204 rfl rfl ?_
        refine own_lcmp X25 (pc' := 207) at_206 rfl ?_
        refine own_ifl_ne X25 (pct := 214) (pc' := 210) at_207 rfl (by decide) (by decide) (fun hc => absurd hc (fun q => q rfl)) (fun _ => ?_)
        refine own_iconst X25 (v := (1 : Int32)) (pc' := 211) at_210 rfl (by decide) ?_
        refine own_goto X25 (pc' := 215) at_211 (by decide) (by decide) ?_
        refine own_istore X25 (pc' := 217) (Ls' := #[.val (.long now1), .second, .val (.long due1), .second, .val (.long now2), .second, .val (.long due2), .second, .val (.long mo), .second, .val (.ref ad1), .val (.long (now1 - due1)), .second, .val (.int (1 : Int32)), .val (.long (own_max (0 : Int64) (now1 - due1))), .second, .val (.int (1 : Int32)), .val (.long (now2 - due2)), .second, .val (.long (own_max (own_max (0 : Int64) (now1 - due1)) (now2 - due2))), .second, .val (.int (0 : Int32)), .val (.long now1), .second]) at_215 rfl rfl ?_
        refine own_iload X25 (pc' := 219) at_217 rfl rfl ?_
        refine own_if_eq X25 (pct := 261) (pc' := 222) at_219 rfl (by decide) (by decide) (fun hc => absurd hc (by decide)) (fun _ => ?_)
        refine own_aload X25 (pc' := 224) at_222 rfl rfl rfl ?_
        refine own_lload X25 (pc' := 226) at_224 rfl rfl ?_
        refine own_callV X25 (W := 0) (a := ad1) (argsL := [(.long mo)]) (rest := []) (S' := [(.int (own_bs (own_bh (own_bh (0 : Int32) (now1 - due1)) (now2 - due2)) (own_lb (own_lb (0 : Int64) (now1 - due1) now1) (now2 - due2) now2) mo))]) (pc' := 229) (rm6 l Z a0 hw n0 ad1 mo h21 X25.size (own_mx (own_mx (0 : Int64) (now1 - due1)) (now2 - due2)) (own_bh (own_bh (0 : Int32) (now1 - due1)) (now2 - due2)) (own_lb (own_lb (0 : Int64) (now1 - due1) now1) (now2 - due2) now2) ⟨Ex22, F22_maxNanos, F22_behind, F22_lastBehind⟩) Ex22 (hw _ (List.mem_of_getElem? (i := 27) rfl)) (hw _ (List.mem_of_getElem? (i := 28) rfl)) (hw _ (List.mem_of_getElem? (i := 30) rfl)) (hw _ (List.mem_of_getElem? (i := 29) rfl)) (hw _ (List.mem_of_getElem? (i := 2) rfl)) (hw _ (List.mem_of_getElem? (i := 31) rfl)) (by decide) (by decide) (by decide) rfl rfl (by decide) (by decide) (lenOf pd_3 rfl) rfl (by first | decide | exact Nat.le_of_eq rfl) rfl at_226 rfl rfl ?_
        intro T26 h26 X26 qq26
        rw [show h26 = h21 from qq26] at X26
        refine own_iload X26 (pc' := 231) at_229 rfl rfl ?_
        refine own_if_ne X26 (pct := 239) (pc' := 234) at_231 rfl (by decide) (by decide) (fun _ => ?_) (fun hc => absurd hc (by decide))
        refine own_lload X26 (pc' := 241) at_239 rfl rfl ?_
        refine own_lload X26 (pc' := 243) at_241 rfl rfl ?_
        refine own_lsub X26 (r := (now1 - mo)) (pc' := 244) at_243 rfl rfl ?_
        refine own_lconst X26 (v := (0 : Int64)) (pc' := 245) at_244 rfl (by decide) ?_
        refine own_lcmp X26 (pc' := 246) at_245 rfl ?_
        refine own_ifl_lt X26 (pct := 253) (pc' := 249) at_246 rfl (by decide) (by decide) (fun hc246_27 => ?_) (fun hc246_27 => ?_)
        · refine own_iconst X26 (v := (0 : Int32)) (pc' := 254) at_253 rfl (by decide) ?_
          refine own_icmp_ne X26 (pct := 261) (pc' := 257) at_254 rfl (by decide) (by decide) (fun hc => absurd hc (by first | (simp [own_bs, own_bh, own_lb, hc48_6, hc104_20, hc171_24, hc246_27]; done) | (exfalso; contradiction))) (fun _ => ?_)
          refine own_iconst X26 (v := (1 : Int32)) (pc' := 258) at_257 rfl (by decide) ?_
          refine own_goto X26 (pc' := 262) at_258 (by decide) (by decide) ?_
          refine own_istore X26 (pc' := 264) (Ls' := #[.val (.long now1), .second, .val (.long due1), .second, .val (.long now2), .second, .val (.long due2), .second, .val (.long mo), .second, .val (.ref ad1), .val (.long (now1 - due1)), .second, .val (.int (1 : Int32)), .val (.long (own_max (0 : Int64) (now1 - due1))), .second, .val (.int (1 : Int32)), .val (.long (now2 - due2)), .second, .val (.long (own_max (own_max (0 : Int64) (now1 - due1)) (now2 - due2))), .second, .val (.int (0 : Int32)), .val (.long now1), .second]) at_262 rfl rfl ?_
          refine own_iload X26 (pc' := 266) at_264 rfl rfl ?_
          subst hΦ
          exact own_retZ X26 at_266 (by decide) (by decide) (by decide) rfl trivial
        · refine own_iconst X26 (v := (1 : Int32)) (pc' := 250) at_249 rfl (by decide) ?_
          refine own_goto X26 (pc' := 254) at_250 (by decide) (by decide) ?_
          refine own_icmp_ne X26 (pct := 261) (pc' := 257) at_254 rfl (by decide) (by decide) (fun hc => absurd hc (by first | (simp [own_bs, own_bh, own_lb, hc48_6, hc104_20, hc171_24, hc246_27]; done) | (exfalso; contradiction))) (fun _ => ?_)
          refine own_iconst X26 (v := (1 : Int32)) (pc' := 258) at_257 rfl (by decide) ?_
          refine own_goto X26 (pc' := 262) at_258 (by decide) (by decide) ?_
          refine own_istore X26 (pc' := 264) (Ls' := #[.val (.long now1), .second, .val (.long due1), .second, .val (.long now2), .second, .val (.long due2), .second, .val (.long mo), .second, .val (.ref ad1), .val (.long (now1 - due1)), .second, .val (.int (1 : Int32)), .val (.long (own_max (0 : Int64) (now1 - due1))), .second, .val (.int (1 : Int32)), .val (.long (now2 - due2)), .second, .val (.long (own_max (own_max (0 : Int64) (now1 - due1)) (now2 - due2))), .second, .val (.int (0 : Int32)), .val (.long now1), .second]) at_262 rfl rfl ?_
          refine own_iload X26 (pc' := 266) at_264 rfl rfl ?_
          subst hΦ
          exact own_retZ X26 at_266 (by decide) (by decide) (by decide) rfl trivial
      · refine own_iconst X23 (v := (1 : Int32)) (pc' := 175) at_174 rfl (by decide) ?_
        refine own_goto X23 (pc' := 179) at_175 (by decide) (by decide) ?_
        refine own_istore X23 (pc' := 181) (Ls' := #[.val (.long now1), .second, .val (.long due1), .second, .val (.long now2), .second, .val (.long due2), .second, .val (.long mo), .second, .val (.ref ad1), .val (.long (now1 - due1)), .second, .val (.int (1 : Int32)), .val (.long (own_max (0 : Int64) (now1 - due1))), .second, .val (.int (1 : Int32)), .val (.long (now2 - due2)), .second, .val (.long (own_max (own_max (0 : Int64) (now1 - due1)) (now2 - due2))), .second, .val (.int (1 : Int32)), .unset, .unset]) at_179 rfl rfl ?_
        refine own_iload X23 (pc' := 183) at_181 rfl rfl ?_
        refine own_if_eq X23 (pct := 191) (pc' := 186) at_183 rfl (by decide) (by decide) (fun hc => absurd hc (by decide)) (fun _ => ?_)
        refine own_lload X23 (pc' := 188) at_186 rfl rfl ?_
        refine own_goto X23 (pc' := 192) at_188 (by decide) (by decide) ?_
        refine own_lstore X23 (pc' := 194) (Ls' := #[.val (.long now1), .second, .val (.long due1), .second, .val (.long now2), .second, .val (.long due2), .second, .val (.long mo), .second, .val (.ref ad1), .val (.long (now1 - due1)), .second, .val (.int (1 : Int32)), .val (.long (own_max (0 : Int64) (now1 - due1))), .second, .val (.int (1 : Int32)), .val (.long (now2 - due2)), .second, .val (.long (own_max (own_max (0 : Int64) (now1 - due1)) (now2 - due2))), .second, .val (.int (1 : Int32)), .val (.long now2), .second]) at_192 rfl rfl ?_
        refine own_iload X23 (pc' := 196) at_194 rfl rfl ?_
        refine own_if_eq X23 (pct := 214) (pc' := 199) at_196 rfl (by decide) (by decide) (fun hc => absurd hc (by decide)) (fun _ => ?_)
        refine own_aload X23 (pc' := 201) at_199 rfl rfl rfl ?_
        refine own_callV X23 (W := 0) (a := ad1) (argsL := []) (rest := []) (S' := [(.long (own_mx (own_mx (0 : Int64) (now1 - due1)) (now2 - due2)))]) (pc' := 204) (rm5 l Z a0 hw n0 ad1 h21 X23.size (own_mx (own_mx (0 : Int64) (now1 - due1)) (now2 - due2)) (own_bh (own_bh (0 : Int32) (now1 - due1)) (now2 - due2)) (own_lb (own_lb (0 : Int64) (now1 - due1) now1) (now2 - due2) now2) ⟨Ex22, F22_maxNanos, F22_behind, F22_lastBehind⟩) Ex22 (hw _ (List.mem_of_getElem? (i := 22) rfl)) (hw _ (List.mem_of_getElem? (i := 23) rfl)) (hw _ (List.mem_of_getElem? (i := 25) rfl)) (hw _ (List.mem_of_getElem? (i := 24) rfl)) (hw _ (List.mem_of_getElem? (i := 2) rfl)) (hw _ (List.mem_of_getElem? (i := 26) rfl)) (by decide) (by decide) (by decide) rfl rfl (by decide) (by decide) (lenOf pd_2 rfl) rfl (by first | decide | exact Nat.le_of_eq rfl) rfl at_201 rfl rfl ?_
        intro T28 h28 X28 qq28
        rw [show h28 = h21 from qq28] at X28
        refine own_lload X28 (pc' := 206) at_204 rfl rfl ?_
        refine own_lcmp X28 (pc' := 207) at_206 rfl ?_
        refine own_ifl_ne X28 (pct := 214) (pc' := 210) at_207 rfl (by decide) (by decide) (fun hc => absurd hc (fun q => q rfl)) (fun _ => ?_)
        refine own_iconst X28 (v := (1 : Int32)) (pc' := 211) at_210 rfl (by decide) ?_
        refine own_goto X28 (pc' := 215) at_211 (by decide) (by decide) ?_
        refine own_istore X28 (pc' := 217) (Ls' := #[.val (.long now1), .second, .val (.long due1), .second, .val (.long now2), .second, .val (.long due2), .second, .val (.long mo), .second, .val (.ref ad1), .val (.long (now1 - due1)), .second, .val (.int (1 : Int32)), .val (.long (own_max (0 : Int64) (now1 - due1))), .second, .val (.int (1 : Int32)), .val (.long (now2 - due2)), .second, .val (.long (own_max (own_max (0 : Int64) (now1 - due1)) (now2 - due2))), .second, .val (.int (1 : Int32)), .val (.long now2), .second]) at_215 rfl rfl ?_
        refine own_iload X28 (pc' := 219) at_217 rfl rfl ?_
        refine own_if_eq X28 (pct := 261) (pc' := 222) at_219 rfl (by decide) (by decide) (fun hc => absurd hc (by decide)) (fun _ => ?_)
        refine own_aload X28 (pc' := 224) at_222 rfl rfl rfl ?_
        refine own_lload X28 (pc' := 226) at_224 rfl rfl ?_
        refine own_callV X28 (W := 0) (a := ad1) (argsL := [(.long mo)]) (rest := []) (S' := [(.int (own_bs (own_bh (own_bh (0 : Int32) (now1 - due1)) (now2 - due2)) (own_lb (own_lb (0 : Int64) (now1 - due1) now1) (now2 - due2) now2) mo))]) (pc' := 229) (rm6 l Z a0 hw n0 ad1 mo h21 X28.size (own_mx (own_mx (0 : Int64) (now1 - due1)) (now2 - due2)) (own_bh (own_bh (0 : Int32) (now1 - due1)) (now2 - due2)) (own_lb (own_lb (0 : Int64) (now1 - due1) now1) (now2 - due2) now2) ⟨Ex22, F22_maxNanos, F22_behind, F22_lastBehind⟩) Ex22 (hw _ (List.mem_of_getElem? (i := 27) rfl)) (hw _ (List.mem_of_getElem? (i := 28) rfl)) (hw _ (List.mem_of_getElem? (i := 30) rfl)) (hw _ (List.mem_of_getElem? (i := 29) rfl)) (hw _ (List.mem_of_getElem? (i := 2) rfl)) (hw _ (List.mem_of_getElem? (i := 31) rfl)) (by decide) (by decide) (by decide) rfl rfl (by decide) (by decide) (lenOf pd_3 rfl) rfl (by first | decide | exact Nat.le_of_eq rfl) rfl at_226 rfl rfl ?_
        intro T29 h29 X29 qq29
        rw [show h29 = h21 from qq29] at X29
        refine own_iload X29 (pc' := 231) at_229 rfl rfl ?_
        refine own_if_ne X29 (pct := 239) (pc' := 234) at_231 rfl (by decide) (by decide) (fun _ => ?_) (fun hc => absurd hc (by decide))
        refine own_lload X29 (pc' := 241) at_239 rfl rfl ?_
        refine own_lload X29 (pc' := 243) at_241 rfl rfl ?_
        refine own_lsub X29 (r := (now2 - mo)) (pc' := 244) at_243 rfl rfl ?_
        refine own_lconst X29 (v := (0 : Int64)) (pc' := 245) at_244 rfl (by decide) ?_
        refine own_lcmp X29 (pc' := 246) at_245 rfl ?_
        refine own_ifl_lt X29 (pct := 253) (pc' := 249) at_246 rfl (by decide) (by decide) (fun hc246_30 => ?_) (fun hc246_30 => ?_)
        · refine own_iconst X29 (v := (0 : Int32)) (pc' := 254) at_253 rfl (by decide) ?_
          refine own_icmp_ne X29 (pct := 261) (pc' := 257) at_254 rfl (by decide) (by decide) (fun hc => absurd hc (by first | (simp [own_bs, own_bh, own_lb, hc48_6, hc104_20, hc171_24, hc246_30]; done) | (exfalso; contradiction))) (fun _ => ?_)
          refine own_iconst X29 (v := (1 : Int32)) (pc' := 258) at_257 rfl (by decide) ?_
          refine own_goto X29 (pc' := 262) at_258 (by decide) (by decide) ?_
          refine own_istore X29 (pc' := 264) (Ls' := #[.val (.long now1), .second, .val (.long due1), .second, .val (.long now2), .second, .val (.long due2), .second, .val (.long mo), .second, .val (.ref ad1), .val (.long (now1 - due1)), .second, .val (.int (1 : Int32)), .val (.long (own_max (0 : Int64) (now1 - due1))), .second, .val (.int (1 : Int32)), .val (.long (now2 - due2)), .second, .val (.long (own_max (own_max (0 : Int64) (now1 - due1)) (now2 - due2))), .second, .val (.int (1 : Int32)), .val (.long now2), .second]) at_262 rfl rfl ?_
          refine own_iload X29 (pc' := 266) at_264 rfl rfl ?_
          subst hΦ
          exact own_retZ X29 at_266 (by decide) (by decide) (by decide) rfl trivial
        · refine own_iconst X29 (v := (1 : Int32)) (pc' := 250) at_249 rfl (by decide) ?_
          refine own_goto X29 (pc' := 254) at_250 (by decide) (by decide) ?_
          refine own_icmp_ne X29 (pct := 261) (pc' := 257) at_254 rfl (by decide) (by decide) (fun hc => absurd hc (by first | (simp [own_bs, own_bh, own_lb, hc48_6, hc104_20, hc171_24, hc246_30]; done) | (exfalso; contradiction))) (fun _ => ?_)
          refine own_iconst X29 (v := (1 : Int32)) (pc' := 258) at_257 rfl (by decide) ?_
          refine own_goto X29 (pc' := 262) at_258 (by decide) (by decide) ?_
          refine own_istore X29 (pc' := 264) (Ls' := #[.val (.long now1), .second, .val (.long due1), .second, .val (.long now2), .second, .val (.long due2), .second, .val (.long mo), .second, .val (.ref ad1), .val (.long (now1 - due1)), .second, .val (.int (1 : Int32)), .val (.long (own_max (0 : Int64) (now1 - due1))), .second, .val (.int (1 : Int32)), .val (.long (now2 - due2)), .second, .val (.long (own_max (own_max (0 : Int64) (now1 - due1)) (now2 - due2))), .second, .val (.int (1 : Int32)), .val (.long now2), .second]) at_262 rfl rfl ?_
          refine own_iload X29 (pc' := 266) at_264 rfl rfl ?_
          subst hΦ
          exact own_retZ X29 at_266 (by decide) (by decide) (by decide) rfl trivial
    · refine own_iconst X19 (v := (1 : Int32)) (pc' := 108) at_107 rfl (by decide) ?_
      refine own_goto X19 (pc' := 112) at_108 (by decide) (by decide) ?_
      refine own_icmp_ne X19 (pct := 119) (pc' := 115) at_112 rfl (by decide) (by decide) (fun hc => absurd hc (by first | (simp [own_bs, own_bh, own_lb, hc48_6, hc104_20]; done) | (exfalso; contradiction))) (fun _ => ?_)
      refine own_iconst X19 (v := (1 : Int32)) (pc' := 116) at_115 rfl (by decide) ?_
      refine own_goto X19 (pc' := 120) at_116 (by decide) (by decide) ?_
      refine own_istore X19 (pc' := 122) (Ls' := #[.val (.long now1), .second, .val (.long due1), .second, .val (.long now2), .second, .val (.long due2), .second, .val (.long mo), .second, .val (.ref ad1), .val (.long (now1 - due1)), .second, .val (.int (1 : Int32)), .val (.long (own_max (0 : Int64) (now1 - due1))), .second, .val (.int (1 : Int32)), .unset, .unset, .unset, .unset, .unset, .unset, .unset]) at_120 rfl rfl ?_
      refine own_aload X19 (pc' := 124) at_122 rfl rfl rfl ?_
      refine own_lload X19 (pc' := 126) at_124 rfl rfl ?_
      refine own_lload X19 (pc' := 128) at_126 rfl rfl ?_
      refine own_callV X19 (W := 0) (a := ad1) (argsL := [(.long now2), (.long due2)]) (rest := []) (S' := [(.long (now2 - due2))]) (pc' := 131) (rm3 l Z a0 hw n0 ad1 now2 due2 h3 X19.size (own_mx (0 : Int64) (now1 - due1)) (own_bh (0 : Int32) (now1 - due1)) (own_lb (0 : Int64) (now1 - due1) now1) ⟨Ex4, F4_maxNanos, F4_behind, F4_lastBehind⟩ ge_ad1) Ex4 (hw _ (List.mem_of_getElem? (i := 9) rfl)) (hw _ (List.mem_of_getElem? (i := 10) rfl)) (hw _ (List.mem_of_getElem? (i := 12) rfl)) (hw _ (List.mem_of_getElem? (i := 11) rfl)) (hw _ (List.mem_of_getElem? (i := 2) rfl)) (hw _ (List.mem_of_getElem? (i := 13) rfl)) (by decide) (by decide) (by decide) rfl rfl (by decide) (by decide) (lenOf pd_1 rfl) rfl (by first | decide | exact Nat.le_of_eq rfl) rfl at_128 rfl rfl ?_
      intro T31 h31 X31 qq31
      obtain ⟨⟨Ex32, F32_maxNanos, F32_behind, F32_lastBehind⟩, K32⟩ := qq31
      refine own_lstore X31 (pc' := 133) (Ls' := #[.val (.long now1), .second, .val (.long due1), .second, .val (.long now2), .second, .val (.long due2), .second, .val (.long mo), .second, .val (.ref ad1), .val (.long (now1 - due1)), .second, .val (.int (1 : Int32)), .val (.long (own_max (0 : Int64) (now1 - due1))), .second, .val (.int (1 : Int32)), .val (.long (now2 - due2)), .second, .unset, .unset, .unset, .unset, .unset]) at_131 rfl rfl ?_
      refine own_iload X31 (pc' := 135) at_133 rfl rfl ?_
      refine own_if_eq X31 (pct := 153) (pc' := 138) at_135 rfl (by decide) (by decide) (fun hc => absurd hc (by decide)) (fun _ => ?_)
      refine own_lload X31 (pc' := 140) at_138 rfl rfl ?_
      refine own_lload X31 (pc' := 142) at_140 rfl rfl ?_
      refine own_ladd X31 (r := ((now2 - due2) + due2)) (pc' := 143) at_142 rfl rfl ?_
      refine own_lload X31 (pc' := 145) at_143 rfl rfl ?_
      refine own_lcmp X31 (pc' := 146) at_145 rfl ?_
      refine own_ifl_ne X31 (pct := 153) (pc' := 149) at_146 rfl (by decide) (by decide) (fun hc => absurd hc (fun q => q (own_add _ _))) (fun _ => ?_)
      refine own_iconst X31 (v := (1 : Int32)) (pc' := 150) at_149 rfl (by decide) ?_
      refine own_goto X31 (pc' := 154) at_150 (by decide) (by decide) ?_
      refine own_istore X31 (pc' := 156) (Ls' := #[.val (.long now1), .second, .val (.long due1), .second, .val (.long now2), .second, .val (.long due2), .second, .val (.long mo), .second, .val (.ref ad1), .val (.long (now1 - due1)), .second, .val (.int (1 : Int32)), .val (.long (own_max (0 : Int64) (now1 - due1))), .second, .val (.int (1 : Int32)), .val (.long (now2 - due2)), .second, .unset, .unset, .unset, .unset, .unset]) at_154 rfl rfl ?_
      refine own_lload X31 (pc' := 158) at_156 rfl rfl ?_
      refine own_lload X31 (pc' := 160) at_158 rfl rfl ?_
      refine own_callS X31 (W := 0) (argsL := [(.long (own_max (0 : Int64) (now1 - due1))), (.long (now2 - due2))]) (rest := []) (S' := [(.long (own_max (own_max (0 : Int64) (now1 - due1)) (now2 - due2)))]) (pc' := 163) (rm4 l Z a0 hw n0 (own_max (0 : Int64) (now1 - due1)) (now2 - due2) h31 X31.size) (hw _ (List.mem_of_getElem? (i := 17) rfl)) (hw _ (List.mem_of_getElem? (i := 18) rfl)) (hw _ (List.mem_of_getElem? (i := 19) rfl)) (hw _ (List.mem_of_getElem? (i := 20) rfl)) (by decide) (by decide) (by decide) rfl rfl (by decide) (by decide) (lenOf pd_1 rfl) rfl (by first | decide | exact Nat.le_of_eq rfl) rfl at_160 rfl rfl ?_
      intro T33 h33 X33 qq33
      rw [show h33 = h31 from qq33] at X33
      refine own_lstore X33 (pc' := 165) (Ls' := #[.val (.long now1), .second, .val (.long due1), .second, .val (.long now2), .second, .val (.long due2), .second, .val (.long mo), .second, .val (.ref ad1), .val (.long (now1 - due1)), .second, .val (.int (1 : Int32)), .val (.long (own_max (0 : Int64) (now1 - due1))), .second, .val (.int (1 : Int32)), .val (.long (now2 - due2)), .second, .val (.long (own_max (own_max (0 : Int64) (now1 - due1)) (now2 - due2))), .second, .unset, .unset, .unset]) at_163 rfl rfl ?_
      refine own_lload X33 (pc' := 167) at_165 rfl rfl ?_
      refine own_ldc2 X33 (pc' := 170) (hw _ (List.mem_of_getElem? (i := 21) rfl)) at_167 rfl ?_
      refine own_lcmp X33 (pc' := 171) at_170 rfl ?_
      refine own_ifl_le X33 (pct := 178) (pc' := 174) at_171 rfl (by decide) (by decide) (fun hc171_34 => ?_) (fun hc171_34 => ?_)
      · refine own_iconst X33 (v := (0 : Int32)) (pc' := 179) at_178 rfl (by decide) ?_
        refine own_istore X33 (pc' := 181) (Ls' := #[.val (.long now1), .second, .val (.long due1), .second, .val (.long now2), .second, .val (.long due2), .second, .val (.long mo), .second, .val (.ref ad1), .val (.long (now1 - due1)), .second, .val (.int (1 : Int32)), .val (.long (own_max (0 : Int64) (now1 - due1))), .second, .val (.int (1 : Int32)), .val (.long (now2 - due2)), .second, .val (.long (own_max (own_max (0 : Int64) (now1 - due1)) (now2 - due2))), .second, .val (.int (0 : Int32)), .unset, .unset]) at_179 rfl rfl ?_
        refine own_iload X33 (pc' := 183) at_181 rfl rfl ?_
        refine own_if_eq X33 (pct := 191) (pc' := 186) at_183 rfl (by decide) (by decide) (fun _ => ?_) (fun hc => absurd hc (by decide))
        refine own_lloadN X33 (pc' := 192) at_191 rfl rfl ?_
        refine own_lstore X33 (pc' := 194) (Ls' := #[.val (.long now1), .second, .val (.long due1), .second, .val (.long now2), .second, .val (.long due2), .second, .val (.long mo), .second, .val (.ref ad1), .val (.long (now1 - due1)), .second, .val (.int (1 : Int32)), .val (.long (own_max (0 : Int64) (now1 - due1))), .second, .val (.int (1 : Int32)), .val (.long (now2 - due2)), .second, .val (.long (own_max (own_max (0 : Int64) (now1 - due1)) (now2 - due2))), .second, .val (.int (0 : Int32)), .val (.long now1), .second]) at_192 rfl rfl ?_
        refine own_iload X33 (pc' := 196) at_194 rfl rfl ?_
        refine own_if_eq X33 (pct := 214) (pc' := 199) at_196 rfl (by decide) (by decide) (fun hc => absurd hc (by decide)) (fun _ => ?_)
        refine own_aload X33 (pc' := 201) at_199 rfl rfl rfl ?_
        refine own_callV X33 (W := 0) (a := ad1) (argsL := []) (rest := []) (S' := [(.long (own_mx (own_mx (0 : Int64) (now1 - due1)) (now2 - due2)))]) (pc' := 204) (rm5 l Z a0 hw n0 ad1 h31 X33.size (own_mx (own_mx (0 : Int64) (now1 - due1)) (now2 - due2)) (own_bh (own_bh (0 : Int32) (now1 - due1)) (now2 - due2)) (own_lb (own_lb (0 : Int64) (now1 - due1) now1) (now2 - due2) now2) ⟨Ex32, F32_maxNanos, F32_behind, F32_lastBehind⟩) Ex32 (hw _ (List.mem_of_getElem? (i := 22) rfl)) (hw _ (List.mem_of_getElem? (i := 23) rfl)) (hw _ (List.mem_of_getElem? (i := 25) rfl)) (hw _ (List.mem_of_getElem? (i := 24) rfl)) (hw _ (List.mem_of_getElem? (i := 2) rfl)) (hw _ (List.mem_of_getElem? (i := 26) rfl)) (by decide) (by decide) (by decide) rfl rfl (by decide) (by decide) (lenOf pd_2 rfl) rfl (by first | decide | exact Nat.le_of_eq rfl) rfl at_201 rfl rfl ?_
        intro T35 h35 X35 qq35
        rw [show h35 = h31 from qq35] at X35
        refine own_lload X35 (pc' := 206) at_204 rfl rfl ?_
        refine own_lcmp X35 (pc' := 207) at_206 rfl ?_
        refine own_ifl_ne X35 (pct := 214) (pc' := 210) at_207 rfl (by decide) (by decide) (fun hc => absurd hc (fun q => q rfl)) (fun _ => ?_)
        refine own_iconst X35 (v := (1 : Int32)) (pc' := 211) at_210 rfl (by decide) ?_
        refine own_goto X35 (pc' := 215) at_211 (by decide) (by decide) ?_
        refine own_istore X35 (pc' := 217) (Ls' := #[.val (.long now1), .second, .val (.long due1), .second, .val (.long now2), .second, .val (.long due2), .second, .val (.long mo), .second, .val (.ref ad1), .val (.long (now1 - due1)), .second, .val (.int (1 : Int32)), .val (.long (own_max (0 : Int64) (now1 - due1))), .second, .val (.int (1 : Int32)), .val (.long (now2 - due2)), .second, .val (.long (own_max (own_max (0 : Int64) (now1 - due1)) (now2 - due2))), .second, .val (.int (0 : Int32)), .val (.long now1), .second]) at_215 rfl rfl ?_
        refine own_iload X35 (pc' := 219) at_217 rfl rfl ?_
        refine own_if_eq X35 (pct := 261) (pc' := 222) at_219 rfl (by decide) (by decide) (fun hc => absurd hc (by decide)) (fun _ => ?_)
        refine own_aload X35 (pc' := 224) at_222 rfl rfl rfl ?_
        refine own_lload X35 (pc' := 226) at_224 rfl rfl ?_
        refine own_callV X35 (W := 0) (a := ad1) (argsL := [(.long mo)]) (rest := []) (S' := [(.int (own_bs (own_bh (own_bh (0 : Int32) (now1 - due1)) (now2 - due2)) (own_lb (own_lb (0 : Int64) (now1 - due1) now1) (now2 - due2) now2) mo))]) (pc' := 229) (rm6 l Z a0 hw n0 ad1 mo h31 X35.size (own_mx (own_mx (0 : Int64) (now1 - due1)) (now2 - due2)) (own_bh (own_bh (0 : Int32) (now1 - due1)) (now2 - due2)) (own_lb (own_lb (0 : Int64) (now1 - due1) now1) (now2 - due2) now2) ⟨Ex32, F32_maxNanos, F32_behind, F32_lastBehind⟩) Ex32 (hw _ (List.mem_of_getElem? (i := 27) rfl)) (hw _ (List.mem_of_getElem? (i := 28) rfl)) (hw _ (List.mem_of_getElem? (i := 30) rfl)) (hw _ (List.mem_of_getElem? (i := 29) rfl)) (hw _ (List.mem_of_getElem? (i := 2) rfl)) (hw _ (List.mem_of_getElem? (i := 31) rfl)) (by decide) (by decide) (by decide) rfl rfl (by decide) (by decide) (lenOf pd_3 rfl) rfl (by first | decide | exact Nat.le_of_eq rfl) rfl at_226 rfl rfl ?_
        intro T36 h36 X36 qq36
        rw [show h36 = h31 from qq36] at X36
        refine own_iload X36 (pc' := 231) at_229 rfl rfl ?_
        refine own_if_ne X36 (pct := 239) (pc' := 234) at_231 rfl (by decide) (by decide) (fun _ => ?_) (fun hc => absurd hc (by decide))
        refine own_lload X36 (pc' := 241) at_239 rfl rfl ?_
        refine own_lload X36 (pc' := 243) at_241 rfl rfl ?_
        refine own_lsub X36 (r := (now1 - mo)) (pc' := 244) at_243 rfl rfl ?_
        refine own_lconst X36 (v := (0 : Int64)) (pc' := 245) at_244 rfl (by decide) ?_
        refine own_lcmp X36 (pc' := 246) at_245 rfl ?_
        refine own_ifl_lt X36 (pct := 253) (pc' := 249) at_246 rfl (by decide) (by decide) (fun hc246_37 => ?_) (fun hc246_37 => ?_)
        · refine own_iconst X36 (v := (0 : Int32)) (pc' := 254) at_253 rfl (by decide) ?_
          refine own_icmp_ne X36 (pct := 261) (pc' := 257) at_254 rfl (by decide) (by decide) (fun hc => absurd hc (by first | (simp [own_bs, own_bh, own_lb, hc48_6, hc104_20, hc171_34, hc246_37]; done) | (exfalso; contradiction))) (fun _ => ?_)
          refine own_iconst X36 (v := (1 : Int32)) (pc' := 258) at_257 rfl (by decide) ?_
          refine own_goto X36 (pc' := 262) at_258 (by decide) (by decide) ?_
          refine own_istore X36 (pc' := 264) (Ls' := #[.val (.long now1), .second, .val (.long due1), .second, .val (.long now2), .second, .val (.long due2), .second, .val (.long mo), .second, .val (.ref ad1), .val (.long (now1 - due1)), .second, .val (.int (1 : Int32)), .val (.long (own_max (0 : Int64) (now1 - due1))), .second, .val (.int (1 : Int32)), .val (.long (now2 - due2)), .second, .val (.long (own_max (own_max (0 : Int64) (now1 - due1)) (now2 - due2))), .second, .val (.int (0 : Int32)), .val (.long now1), .second]) at_262 rfl rfl ?_
          refine own_iload X36 (pc' := 266) at_264 rfl rfl ?_
          subst hΦ
          exact own_retZ X36 at_266 (by decide) (by decide) (by decide) rfl trivial
        · refine own_iconst X36 (v := (1 : Int32)) (pc' := 250) at_249 rfl (by decide) ?_
          refine own_goto X36 (pc' := 254) at_250 (by decide) (by decide) ?_
          refine own_icmp_ne X36 (pct := 261) (pc' := 257) at_254 rfl (by decide) (by decide) (fun hc => absurd hc (by first | (simp [own_bs, own_bh, own_lb, hc48_6, hc104_20, hc171_34, hc246_37]; done) | (exfalso; contradiction))) (fun _ => ?_)
          refine own_iconst X36 (v := (1 : Int32)) (pc' := 258) at_257 rfl (by decide) ?_
          refine own_goto X36 (pc' := 262) at_258 (by decide) (by decide) ?_
          refine own_istore X36 (pc' := 264) (Ls' := #[.val (.long now1), .second, .val (.long due1), .second, .val (.long now2), .second, .val (.long due2), .second, .val (.long mo), .second, .val (.ref ad1), .val (.long (now1 - due1)), .second, .val (.int (1 : Int32)), .val (.long (own_max (0 : Int64) (now1 - due1))), .second, .val (.int (1 : Int32)), .val (.long (now2 - due2)), .second, .val (.long (own_max (own_max (0 : Int64) (now1 - due1)) (now2 - due2))), .second, .val (.int (0 : Int32)), .val (.long now1), .second]) at_262 rfl rfl ?_
          refine own_iload X36 (pc' := 266) at_264 rfl rfl ?_
          subst hΦ
          exact own_retZ X36 at_266 (by decide) (by decide) (by decide) rfl trivial
      · refine own_iconst X33 (v := (1 : Int32)) (pc' := 175) at_174 rfl (by decide) ?_
        refine own_goto X33 (pc' := 179) at_175 (by decide) (by decide) ?_
        refine own_istore X33 (pc' := 181) (Ls' := #[.val (.long now1), .second, .val (.long due1), .second, .val (.long now2), .second, .val (.long due2), .second, .val (.long mo), .second, .val (.ref ad1), .val (.long (now1 - due1)), .second, .val (.int (1 : Int32)), .val (.long (own_max (0 : Int64) (now1 - due1))), .second, .val (.int (1 : Int32)), .val (.long (now2 - due2)), .second, .val (.long (own_max (own_max (0 : Int64) (now1 - due1)) (now2 - due2))), .second, .val (.int (1 : Int32)), .unset, .unset]) at_179 rfl rfl ?_
        refine own_iload X33 (pc' := 183) at_181 rfl rfl ?_
        refine own_if_eq X33 (pct := 191) (pc' := 186) at_183 rfl (by decide) (by decide) (fun hc => absurd hc (by decide)) (fun _ => ?_)
        refine own_lload X33 (pc' := 188) at_186 rfl rfl ?_
        refine own_goto X33 (pc' := 192) at_188 (by decide) (by decide) ?_
        refine own_lstore X33 (pc' := 194) (Ls' := #[.val (.long now1), .second, .val (.long due1), .second, .val (.long now2), .second, .val (.long due2), .second, .val (.long mo), .second, .val (.ref ad1), .val (.long (now1 - due1)), .second, .val (.int (1 : Int32)), .val (.long (own_max (0 : Int64) (now1 - due1))), .second, .val (.int (1 : Int32)), .val (.long (now2 - due2)), .second, .val (.long (own_max (own_max (0 : Int64) (now1 - due1)) (now2 - due2))), .second, .val (.int (1 : Int32)), .val (.long now2), .second]) at_192 rfl rfl ?_
        refine own_iload X33 (pc' := 196) at_194 rfl rfl ?_
        refine own_if_eq X33 (pct := 214) (pc' := 199) at_196 rfl (by decide) (by decide) (fun hc => absurd hc (by decide)) (fun _ => ?_)
        refine own_aload X33 (pc' := 201) at_199 rfl rfl rfl ?_
        refine own_callV X33 (W := 0) (a := ad1) (argsL := []) (rest := []) (S' := [(.long (own_mx (own_mx (0 : Int64) (now1 - due1)) (now2 - due2)))]) (pc' := 204) (rm5 l Z a0 hw n0 ad1 h31 X33.size (own_mx (own_mx (0 : Int64) (now1 - due1)) (now2 - due2)) (own_bh (own_bh (0 : Int32) (now1 - due1)) (now2 - due2)) (own_lb (own_lb (0 : Int64) (now1 - due1) now1) (now2 - due2) now2) ⟨Ex32, F32_maxNanos, F32_behind, F32_lastBehind⟩) Ex32 (hw _ (List.mem_of_getElem? (i := 22) rfl)) (hw _ (List.mem_of_getElem? (i := 23) rfl)) (hw _ (List.mem_of_getElem? (i := 25) rfl)) (hw _ (List.mem_of_getElem? (i := 24) rfl)) (hw _ (List.mem_of_getElem? (i := 2) rfl)) (hw _ (List.mem_of_getElem? (i := 26) rfl)) (by decide) (by decide) (by decide) rfl rfl (by decide) (by decide) (lenOf pd_2 rfl) rfl (by first | decide | exact Nat.le_of_eq rfl) rfl at_201 rfl rfl ?_
        intro T38 h38 X38 qq38
        rw [show h38 = h31 from qq38] at X38
        refine own_lload X38 (pc' := 206) at_204 rfl rfl ?_
        refine own_lcmp X38 (pc' := 207) at_206 rfl ?_
        refine own_ifl_ne X38 (pct := 214) (pc' := 210) at_207 rfl (by decide) (by decide) (fun hc => absurd hc (fun q => q rfl)) (fun _ => ?_)
        refine own_iconst X38 (v := (1 : Int32)) (pc' := 211) at_210 rfl (by decide) ?_
        refine own_goto X38 (pc' := 215) at_211 (by decide) (by decide) ?_
        refine own_istore X38 (pc' := 217) (Ls' := #[.val (.long now1), .second, .val (.long due1), .second, .val (.long now2), .second, .val (.long due2), .second, .val (.long mo), .second, .val (.ref ad1), .val (.long (now1 - due1)), .second, .val (.int (1 : Int32)), .val (.long (own_max (0 : Int64) (now1 - due1))), .second, .val (.int (1 : Int32)), .val (.long (now2 - due2)), .second, .val (.long (own_max (own_max (0 : Int64) (now1 - due1)) (now2 - due2))), .second, .val (.int (1 : Int32)), .val (.long now2), .second]) at_215 rfl rfl ?_
        refine own_iload X38 (pc' := 219) at_217 rfl rfl ?_
        refine own_if_eq X38 (pct := 261) (pc' := 222) at_219 rfl (by decide) (by decide) (fun hc => absurd hc (by decide)) (fun _ => ?_)
        refine own_aload X38 (pc' := 224) at_222 rfl rfl rfl ?_
        refine own_lload X38 (pc' := 226) at_224 rfl rfl ?_
        refine own_callV X38 (W := 0) (a := ad1) (argsL := [(.long mo)]) (rest := []) (S' := [(.int (own_bs (own_bh (own_bh (0 : Int32) (now1 - due1)) (now2 - due2)) (own_lb (own_lb (0 : Int64) (now1 - due1) now1) (now2 - due2) now2) mo))]) (pc' := 229) (rm6 l Z a0 hw n0 ad1 mo h31 X38.size (own_mx (own_mx (0 : Int64) (now1 - due1)) (now2 - due2)) (own_bh (own_bh (0 : Int32) (now1 - due1)) (now2 - due2)) (own_lb (own_lb (0 : Int64) (now1 - due1) now1) (now2 - due2) now2) ⟨Ex32, F32_maxNanos, F32_behind, F32_lastBehind⟩) Ex32 (hw _ (List.mem_of_getElem? (i := 27) rfl)) (hw _ (List.mem_of_getElem? (i := 28) rfl)) (hw _ (List.mem_of_getElem? (i := 30) rfl)) (hw _ (List.mem_of_getElem? (i := 29) rfl)) (hw _ (List.mem_of_getElem? (i := 2) rfl)) (hw _ (List.mem_of_getElem? (i := 31) rfl)) (by decide) (by decide) (by decide) rfl rfl (by decide) (by decide) (lenOf pd_3 rfl) rfl (by first | decide | exact Nat.le_of_eq rfl) rfl at_226 rfl rfl ?_
        intro T39 h39 X39 qq39
        rw [show h39 = h31 from qq39] at X39
        refine own_iload X39 (pc' := 231) at_229 rfl rfl ?_
        refine own_if_ne X39 (pct := 239) (pc' := 234) at_231 rfl (by decide) (by decide) (fun _ => ?_) (fun hc => absurd hc (by decide))
        refine own_lload X39 (pc' := 241) at_239 rfl rfl ?_
        refine own_lload X39 (pc' := 243) at_241 rfl rfl ?_
        refine own_lsub X39 (r := (now2 - mo)) (pc' := 244) at_243 rfl rfl ?_
        refine own_lconst X39 (v := (0 : Int64)) (pc' := 245) at_244 rfl (by decide) ?_
        refine own_lcmp X39 (pc' := 246) at_245 rfl ?_
        refine own_ifl_lt X39 (pct := 253) (pc' := 249) at_246 rfl (by decide) (by decide) (fun hc246_40 => ?_) (fun hc246_40 => ?_)
        · refine own_iconst X39 (v := (0 : Int32)) (pc' := 254) at_253 rfl (by decide) ?_
          refine own_icmp_ne X39 (pct := 261) (pc' := 257) at_254 rfl (by decide) (by decide) (fun hc => absurd hc (by first | (simp [own_bs, own_bh, own_lb, hc48_6, hc104_20, hc171_34, hc246_40]; done) | (exfalso; contradiction))) (fun _ => ?_)
          refine own_iconst X39 (v := (1 : Int32)) (pc' := 258) at_257 rfl (by decide) ?_
          refine own_goto X39 (pc' := 262) at_258 (by decide) (by decide) ?_
          refine own_istore X39 (pc' := 264) (Ls' := #[.val (.long now1), .second, .val (.long due1), .second, .val (.long now2), .second, .val (.long due2), .second, .val (.long mo), .second, .val (.ref ad1), .val (.long (now1 - due1)), .second, .val (.int (1 : Int32)), .val (.long (own_max (0 : Int64) (now1 - due1))), .second, .val (.int (1 : Int32)), .val (.long (now2 - due2)), .second, .val (.long (own_max (own_max (0 : Int64) (now1 - due1)) (now2 - due2))), .second, .val (.int (1 : Int32)), .val (.long now2), .second]) at_262 rfl rfl ?_
          refine own_iload X39 (pc' := 266) at_264 rfl rfl ?_
          subst hΦ
          exact own_retZ X39 at_266 (by decide) (by decide) (by decide) rfl trivial
        · refine own_iconst X39 (v := (1 : Int32)) (pc' := 250) at_249 rfl (by decide) ?_
          refine own_goto X39 (pc' := 254) at_250 (by decide) (by decide) ?_
          refine own_icmp_ne X39 (pct := 261) (pc' := 257) at_254 rfl (by decide) (by decide) (fun hc => absurd hc (by first | (simp [own_bs, own_bh, own_lb, hc48_6, hc104_20, hc171_34, hc246_40]; done) | (exfalso; contradiction))) (fun _ => ?_)
          refine own_iconst X39 (v := (1 : Int32)) (pc' := 258) at_257 rfl (by decide) ?_
          refine own_goto X39 (pc' := 262) at_258 (by decide) (by decide) ?_
          refine own_istore X39 (pc' := 264) (Ls' := #[.val (.long now1), .second, .val (.long due1), .second, .val (.long now2), .second, .val (.long due2), .second, .val (.long mo), .second, .val (.ref ad1), .val (.long (now1 - due1)), .second, .val (.int (1 : Int32)), .val (.long (own_max (0 : Int64) (now1 - due1))), .second, .val (.int (1 : Int32)), .val (.long (now2 - due2)), .second, .val (.long (own_max (own_max (0 : Int64) (now1 - due1)) (now2 - due2))), .second, .val (.int (1 : Int32)), .val (.long now2), .second]) at_262 rfl rfl ?_
          refine own_iload X39 (pc' := 266) at_264 rfl rfl ?_
          subst hΦ
          exact own_retZ X39 at_266 (by decide) (by decide) (by decide) rfl trivial
set_option maxRecDepth 65536 in
set_option maxHeartbeats 4000000 in
theorem comes_1 {Post : Tables → Env → Array Value → State → Outcome → State → Prop} (hpost : ∀ tb e args s v u, (limb_1_1.after args s (.returned v) u = true ∧ limb_1_2.after args s (.returned v) u = true ∧ True) → FrameEnd s (.returned v) u (Jvm.fieldLocs frame_1_writes args s ++ Jvm.arrayLocs frame_1_arrays args s ++ Jvm.staticLocs frame_1_statics s) 16 128 → Post tb e args s (.returned v) u) :
    ArmFor flags0 classFile x code maxLocals ret World_1 tables_1 room_1 Calls_1 rest_1 Pre_1 Post := by
  intro l hfl _ _ p e ha hc hk s m args below hf hA hF happ hP
  obtain ⟨hcalls, hrest, hpre⟩ := hP
  obtain ⟨-, -, -, hnamed, -, -, -, hat⟩ := (Spec.applies_iff hf).mp happ
  obtain ⟨hg, hn⟩ := and_e (Cond.before_iff.mp (show (Jvm.Cond.and given_1 narrow_1).before args s = true from hpre))
  obtain ⟨hcnt, r0⟩ := and_e hg
  obtain ⟨k0, r1⟩ := and_e r0
  obtain ⟨k1, r2⟩ := and_e r1
  obtain ⟨k2, r3⟩ := and_e r2
  obtain ⟨k3, r4⟩ := and_e r3
  obtain ⟨w0, w1, w2, w3, w4, rfl⟩ : ∃ w0 w1 w2 w3 w4 : Value, args = #[w0, w1, w2, w3, w4] := by
    have hs : args.size = 5 := by simpa [Cond.value, given_1] using hcnt
    obtain ⟨L⟩ := args
    match L, hs with
    | [w0, w1, w2, w3, w4], _ => exact ⟨w0, w1, w2, w3, w4, rfl⟩
  have hw := fun d (hd : d ∈ tables_1) => atoms_spec (ws := Jvm.Cond.code x code maxLocals ret :: tables_1) hat d (List.mem_cons_of_mem _ hd)
  obtain ⟨i0, ei0⟩ := isL_v k0
  obtain rfl : w0 = (.long i0) := Option.some.inj ei0
  obtain ⟨i1, ei1⟩ := isL_v k1
  obtain rfl : w1 = (.long i1) := Option.some.inj ei1
  obtain ⟨i2, ei2⟩ := isL_v k2
  obtain rfl : w2 = (.long i2) := Option.some.inj ei2
  obtain ⟨i3, ei3⟩ := isL_v k3
  obtain rfl : w3 = (.long i3) := Option.some.inj ei3
  obtain ⟨i4, ei4⟩ := isL_v r4
  obtain rfl : w4 = (.long i4) := Option.some.inj ei4
  obtain ⟨n, o, h1, h2, h3, _, L, rfl, ⟨⟨rfl, -⟩, N⟩, hq⟩ := rm0 l s _ hw s.heap.size i0 i1 i2 i3 i4 s.heap (Nat.le_refl _) tables_1 p e ha hc hk s m _ below hf ((Spec.applies_iff_loose hf).mp happ).1 ⟨rfl, State.Warmed39.refl s, rfl⟩ trivial
  refine ⟨n, _, h1, h2, h3, hpost _ _ _ _ _ _ ⟨Cond.after_iff.mpr rfl, Cond.after_iff.mpr (eq_i res_at (Term.int_eval (1)) rfl), trivial⟩ ⟨hq.1, hq.2.1, (hq.2.2.sift fun y hy => Or.inr (N y hy)).mono (by decide) (by decide)⟩⟩
theorem main_1_1 : Claimed_1_1 := comes_1 fun _ _ _ _ _ _ h hF => ⟨h.1, hF⟩
theorem main_1_2 : Claimed_1_2 := comes_1 fun _ _ _ _ _ _ h hF => ⟨h.2.1, hF⟩
end Jvm.Pilot.@@N@@
namespace Jvm.Pilot.@@N@@
open Jvm Jvm.ClassFile Sem Op Lib Jvm.Free Jvm.Stand Jvm.Pilot.@@N@@.Jvm.D
/-! MADE BY PROGRAM (witnessworld.py) out of the Statement's table words and the real class files: 10 classes; the members and pool entries that the words name. The judged class is class 1, her method 1. -/
namespace start1
open Jvm.ClassFile
def u (s : String) : CpInfo := .utf8 (stringToUtf16 s)
/-- a pool by its gaps: so many unusable entries, then the entry; so many at the end -/
def gap : Nat → List CpInfo → List CpInfo
  | 0, r => r
  | n + 1, r => .unusable :: gap n r
def poolList (es : List (Nat × CpInfo)) (last : Nat) : List CpInfo := es.foldr (fun e r => gap e.1 (e.2 :: r)) (gap last [])
def pool (es : List (Nat × CpInfo)) (last : Nat) : Array CpInfo := ⟨poolList es last⟩
def fileOf (pool : Array CpInfo) (this : Nat) (attrs : Array Attribute := #[]) (ms : Array MethodInfo := #[]) (fl : Nat := 33) (sup : Nat := 0) (ifs : Array Nat := #[]) (fds : Array FieldInfo := #[]) : ClassFile where
  minorVersion := 0
  majorVersion := 65
  constantPool := pool
  accessFlags := fl
  thisClass := this
  superClass := sup
  interfaces := ifs
  fields := fds
  methods := ms
  attributes := attrs
def plain (name : String) (sup : Option ClassId) : Class where
  name := name
  kind := .ordinary
  loader := none
  accessFlags := 33
  super := sup
  interfaces := #[]
  cf := none
  fields := #[]
  methods := #[]
  instanceTypes := #[]
  staticTypes := #[]
  resolved := #[]
  callSites := []
  init := .initialized
  statics := none
  mirror := none

def pool0 : Array CpInfo := pool [(5, u "<init>"), (0, u "()V"), (1, .class_ 10), (1, u "java/lang/Object")] 113

def k0c0 : Code := { maxStack := 0, maxLocals := 1, code := object_method_1_code, exceptionTable := #[], attributes := #[] }
def k0m0 : Method := { name := "<init>", desc := "()V", sig := { parameters := [], returnType := none }, accessFlags := 1, code := some k0c0 }
/-- java/lang/Object -/
def k0 : Class := { plain "java/lang/Object" none with
  accessFlags := 33
  interfaces := #[]
  cf := some (fileOf pool0 8 #[] #[{ accessFlags := 1, nameIndex := 5, descriptorIndex := 6, attributes := #[] }] 33 0 #[] #[])
  fields := #[]
  methods := #[k0m0]
  instanceTypes := #[]
  staticTypes := #[]
  resolved := Array.replicate 124 none
  statics := none }

def pool1 : Array CpInfo := pool [(2, .class_ 4), (0, .nameAndType 5 6), (0, u "java/lang/Object"), (0, u "<init>"), (0, u "()V"), (0, .class_ 8), (0, u "dev/tidemark/bench/Lateness"), (0, .methodref 7 3), (0, .methodref 7 11), (0, .nameAndType 12 13), (0, u "release"), (0, u "(JJ)J"), (0, .methodref 15 16), (0, .class_ 17), (0, .nameAndType 18 13), (0, u "java/lang/Math"), (0, u "max"), (0, .long 100000000), (1, .methodref 7 22), (0, .nameAndType 23 24), (0, u "maxNanos"), (0, u "()J"), (0, .methodref 7 26), (0, .nameAndType 27 28), (0, u "behindSince"), (0, u "(J)Z"), (0, .class_ 30), (0, u "dev/tidemark/bench/LatenessReleasePinLaw"), (2, u "law"), (0, u "(JJJJJ)Z")] 3

def k1m0 : Method := { name := "<init>", desc := "()V", sig := { parameters := [], returnType := none }, accessFlags := 1, code := none }
def k1c1 : Code := { maxStack := 5, maxLocals := 24, code := code, exceptionTable := #[], attributes := #[] }
def k1m1 : Method := { name := "law", desc := "(JJJJJ)Z", sig := { parameters := [.long, .long, .long, .long, .long], returnType := some .boolean }, accessFlags := 9, code := some k1c1 }
/-- dev/tidemark/bench/LatenessReleasePinLaw -/
def k1 : Class := { plain "dev/tidemark/bench/LatenessReleasePinLaw" (some 0) with
  accessFlags := 49
  interfaces := #[]
  cf := some (fileOf pool1 29 #[] #[{ accessFlags := 1, nameIndex := 5, descriptorIndex := 6, attributes := #[] }, { accessFlags := 9, nameIndex := 33, descriptorIndex := 34, attributes := #[] }] 49 2 #[] #[])
  fields := #[]
  methods := #[k1m0, k1m1]
  instanceTypes := #[]
  staticTypes := #[]
  resolved := Array.replicate 38 none
  statics := none }

def pool2 : Array CpInfo := pool [(1, .methodref 2 3), (0, .class_ 4), (0, .nameAndType 5 6), (0, u "java/lang/Object"), (0, u "<init>"), (0, u "()V"), (0, .fieldref 8 9), (0, .class_ 10), (0, .nameAndType 11 12), (0, u "dev/tidemark/bench/Lateness"), (0, u "maxNanos"), (0, u "J"), (0, .long 100000000), (1, .fieldref 8 16), (0, .nameAndType 17 18), (0, u "behind"), (0, u "Z"), (0, .fieldref 8 20), (0, .nameAndType 21 12), (0, u "lastBehind"), (0, u "ON_SCHEDULE_NANOS"), (3, u "release"), (0, u "(JJ)J"), (1, u "()J"), (0, u "behindSince"), (0, u "(J)Z")] 2

def k2c0 : Code := { maxStack := 1, maxLocals := 1, code := prog_23_method_1_code, exceptionTable := #[], attributes := #[] }
def k2m0 : Method := { name := "<init>", desc := "()V", sig := { parameters := [], returnType := none }, accessFlags := 0, code := some k2c0 }
def k2c1 : Code := { maxStack := 4, maxLocals := 7, code := prog_23_method_2_code, exceptionTable := #[], attributes := #[] }
def k2m1 : Method := { name := "release", desc := "(JJ)J", sig := { parameters := [.long, .long], returnType := some .long }, accessFlags := 0, code := some k2c1 }
def k2c2 : Code := { maxStack := 2, maxLocals := 1, code := prog_23_method_3_code, exceptionTable := #[], attributes := #[] }
def k2m2 : Method := { name := "maxNanos", desc := "()J", sig := { parameters := [], returnType := some .long }, accessFlags := 0, code := some k2c2 }
def k2c3 : Code := { maxStack := 4, maxLocals := 3, code := prog_23_method_4_code, exceptionTable := #[], attributes := #[] }
def k2m3 : Method := { name := "behindSince", desc := "(J)Z", sig := { parameters := [.long], returnType := some .boolean }, accessFlags := 0, code := some k2c3 }
/-- dev/tidemark/bench/Lateness -/
def k2 : Class := { plain "dev/tidemark/bench/Lateness" (some 0) with
  accessFlags := 48
  interfaces := #[]
  cf := some (fileOf pool2 8 #[] #[{ accessFlags := 0, nameIndex := 5, descriptorIndex := 6, attributes := #[] }, { accessFlags := 0, nameIndex := 26, descriptorIndex := 27, attributes := #[] }, { accessFlags := 0, nameIndex := 11, descriptorIndex := 29, attributes := #[] }, { accessFlags := 0, nameIndex := 30, descriptorIndex := 31, attributes := #[] }] 48 2 #[] #[{ accessFlags := 24, nameIndex := 22, descriptorIndex := 12, attributes := #[] }, { accessFlags := 2, nameIndex := 11, descriptorIndex := 12, attributes := #[] }, { accessFlags := 2, nameIndex := 17, descriptorIndex := 18, attributes := #[] }, { accessFlags := 2, nameIndex := 21, descriptorIndex := 12, attributes := #[] }])
  fields := #[{ name := "ON_SCHEDULE_NANOS", type := .long, accessFlags := 24, slot := 0, constantValue := 0 }, { name := "maxNanos", type := .long, accessFlags := 2, slot := 0, constantValue := 0 }, { name := "behind", type := .boolean, accessFlags := 2, slot := 1, constantValue := 0 }, { name := "lastBehind", type := .long, accessFlags := 2, slot := 2, constantValue := 0 }]
  methods := #[k2m0, k2m1, k2m2, k2m3]
  instanceTypes := #[.long, .boolean, .long]
  staticTypes := #[.long]
  resolved := Array.replicate 34 none
  statics := none }

def pool3 : Array CpInfo := pool [(1, .class_ 2), (0, u "java/lang/Math"), (1, .class_ 6), (1, u "java/lang/Object"), (0, u "<init>"), (0, u "()V"), (89, .class_ 100), (1, u "java/lang/Math$RandomNumberGeneratorHolder"), (20, u "(JJ)J"), (50, u "negativeZeroFloatBits"), (0, u "J"), (2, u "negativeZeroDoubleBits"), (21, u "max"), (46, u "$assertionsDisabled"), (0, u "Z"), (91, u "twoToTheDoubleScaleDown"), (0, u "D"), (4, u "twoToTheDoubleScaleUp"), (9, u "E"), (3, u "PI"), (2, u "TAU"), (2, u "DEGREES_TO_RADIANS"), (0, u "RADIANS_TO_DEGREES")] 94

def k3m0 : Method := { name := "<init>", desc := "()V", sig := { parameters := [], returnType := none }, accessFlags := 2, code := none }
def k3c1 : Code := { maxStack := 4, maxLocals := 4, code := jdk_29_method_66_code, exceptionTable := #[], attributes := #[] }
def k3m1 : Method := { name := "max", desc := "(JJ)J", sig := { parameters := [.long, .long], returnType := some .long }, accessFlags := 9, code := some k3c1 }
/-- java/lang/Math -/
def k3 : Class := { plain "java/lang/Math" (some 0) with
  accessFlags := 49
  interfaces := #[]
  cf := some (fileOf pool3 1 #[.nestMembers #[98]] #[{ accessFlags := 2, nameIndex := 7, descriptorIndex := 8, attributes := #[] }, { accessFlags := 9, nameIndex := 198, descriptorIndex := 121, attributes := #[] }] 49 4 #[] #[{ accessFlags := 25, nameIndex := 354, descriptorIndex := 339, attributes := #[] }, { accessFlags := 25, nameIndex := 358, descriptorIndex := 339, attributes := #[] }, { accessFlags := 25, nameIndex := 361, descriptorIndex := 339, attributes := #[] }, { accessFlags := 26, nameIndex := 364, descriptorIndex := 339, attributes := #[] }, { accessFlags := 26, nameIndex := 365, descriptorIndex := 339, attributes := #[] }, { accessFlags := 26, nameIndex := 172, descriptorIndex := 173, attributes := #[] }, { accessFlags := 26, nameIndex := 176, descriptorIndex := 173, attributes := #[] }, { accessFlags := 8, nameIndex := 344, descriptorIndex := 339, attributes := #[] }, { accessFlags := 8, nameIndex := 338, descriptorIndex := 339, attributes := #[] }, { accessFlags := 4120, nameIndex := 245, descriptorIndex := 246, attributes := #[] }])
  fields := #[{ name := "E", type := .double, accessFlags := 25, slot := 0, constantValue := 0 }, { name := "PI", type := .double, accessFlags := 25, slot := 1, constantValue := 0 }, { name := "TAU", type := .double, accessFlags := 25, slot := 2, constantValue := 0 }, { name := "DEGREES_TO_RADIANS", type := .double, accessFlags := 26, slot := 3, constantValue := 0 }, { name := "RADIANS_TO_DEGREES", type := .double, accessFlags := 26, slot := 4, constantValue := 0 }, { name := "negativeZeroFloatBits", type := .long, accessFlags := 26, slot := 5, constantValue := 0 }, { name := "negativeZeroDoubleBits", type := .long, accessFlags := 26, slot := 6, constantValue := 0 }, { name := "twoToTheDoubleScaleUp", type := .double, accessFlags := 8, slot := 7, constantValue := 0 }, { name := "twoToTheDoubleScaleDown", type := .double, accessFlags := 8, slot := 8, constantValue := 0 }, { name := "$assertionsDisabled", type := .boolean, accessFlags := 4120, slot := 9, constantValue := 0 }]
  methods := #[k3m0, k3m1]
  instanceTypes := #[]
  staticTypes := #[.double, .double, .double, .double, .double, .long, .long, .double, .double, .boolean]
  resolved := Array.replicate 460 none
  statics := none }

def pool4 : Array CpInfo := pool [(1, u "java/lang/Cloneable"), (0, .class_ 1), (0, u "java/lang/Object"), (0, .class_ 3)] 3

/-- java/lang/Cloneable -/
def k4 : Class := { plain "java/lang/Cloneable" (some 0) with
  accessFlags := 1537
  interfaces := #[]
  cf := some (fileOf pool4 2 #[] #[] 1537 4 #[] #[])
  fields := #[]
  methods := #[]
  instanceTypes := #[]
  staticTypes := #[]
  resolved := Array.replicate 8 none
  statics := none }

def pool5 : Array CpInfo := pool [(1, u "java/io/Serializable"), (0, .class_ 1), (0, u "java/lang/Object"), (0, .class_ 3)] 3

/-- java/io/Serializable -/
def k5 : Class := { plain "java/io/Serializable" (some 0) with
  accessFlags := 1537
  interfaces := #[]
  cf := some (fileOf pool5 2 #[] #[] 1537 4 #[] #[])
  fields := #[]
  methods := #[]
  instanceTypes := #[]
  staticTypes := #[]
  resolved := Array.replicate 8 none
  statics := none }

/-- the primitive byte -/
def k6 : Class := { plain "byte" none with kind := .primitive 'B', accessFlags := 0x411 }
/-- [B -/
def k7 : Class := { plain "[B" (some 0) with kind := .array 6 .byte, interfaces := #[4, 5], accessFlags := 1041 }

/-- the primitive int -/
def k8 : Class := { plain "int" none with kind := .primitive 'I', accessFlags := 0x411 }
/-- [I -/
def k9 : Class := { plain "[I" (some 0) with kind := .array 8 .int, interfaces := #[4, 5], accessFlags := 1041 }

def heap : Heap := #[]
def classes : Array Class := #[k0, k1, k2, k3, k4, k5, k6, k7, k8, k9]
def interned : List (Array UInt16 × Addr) := []
def slotsUsed : Nat := 0
def theMethod : MethodId := ⟨1, 1⟩
def args0 : Array Value := #[.long 7, .long 1, .long 9, .long 3, .long 4]
def aboutOver (below : List Frame) : State where
  vm := { classes := classes, interned := interned.toArray }
  heap := heap
  slotsUsed := slotsUsed
  threads := #[{ frames := .invoking theMethod args0 :: below }]
def below0 : List Frame := [.native { method := ⟨0, 0⟩, args := #[] }]
def about1 : State := aboutOver below0
def p0 : Program := .bare "" "" ""
def e0 : Env := launch0.env 0 0 0
theorem w_frames : about1.frames = Frame.invoking theMethod args0 :: below0 := rfl
set_option maxRecDepth 65536 in
theorem w_args : argsFit about1.vm theMethod args0 = true := by decide +kernel
set_option maxRecDepth 65536 in
theorem w_heap : heapFits about1 = true := by decide +kernel
set_option maxRecDepth 65536 in
theorem w_runnable : about1.curStatus? = some .runnable := by decide +kernel
set_option maxRecDepth 65536 in
theorem w_alone : about1.alone = true := by decide +kernel
set_option maxRecDepth 65536 in
theorem w_named : about1.methodNamed? x = some theMethod := by decide +kernel
set_option maxRecDepth 65536 in
theorem w_hears : about1.hears theMethod below0 = true := by decide +kernel
set_option maxRecDepth 65536 in
theorem w_ripe : about1.ripe theMethod args0 below0 = true := by decide +kernel
theorem w_running : about1.status = .running := rfl
set_option maxRecDepth 65536 in
theorem w_room : about1.hasRoom e0.platform room_1 = true :=
  launch0.hasRoom_least _ room_1 (by decide +kernel) (by decide +kernel) (by decide +kernel) (by decide +kernel) (by decide +kernel) (by decide +kernel)
theorem allAtoms_all (ts : List Jvm.Cond) (a : Array Jvm.Value) (st : Jvm.State) : (allAtoms ts).before a st = ts.all (fun c => c.before a st) := by
  induction ts with
  | nil => rfl
  | cons c t ih =>
    show (Jvm.Cond.and c (allAtoms t)).before a st = _
    rw [Jvm.Cond.before_and, ih, List.all_cons]
def words1 : List Jvm.Cond := Jvm.Cond.code x code maxLocals ret :: tables_1
/-- a 'code' word, met by the world's own term for the bytes: nothing is compared byte by byte -/
theorem code_word {y : MethodName} {bytes : ByteArray} {mx : Nat} {rt : Option FieldType} {a : Array Value} {s : State} {m : MethodId} {meth : Method} {c : Code} (h1 : s.methodNamed? y = some m) (h2 : s.vm.method? m = some meth) (h3 : meth.code = some c) (h4 : c.code = bytes)
    (h5 : (c.maxLocals == mx && c.exceptionTable.isEmpty && decide (c.maxStack ≤ mostOperands) && decide (meth.sig.returnType = rt) && !meth.locks && decide (parseMethodDescriptor y.desc = some meth.sig)) = true) : (Jvm.Cond.code y bytes mx rt).before a s = true := by
  simp only [Bool.and_eq_true, beq_iff_eq, Bool.not_eq_true', decide_eq_true_eq] at h5
  obtain ⟨⟨⟨⟨⟨g1, g2⟩, g3⟩, g4⟩, g5⟩, g6⟩ := h5
  simp [Cond.before, Cond.holds, Cond.value, h1, h2, h3, h4, g1, g2, g3, g4, g5, g6]
def isCode : Jvm.Cond → Bool
  | .code _ _ _ _ => true
  | _ => false
theorem all_split {L : List Jvm.Cond} {P : Jvm.Cond → Bool} (h1 : L.all (fun c => isCode c || P c) = true) (h2 : ∀ c ∈ L.filter isCode, P c = true) : L.all P = true := by
  refine List.all_eq_true.mpr fun c hc => ?_
  have h := List.all_eq_true.mp h1 c hc
  rcases Bool.eq_false_or_eq_true (isCode c) with hi | hi
  · exact h2 c (List.mem_filter.mpr ⟨hc, hi⟩)
  · simpa [hi] using h
set_option maxRecDepth 65536 in
theorem w_c0 : (Jvm.Cond.code x code maxLocals ret).before args0 about1 = true := code_word (m := ⟨1, 1⟩) (meth := k1m1) (c := k1c1) (by decide +kernel) rfl rfl rfl (by decide +kernel)
set_option maxRecDepth 65536 in
theorem w_c1 : (Jvm.Cond.code ({ cls := "dev/tidemark/bench/Lateness", name := "<init>", desc := "()V" } : Jvm.MethodName) prog_23_method_1_code (1 : Nat) (Option.none : Option Jvm.ClassFile.FieldType)).before args0 about1 = true := code_word (m := ⟨2, 0⟩) (meth := k2m0) (c := k2c0) (by decide +kernel) rfl rfl rfl (by decide +kernel)
set_option maxRecDepth 65536 in
theorem w_c2 : (Jvm.Cond.code ({ cls := "java/lang/Object", name := "<init>", desc := "()V" } : Jvm.MethodName) object_method_1_code (1 : Nat) (Option.none : Option Jvm.ClassFile.FieldType)).before args0 about1 = true := code_word (m := ⟨0, 0⟩) (meth := k0m0) (c := k0c0) (by decide +kernel) rfl rfl rfl (by decide +kernel)
set_option maxRecDepth 65536 in
theorem w_c3 : (Jvm.Cond.code ({ cls := "dev/tidemark/bench/Lateness", name := "release", desc := "(JJ)J" } : Jvm.MethodName) prog_23_method_2_code (7 : Nat) (Option.some Jvm.ClassFile.FieldType.long)).before args0 about1 = true := code_word (m := ⟨2, 1⟩) (meth := k2m1) (c := k2c1) (by decide +kernel) rfl rfl rfl (by decide +kernel)
set_option maxRecDepth 65536 in
theorem w_c4 : (Jvm.Cond.code ({ cls := "java/lang/Math", name := "max", desc := "(JJ)J" } : Jvm.MethodName) jdk_29_method_66_code (4 : Nat) (Option.some Jvm.ClassFile.FieldType.long)).before args0 about1 = true := code_word (m := ⟨3, 1⟩) (meth := k3m1) (c := k3c1) (by decide +kernel) rfl rfl rfl (by decide +kernel)
set_option maxRecDepth 65536 in
theorem w_c5 : (Jvm.Cond.code ({ cls := "dev/tidemark/bench/Lateness", name := "maxNanos", desc := "()J" } : Jvm.MethodName) prog_23_method_3_code (1 : Nat) (Option.some Jvm.ClassFile.FieldType.long)).before args0 about1 = true := code_word (m := ⟨2, 2⟩) (meth := k2m2) (c := k2c2) (by decide +kernel) rfl rfl rfl (by decide +kernel)
set_option maxRecDepth 65536 in
theorem w_c6 : (Jvm.Cond.code ({ cls := "dev/tidemark/bench/Lateness", name := "behindSince", desc := "(J)Z" } : Jvm.MethodName) prog_23_method_4_code (3 : Nat) (Option.some Jvm.ClassFile.FieldType.boolean)).before args0 about1 = true := code_word (m := ⟨2, 3⟩) (meth := k2m3) (c := k2c3) (by decide +kernel) rfl rfl rfl (by decide +kernel)
def codes1 : List Jvm.Cond := [Jvm.Cond.code x code maxLocals ret, Jvm.Cond.code ({ cls := "dev/tidemark/bench/Lateness", name := "<init>", desc := "()V" } : Jvm.MethodName) prog_23_method_1_code (1 : Nat) (Option.none : Option Jvm.ClassFile.FieldType), Jvm.Cond.code ({ cls := "java/lang/Object", name := "<init>", desc := "()V" } : Jvm.MethodName) object_method_1_code (1 : Nat) (Option.none : Option Jvm.ClassFile.FieldType), Jvm.Cond.code ({ cls := "dev/tidemark/bench/Lateness", name := "release", desc := "(JJ)J" } : Jvm.MethodName) prog_23_method_2_code (7 : Nat) (Option.some Jvm.ClassFile.FieldType.long), Jvm.Cond.code ({ cls := "java/lang/Math", name := "max", desc := "(JJ)J" } : Jvm.MethodName) jdk_29_method_66_code (4 : Nat) (Option.some Jvm.ClassFile.FieldType.long), Jvm.Cond.code ({ cls := "dev/tidemark/bench/Lateness", name := "maxNanos", desc := "()J" } : Jvm.MethodName) prog_23_method_3_code (1 : Nat) (Option.some Jvm.ClassFile.FieldType.long), Jvm.Cond.code ({ cls := "dev/tidemark/bench/Lateness", name := "behindSince", desc := "(J)Z" } : Jvm.MethodName) prog_23_method_4_code (3 : Nat) (Option.some Jvm.ClassFile.FieldType.boolean)]
set_option maxRecDepth 65536 in
theorem codes_eq : words1.filter isCode = codes1 := rfl
theorem w_codes : ∀ c ∈ words1.filter isCode, c.before args0 about1 = true := by
  rw [codes_eq]
  intro c hc
  simp only [codes1, List.mem_cons, List.not_mem_nil, or_false] at hc
  rcases hc with rfl | rfl | rfl | rfl | rfl | rfl | rfl
  · exact w_c0
  · exact w_c1
  · exact w_c2
  · exact w_c3
  · exact w_c4
  · exact w_c5
  · exact w_c6
set_option maxRecDepth 65536 in
theorem w_t1 : (words1.take 24).all (fun c => isCode c || c.before args0 about1) = true := by decide +kernel
set_option maxRecDepth 65536 in
theorem w_t2 : (words1.drop 24).all (fun c => isCode c || c.before args0 about1) = true := by decide +kernel
theorem w_tables : (allAtoms (Jvm.Cond.code x code maxLocals ret :: tables_1)).before args0 about1 = true := by
  rw [allAtoms_all]
  show words1.all (fun c => c.before args0 about1) = true
  refine all_split ?_ w_codes
  rw [← List.take_append_drop 24 words1, List.all_append, w_t1, w_t2]
  rfl
set_option maxRecDepth 65536 in
theorem w_case : (Jvm.Cond.and given_1 narrow_1).before args0 about1 = true := by decide +kernel
theorem w_applies : (headSpec (Jvm.Cond.code x code maxLocals ret :: tables_1) room_1).applies x e0.platform about1 = true :=
  (Spec.applies_iff w_frames).mpr ⟨w_running, w_runnable, w_alone, w_named, w_hears, w_ripe, w_room, w_tables⟩
theorem atStart : AtStart classFile x code maxLocals ret World_1 tables_1 room_1 Calls_1 rest_1 Pre_1 launch0 p0 e0 about1 theMethod args0 below0 :=
  ⟨lists_1, trivial, launch0.admits_env _ _ _, launch0.least_env, fairChoices_fair.cas, fairChoices_fair.clock, w_frames, w_args, w_heap, w_applies, trivial, trivial, w_case⟩
end start1
theorem witness_1 : WitnessClaimed_1 := ⟨start1.p0, start1.e0, start1.about1, start1.theMethod, start1.args0, start1.below0, start1.atStart⟩
end Jvm.Pilot.@@N@@
