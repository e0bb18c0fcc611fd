import JvmDerived
import JvmDerived.Pilot.@@N@@Statement
import JvmDerived.Pilot.@@N@@Code
set_option linter.unusedVariables false
set_option linter.unusedSimpArgs false
namespace Jvm.Pilot.@@N@@
open Jvm Jvm.ClassFile Sem Op Lib Jvm.Free Jvm.Stand Jvm.LawKit Jvm.RoadKit Bundle Jvm.Pilot.@@N@@.Jvm.D
section OwnKit
def own_G (p : Program) (e : Env) (below : List Frame) (Φ : State → Outcome → Prop) (T : State) (f : JFrame) : Prop := ∃ s₂ o, Steps p.tables e below (T.setTop f) s₂ ∧ Φ s₂ o
def own_S (Z : State) (n0 : Nat) (bytes : ByteArray) (y : MethodName) (ml : Nat) (ret : Option FieldType) (p : Program) (l : Launch) (e : Env) (R : Room) (s : State) (m : MethodId) (args : Array Value) (below : List Frame) (meth : Method) (c : Code) (T : State) (k sl : Nat) (h : Heap) : Prop :=
  (∃ locs, Stand p l e R s m args below meth c T locs k sl ∧ Fr n0 locs) ∧ T.heap = h ∧ n0 ≤ s.heap.size ∧ p.tables.exec = Jvm.exec ∧ Z.Warmed39 s.vm ∧ c.code = bytes ∧ c.maxLocals = ml ∧ s.vm.findClass y.cls = some m.cls ∧ meth.name = y.name ∧ meth.sig.returnType = ret ∧ meth.locks = false
def own_Q (n0 : Nat) (below : List Frame) (s : State) (R : Room) (w : Option Value) (Θ : Heap → Prop) : State → Outcome → Prop := fun s₂ o => s₂.status = .running ∧ Ended s₂ below o ∧ ∃ v L, o = .returned v ∧ ((v = w ∧ Θ s₂.heap) ∧ Fr n0 L) ∧ FrameEnd s o s₂ L R.cells R.slots
def own_Met (l : Launch) (y : MethodName) (bytes : ByteArray) (ml : Nat) (ret : Option FieldType) (rm : Room) (Z : State) (n0 : Nat) (as : Array Value) (h0 : Heap) (w : Option Value) (Θ : Heap → Prop) : Prop :=
  ∀ ws, MetFree l y (head1 (Jvm.Cond.code y bytes ml ret :: ws) rm) (fun a U => a = as ∧ Z.Warmed39 U.vm ∧ U.heap = h0) (fun _ _ _ _ _ => True) (fun _ U o U' => ∃ v L, o = .returned v ∧ ((v = w ∧ Θ U'.heap) ∧ Fr n0 L) ∧ FrameEnd U o U' L rm.cells rm.slots)
theorem own_met {l : Launch} {y : MethodName} {bytes : ByteArray} {ml : Nat} {ret : Option FieldType} {rm : Room} {Z : State} {n0 : Nat} {as : Array Value} {h0 : Heap} {w : Option Value} {Θ : Heap → Prop} (hp : plainFor y = true) (hn0 : n0 ≤ h0.size)
    (body : ∀ p e s m below meth c T, own_S Z n0 bytes y ml ret p l e rm s m as below meth c T 0 0 h0 → own_G p e below (own_Q n0 below s rm w Θ) T (entryFrame m as ml)) : own_Met l y bytes ml ret rm Z n0 as h0 w Θ := by
  intro ws
  refine MetFree.of_bodySF hp hisR ?_
  intro p e s m args below meth c s₁ Bd hml0 hP hK
  obtain ⟨rfl, hZ, hh⟩ := hP
  obtain ⟨s₂, o, st, h1, h2, h3⟩ := body p e s m below meth c s₁ ⟨⟨[], Stand.of_body Bd, Fr.nil n0⟩, by rw [← hh, Bd.state]; rfl, by rw [hh]; exact hn0, Bd.exec, hZ, Bd.bytes, hml0, findClass_of_methodNamed Bd.named, (name_of_methodNamed Bd.named Bd.method).1, Bd.returns, BodyLoose.notSynchronized Bd⟩
  exact ⟨s₂, o, st, h1, h2, h3⟩
variable {Z : State} {n0 : Nat} {bytes : ByteArray} {y : MethodName} {ml : Nat} {ret : Option FieldType} {p : Program} {l : Launch} {e : Env} {R : Room} {s : State} {m : MethodId} {args : Array Value} {below : List Frame} {meth : Method} {c : Code} {T : State} {k sl : Nat} {h : Heap} {Φ : State → Outcome → Prop} {pc pc' : Nat} {Ls Ls' : Array Slot} {S : List Value} {a0 : Array Value}
theorem own_cast {f f' : JFrame} (q : f = f') (K : own_G p e below Φ T f') : own_G p e below Φ T f := q ▸ K
theorem own_by {T T' : State} {f f' : JFrame} (K : own_G p e below Φ T' f') (st : ∀ t, Steps p.tables e below (T'.setTop f') t → Steps p.tables e below (T.setTop f) t) : own_G p e below Φ T f := by
  obtain ⟨s₂, o, q, r⟩ := K
  exact ⟨s₂, o, st _ q, r⟩
theorem own_S.size (X : own_S Z n0 bytes y ml ret p l e R s m args below meth c T k sl h) : n0 ≤ h.size := by
  obtain ⟨⟨locs, Y, N⟩, hh, hn, hx, hZ, hby, hml, hown, hnm, hret, hlk⟩ := X
  subst hh
  exact Nat.le_trans hn Y.same.2.1
theorem own_iadd (X : own_S Z n0 bytes y ml ret p l e R s m args below meth c T k sl h) {a b r : Int32} (hd : decode bytes pc = .ok (.iadd, 1)) (hpc : pc + 1 = pc') (hr : a + b = r) (K : own_G p e below Φ T (mkF m pc' Ls (.int r :: S))) : own_G p e below Φ T (mkF m pc Ls (.int b :: .int a :: S)) := by
  obtain ⟨⟨locs, Y, N⟩, hh, hn, hx, hZ, hby, hml, hown, hnm, hret, hlk⟩ := X
  subst hpc
  exact own_by K fun t kk => XS.iadd Y.here hx rfl (hb hby hd) rfl (hr ▸ kk)
theorem own_ladd (X : own_S Z n0 bytes y ml ret p l e R s m args below meth c T k sl h) {a b r : Int64} (hd : decode bytes pc = .ok (.ladd, 1)) (hpc : pc + 1 = pc') (hr : a + b = r) (K : own_G p e below Φ T (mkF m pc' Ls (.long r :: S))) : own_G p e below Φ T (mkF m pc Ls (.long b :: .long a :: S)) := by
  obtain ⟨⟨locs, Y, N⟩, hh, hn, hx, hZ, hby, hml, hown, hnm, hret, hlk⟩ := X
  subst hpc
  exact own_by K fun t kk => XS.ladd Y.here hx rfl (hb hby hd) rfl (hr ▸ kk)
theorem own_isub (X : own_S Z n0 bytes y ml ret p l e R s m args below meth c T k sl h) {a b r : Int32} (hd : decode bytes pc = .ok (.isub, 1)) (hpc : pc + 1 = pc') (hr : a - b = r) (K : own_G p e below Φ T (mkF m pc' Ls (.int r :: S))) : own_G p e below Φ T (mkF m pc Ls (.int b :: .int a :: S)) := by
  obtain ⟨⟨locs, Y, N⟩, hh, hn, hx, hZ, hby, hml, hown, hnm, hret, hlk⟩ := X
  subst hpc
  exact own_by K fun t kk => XS.isub Y.here hx rfl (hb hby hd) rfl (hr ▸ kk)
theorem own_lsub (X : own_S Z n0 bytes y ml ret p l e R s m args below meth c T k sl h) {a b r : Int64} (hd : decode bytes pc = .ok (.lsub, 1)) (hpc : pc + 1 = pc') (hr : a - b = r) (K : own_G p e below Φ T (mkF m pc' Ls (.long r :: S))) : own_G p e below Φ T (mkF m pc Ls (.long b :: .long a :: S)) := by
  obtain ⟨⟨locs, Y, N⟩, hh, hn, hx, hZ, hby, hml, hown, hnm, hret, hlk⟩ := X
  subst hpc
  exact own_by K fun t kk => XS.lsub Y.here hx rfl (hb hby hd) rfl (hr ▸ kk)
theorem own_imul (X : own_S Z n0 bytes y ml ret p l e R s m args below meth c T k sl h) {a b r : Int32} (hd : decode bytes pc = .ok (.imul, 1)) (hpc : pc + 1 = pc') (hr : a * b = r) (K : own_G p e below Φ T (mkF m pc' Ls (.int r :: S))) : own_G p e below Φ T (mkF m pc Ls (.int b :: .int a :: S)) := by
  obtain ⟨⟨locs, Y, N⟩, hh, hn, hx, hZ, hby, hml, hown, hnm, hret, hlk⟩ := X
  subst hpc
  exact own_by K fun t kk => XS.imul Y.here hx rfl (hb hby hd) rfl (hr ▸ kk)
theorem own_lmul (X : own_S Z n0 bytes y ml ret p l e R s m args below meth c T k sl h) {a b r : Int64} (hd : decode bytes pc = .ok (.lmul, 1)) (hpc : pc + 1 = pc') (hr : a * b = r) (K : own_G p e below Φ T (mkF m pc' Ls (.long r :: S))) : own_G p e below Φ T (mkF m pc Ls (.long b :: .long a :: S)) := by
  obtain ⟨⟨locs, Y, N⟩, hh, hn, hx, hZ, hby, hml, hown, hnm, hret, hlk⟩ := X
  subst hpc
  exact own_by K fun t kk => XS.lmul Y.here hx rfl (hb hby hd) rfl (hr ▸ kk)
theorem own_iand (X : own_S Z n0 bytes y ml ret p l e R s m args below meth c T k sl h) {a b r : Int32} (hd : decode bytes pc = .ok (.iand, 1)) (hpc : pc + 1 = pc') (hr : a &&& b = r) (K : own_G p e below Φ T (mkF m pc' Ls (.int r :: S))) : own_G p e below Φ T (mkF m pc Ls (.int b :: .int a :: S)) := by
  obtain ⟨⟨locs, Y, N⟩, hh, hn, hx, hZ, hby, hml, hown, hnm, hret, hlk⟩ := X
  subst hpc
  exact own_by K fun t kk => XS.iand Y.here hx rfl (hb hby hd) rfl (hr ▸ kk)
theorem own_land (X : own_S Z n0 bytes y ml ret p l e R s m args below meth c T k sl h) {a b r : Int64} (hd : decode bytes pc = .ok (.land, 1)) (hpc : pc + 1 = pc') (hr : a &&& b = r) (K : own_G p e below Φ T (mkF m pc' Ls (.long r :: S))) : own_G p e below Φ T (mkF m pc Ls (.long b :: .long a :: S)) := by
  obtain ⟨⟨locs, Y, N⟩, hh, hn, hx, hZ, hby, hml, hown, hnm, hret, hlk⟩ := X
  subst hpc
  exact own_by K fun t kk => XS.land Y.here hx rfl (hb hby hd) rfl (hr ▸ kk)
theorem own_ior (X : own_S Z n0 bytes y ml ret p l e R s m args below meth c T k sl h) {a b r : Int32} (hd : decode bytes pc = .ok (.ior, 1)) (hpc : pc + 1 = pc') (hr : a ||| b = r) (K : own_G p e below Φ T (mkF m pc' Ls (.int r :: S))) : own_G p e below Φ T (mkF m pc Ls (.int b :: .int a :: S)) := by
  obtain ⟨⟨locs, Y, N⟩, hh, hn, hx, hZ, hby, hml, hown, hnm, hret, hlk⟩ := X
  subst hpc
  exact own_by K fun t kk => XS.ior Y.here hx rfl (hb hby hd) rfl (hr ▸ kk)
theorem own_lor (X : own_S Z n0 bytes y ml ret p l e R s m args below meth c T k sl h) {a b r : Int64} (hd : decode bytes pc = .ok (.lor, 1)) (hpc : pc + 1 = pc') (hr : a ||| b = r) (K : own_G p e below Φ T (mkF m pc' Ls (.long r :: S))) : own_G p e below Φ T (mkF m pc Ls (.long b :: .long a :: S)) := by
  obtain ⟨⟨locs, Y, N⟩, hh, hn, hx, hZ, hby, hml, hown, hnm, hret, hlk⟩ := X
  subst hpc
  exact own_by K fun t kk => XS.lor Y.here hx rfl (hb hby hd) rfl (hr ▸ kk)
theorem own_ixor (X : own_S Z n0 bytes y ml ret p l e R s m args below meth c T k sl h) {a b r : Int32} (hd : decode bytes pc = .ok (.ixor, 1)) (hpc : pc + 1 = pc') (hr : a ^^^ b = r) (K : own_G p e below Φ T (mkF m pc' Ls (.int r :: S))) : own_G p e below Φ T (mkF m pc Ls (.int b :: .int a :: S)) := by
  obtain ⟨⟨locs, Y, N⟩, hh, hn, hx, hZ, hby, hml, hown, hnm, hret, hlk⟩ := X
  subst hpc
  exact own_by K fun t kk => XS.ixor Y.here hx rfl (hb hby hd) rfl (hr ▸ kk)
theorem own_lxor (X : own_S Z n0 bytes y ml ret p l e R s m args below meth c T k sl h) {a b r : Int64} (hd : decode bytes pc = .ok (.lxor, 1)) (hpc : pc + 1 = pc') (hr : a ^^^ b = r) (K : own_G p e below Φ T (mkF m pc' Ls (.long r :: S))) : own_G p e below Φ T (mkF m pc Ls (.long b :: .long a :: S)) := by
  obtain ⟨⟨locs, Y, N⟩, hh, hn, hx, hZ, hby, hml, hown, hnm, hret, hlk⟩ := X
  subst hpc
  exact own_by K fun t kk => XS.lxor Y.here hx rfl (hb hby hd) rfl (hr ▸ kk)
theorem own_ishl (X : own_S Z n0 bytes y ml ret p l e R s m args below meth c T k sl h) {a r : Int32} {b : Int32} (hd : decode bytes pc = .ok (.ishl, 1)) (hpc : pc + 1 = pc') (hr : (a <<< (b &&& 31)) = r) (K : own_G p e below Φ T (mkF m pc' Ls (.int r :: S))) : own_G p e below Φ T (mkF m pc Ls (.int b :: .int a :: S)) := by
  obtain ⟨⟨locs, Y, N⟩, hh, hn, hx, hZ, hby, hml, hown, hnm, hret, hlk⟩ := X
  subst hpc
  exact own_by K fun t kk => XS.ishl Y.here hx rfl (hb hby hd) rfl (hr ▸ kk)
theorem own_ishr (X : own_S Z n0 bytes y ml ret p l e R s m args below meth c T k sl h) {a r : Int32} {b : Int32} (hd : decode bytes pc = .ok (.ishr, 1)) (hpc : pc + 1 = pc') (hr : (a >>> (b &&& 31)) = r) (K : own_G p e below Φ T (mkF m pc' Ls (.int r :: S))) : own_G p e below Φ T (mkF m pc Ls (.int b :: .int a :: S)) := by
  obtain ⟨⟨locs, Y, N⟩, hh, hn, hx, hZ, hby, hml, hown, hnm, hret, hlk⟩ := X
  subst hpc
  exact own_by K fun t kk => XS.ishr Y.here hx rfl (hb hby hd) rfl (hr ▸ kk)
theorem own_iushr (X : own_S Z n0 bytes y ml ret p l e R s m args below meth c T k sl h) {a r : Int32} {b : Int32} (hd : decode bytes pc = .ok (.iushr, 1)) (hpc : pc + 1 = pc') (hr : ((a.toUInt32 >>> (b &&& 31).toUInt32).toInt32) = r) (K : own_G p e below Φ T (mkF m pc' Ls (.int r :: S))) : own_G p e below Φ T (mkF m pc Ls (.int b :: .int a :: S)) := by
  obtain ⟨⟨locs, Y, N⟩, hh, hn, hx, hZ, hby, hml, hown, hnm, hret, hlk⟩ := X
  subst hpc
  exact own_by K fun t kk => XS.iushr Y.here hx rfl (hb hby hd) rfl (hr ▸ kk)
theorem own_lshl (X : own_S Z n0 bytes y ml ret p l e R s m args below meth c T k sl h) {a r : Int64} {b : Int32} (hd : decode bytes pc = .ok (.lshl, 1)) (hpc : pc + 1 = pc') (hr : (a <<< (b &&& 0x3f).toInt64) = r) (K : own_G p e below Φ T (mkF m pc' Ls (.long r :: S))) : own_G p e below Φ T (mkF m pc Ls (.int b :: .long a :: S)) := by
  obtain ⟨⟨locs, Y, N⟩, hh, hn, hx, hZ, hby, hml, hown, hnm, hret, hlk⟩ := X
  subst hpc
  exact own_by K fun t kk => XS.lshl Y.here hx rfl (hb hby hd) rfl (hr ▸ kk)
theorem own_lshr (X : own_S Z n0 bytes y ml ret p l e R s m args below meth c T k sl h) {a r : Int64} {b : Int32} (hd : decode bytes pc = .ok (.lshr, 1)) (hpc : pc + 1 = pc') (hr : (a >>> (b &&& 0x3f).toInt64) = r) (K : own_G p e below Φ T (mkF m pc' Ls (.long r :: S))) : own_G p e below Φ T (mkF m pc Ls (.int b :: .long a :: S)) := by
  obtain ⟨⟨locs, Y, N⟩, hh, hn, hx, hZ, hby, hml, hown, hnm, hret, hlk⟩ := X
  subst hpc
  exact own_by K fun t kk => XS.lshr Y.here hx rfl (hb hby hd) rfl (hr ▸ kk)
theorem own_lushr (X : own_S Z n0 bytes y ml ret p l e R s m args below meth c T k sl h) {a r : Int64} {b : Int32} (hd : decode bytes pc = .ok (.lushr, 1)) (hpc : pc + 1 = pc') (hr : ((a.toUInt64 >>> (b &&& 0x3f).toInt64.toUInt64).toInt64) = r) (K : own_G p e below Φ T (mkF m pc' Ls (.long r :: S))) : own_G p e below Φ T (mkF m pc Ls (.int b :: .long a :: S)) := by
  obtain ⟨⟨locs, Y, N⟩, hh, hn, hx, hZ, hby, hml, hown, hnm, hret, hlk⟩ := X
  subst hpc
  exact own_by K fun t kk => XS.lushr Y.here hx rfl (hb hby hd) rfl (hr ▸ kk)
theorem own_idiv (X : own_S Z n0 bytes y ml ret p l e R s m args below meth c T k sl h) {a b r : Int32} (hd : decode bytes pc = .ok (.idiv, 1)) (hpc : pc + 1 = pc') (hz : b ≠ 0) (hr : a / b = r) (K : own_G p e below Φ T (mkF m pc' Ls (.int r :: S))) : own_G p e below Φ T (mkF m pc Ls (.int b :: .int a :: S)) := by
  obtain ⟨⟨locs, Y, N⟩, hh, hn, hx, hZ, hby, hml, hown, hnm, hret, hlk⟩ := X
  subst hpc
  exact own_by K fun t kk => XS.idiv Y.here hx rfl (hb hby hd) rfl hz (hr ▸ kk)
theorem own_irem (X : own_S Z n0 bytes y ml ret p l e R s m args below meth c T k sl h) {a b r : Int32} (hd : decode bytes pc = .ok (.irem, 1)) (hpc : pc + 1 = pc') (hz : b ≠ 0) (hr : a - (a / b) * b = r) (K : own_G p e below Φ T (mkF m pc' Ls (.int r :: S))) : own_G p e below Φ T (mkF m pc Ls (.int b :: .int a :: S)) := by
  obtain ⟨⟨locs, Y, N⟩, hh, hn, hx, hZ, hby, hml, hown, hnm, hret, hlk⟩ := X
  subst hpc
  exact own_by K fun t kk => XS.irem Y.here hx rfl (hb hby hd) rfl hz (hr ▸ kk)
theorem own_ldiv (X : own_S Z n0 bytes y ml ret p l e R s m args below meth c T k sl h) {a b r : Int64} (hd : decode bytes pc = .ok (.ldiv, 1)) (hpc : pc + 1 = pc') (hz : b ≠ 0) (hr : a / b = r) (K : own_G p e below Φ T (mkF m pc' Ls (.long r :: S))) : own_G p e below Φ T (mkF m pc Ls (.long b :: .long a :: S)) := by
  obtain ⟨⟨locs, Y, N⟩, hh, hn, hx, hZ, hby, hml, hown, hnm, hret, hlk⟩ := X
  subst hpc
  exact own_by K fun t kk => XS.ldiv Y.here hx rfl (hb hby hd) rfl hz (hr ▸ kk)
theorem own_lrem (X : own_S Z n0 bytes y ml ret p l e R s m args below meth c T k sl h) {a b r : Int64} (hd : decode bytes pc = .ok (.lrem, 1)) (hpc : pc + 1 = pc') (hz : b ≠ 0) (hr : a - (a / b) * b = r) (K : own_G p e below Φ T (mkF m pc' Ls (.long r :: S))) : own_G p e below Φ T (mkF m pc Ls (.long b :: .long a :: S)) := by
  obtain ⟨⟨locs, Y, N⟩, hh, hn, hx, hZ, hby, hml, hown, hnm, hret, hlk⟩ := X
  subst hpc
  exact own_by K fun t kk => XS.lrem Y.here hx rfl (hb hby hd) rfl hz (hr ▸ kk)
theorem own_ineg (X : own_S Z n0 bytes y ml ret p l e R s m args below meth c T k sl h) {a : Int32} {r : Int32} (hd : decode bytes pc = .ok (.ineg, 1)) (hpc : pc + 1 = pc') (hr : -a = r) (K : own_G p e below Φ T (mkF m pc' Ls (.int r :: S))) : own_G p e below Φ T (mkF m pc Ls (.int a :: S)) := by
  obtain ⟨⟨locs, Y, N⟩, hh, hn, hx, hZ, hby, hml, hown, hnm, hret, hlk⟩ := X
  subst hpc
  exact own_by K fun t kk => XS.ineg Y.here hx rfl (hb hby hd) rfl (hr ▸ kk)
theorem own_lneg (X : own_S Z n0 bytes y ml ret p l e R s m args below meth c T k sl h) {a : Int64} {r : Int64} (hd : decode bytes pc = .ok (.lneg, 1)) (hpc : pc + 1 = pc') (hr : -a = r) (K : own_G p e below Φ T (mkF m pc' Ls (.long r :: S))) : own_G p e below Φ T (mkF m pc Ls (.long a :: S)) := by
  obtain ⟨⟨locs, Y, N⟩, hh, hn, hx, hZ, hby, hml, hown, hnm, hret, hlk⟩ := X
  subst hpc
  exact own_by K fun t kk => XS.lneg Y.here hx rfl (hb hby hd) rfl (hr ▸ kk)
theorem own_i2l (X : own_S Z n0 bytes y ml ret p l e R s m args below meth c T k sl h) {a : Int32} {r : Int64} (hd : decode bytes pc = .ok (.i2l, 1)) (hpc : pc + 1 = pc') (hr : a.toInt64 = r) (K : own_G p e below Φ T (mkF m pc' Ls (.long r :: S))) : own_G p e below Φ T (mkF m pc Ls (.int a :: S)) := by
  obtain ⟨⟨locs, Y, N⟩, hh, hn, hx, hZ, hby, hml, hown, hnm, hret, hlk⟩ := X
  subst hpc
  exact own_by K fun t kk => XS.i2l Y.here hx rfl (hb hby hd) rfl (hr ▸ kk)
theorem own_l2i (X : own_S Z n0 bytes y ml ret p l e R s m args below meth c T k sl h) {a : Int64} {r : Int32} (hd : decode bytes pc = .ok (.l2i, 1)) (hpc : pc + 1 = pc') (hr : a.toInt32 = r) (K : own_G p e below Φ T (mkF m pc' Ls (.int r :: S))) : own_G p e below Φ T (mkF m pc Ls (.long a :: S)) := by
  obtain ⟨⟨locs, Y, N⟩, hh, hn, hx, hZ, hby, hml, hown, hnm, hret, hlk⟩ := X
  subst hpc
  exact own_by K fun t kk => XS.l2i Y.here hx rfl (hb hby hd) rfl (hr ▸ kk)
theorem own_i2b (X : own_S Z n0 bytes y ml ret p l e R s m args below meth c T k sl h) {a : Int32} {r : Int32} (hd : decode bytes pc = .ok (.i2b, 1)) (hpc : pc + 1 = pc') (hr : a.toInt8.toInt32 = r) (K : own_G p e below Φ T (mkF m pc' Ls (.int r :: S))) : own_G p e below Φ T (mkF m pc Ls (.int a :: S)) := by
  obtain ⟨⟨locs, Y, N⟩, hh, hn, hx, hZ, hby, hml, hown, hnm, hret, hlk⟩ := X
  subst hpc
  exact own_by K fun t kk => XS.i2b Y.here hx rfl (hb hby hd) rfl (hr ▸ kk)
theorem own_i2s (X : own_S Z n0 bytes y ml ret p l e R s m args below meth c T k sl h) {a : Int32} {r : Int32} (hd : decode bytes pc = .ok (.i2s, 1)) (hpc : pc + 1 = pc') (hr : a.toInt16.toInt32 = r) (K : own_G p e below Φ T (mkF m pc' Ls (.int r :: S))) : own_G p e below Φ T (mkF m pc Ls (.int a :: S)) := by
  obtain ⟨⟨locs, Y, N⟩, hh, hn, hx, hZ, hby, hml, hown, hnm, hret, hlk⟩ := X
  subst hpc
  exact own_by K fun t kk => XS.i2s Y.here hx rfl (hb hby hd) rfl (hr ▸ kk)
theorem own_i2c (X : own_S Z n0 bytes y ml ret p l e R s m args below meth c T k sl h) {a : Int32} {r : Int32} (hd : decode bytes pc = .ok (.i2c, 1)) (hpc : pc + 1 = pc') (hr : a.toUInt32.toUInt16.toUInt32.toInt32 = r) (K : own_G p e below Φ T (mkF m pc' Ls (.int r :: S))) : own_G p e below Φ T (mkF m pc Ls (.int a :: S)) := by
  obtain ⟨⟨locs, Y, N⟩, hh, hn, hx, hZ, hby, hml, hown, hnm, hret, hlk⟩ := X
  subst hpc
  exact own_by K fun t kk => XS.i2c Y.here hx rfl (hb hby hd) rfl (hr ▸ kk)
theorem own_lcmp (X : own_S Z n0 bytes y ml ret p l e R s m args below meth c T k sl h) {a b : Int64} (hd : decode bytes pc = .ok (.lcmp, 1)) (hpc : pc + 1 = pc') (K : own_G p e below Φ T (mkF m pc' Ls (.int (lcmpW a b) :: S))) : own_G p e below Φ T (mkF m pc Ls (.long b :: .long a :: S)) := by
  obtain ⟨⟨locs, Y, N⟩, hh, hn, hx, hZ, hby, hml, hown, hnm, hret, hlk⟩ := X
  subst hpc
  exact own_by K fun t kk => XS.lcmp Y.here hx rfl (hb hby hd) rfl kk
theorem own_iconst (X : own_S Z n0 bytes y ml ret p l e R s m args below meth c T k sl h) {i : Int} {v : Int32} (hd : decode bytes pc = .ok (.iconst i, 1)) (hpc : pc + 1 = pc') (hv : Int32.ofInt i = v) (K : own_G p e below Φ T (mkF m pc' Ls (.int v :: S))) : own_G p e below Φ T (mkF m pc Ls (S)) := by
  obtain ⟨⟨locs, Y, N⟩, hh, hn, hx, hZ, hby, hml, hown, hnm, hret, hlk⟩ := X
  subst hpc
  exact own_by K fun t kk => XS.iconst Y.here hx rfl (hb hby hd) (hv ▸ kk)
theorem own_bipush (X : own_S Z n0 bytes y ml ret p l e R s m args below meth c T k sl h) {i : Int} {v : Int32} (hd : decode bytes pc = .ok (.bipush i, 2)) (hpc : pc + 2 = pc') (hv : (Int8.ofInt i).toInt32 = v) (K : own_G p e below Φ T (mkF m pc' Ls (.int v :: S))) : own_G p e below Φ T (mkF m pc Ls (S)) := by
  obtain ⟨⟨locs, Y, N⟩, hh, hn, hx, hZ, hby, hml, hown, hnm, hret, hlk⟩ := X
  subst hpc
  exact own_by K fun t kk => XS.bipush Y.here hx rfl (hb hby hd) (hv ▸ kk)
theorem own_sipush (X : own_S Z n0 bytes y ml ret p l e R s m args below meth c T k sl h) {i : Int} {v : Int32} (hd : decode bytes pc = .ok (.sipush i, 3)) (hpc : pc + 3 = pc') (hv : (Int16.ofInt i).toInt32 = v) (K : own_G p e below Φ T (mkF m pc' Ls (.int v :: S))) : own_G p e below Φ T (mkF m pc Ls (S)) := by
  obtain ⟨⟨locs, Y, N⟩, hh, hn, hx, hZ, hby, hml, hown, hnm, hret, hlk⟩ := X
  subst hpc
  exact own_by K fun t kk => XS.sipush Y.here hx rfl (hb hby hd) (hv ▸ kk)
theorem own_lconst (X : own_S Z n0 bytes y ml ret p l e R s m args below meth c T k sl h) {i : Fin 2} {v : Int64} (hd : decode bytes pc = .ok (.lconst i, 1)) (hpc : pc + 1 = pc') (hv : Int64.ofNat i = v) (K : own_G p e below Φ T (mkF m pc' Ls (.long v :: S))) : own_G p e below Φ T (mkF m pc Ls (S)) := by
  obtain ⟨⟨locs, Y, N⟩, hh, hn, hx, hZ, hby, hml, hown, hnm, hret, hlk⟩ := X
  subst hpc
  exact own_by K fun t kk => XS.lconst Y.here hx rfl (hb hby hd) (hv ▸ kk)
theorem own_aconst_null (X : own_S Z n0 bytes y ml ret p l e R s m args below meth c T k sl h) (hd : decode bytes pc = .ok (.aconst_null, 1)) (hpc : pc + 1 = pc') (K : own_G p e below Φ T (mkF m pc' Ls (.null :: S))) : own_G p e below Φ T (mkF m pc Ls (S)) := by
  obtain ⟨⟨locs, Y, N⟩, hh, hn, hx, hZ, hby, hml, hown, hnm, hret, hlk⟩ := X
  subst hpc
  exact own_by K fun t kk => XS.aconstNull Y.here hx rfl (hb hby hd) kk
theorem own_iload (X : own_S Z n0 bytes y ml ret p l e R s m args below meth c T k sl h) {i : Nat} {v : Int32} (hd : decode bytes pc = .ok (.iload i, 2)) (hpc : pc + 2 = pc') (hl : Ls[i]? = some (.val (.int v))) (K : own_G p e below Φ T (mkF m pc' Ls (.int v :: S))) : own_G p e below Φ T (mkF m pc Ls (S)) := by
  obtain ⟨⟨locs, Y, N⟩, hh, hn, hx, hZ, hby, hml, hown, hnm, hret, hlk⟩ := X
  subst hpc
  exact own_by K fun t kk => XS.iload Y.here hx rfl (hb hby hd) hl kk
theorem own_iloadN (X : own_S Z n0 bytes y ml ret p l e R s m args below meth c T k sl h) {i : Fin 4} {v : Int32} (hd : decode bytes pc = .ok (.iload_n i, 1)) (hpc : pc + 1 = pc') (hl : Ls[i.val]? = some (.val (.int v))) (K : own_G p e below Φ T (mkF m pc' Ls (.int v :: S))) : own_G p e below Φ T (mkF m pc Ls (S)) := by
  obtain ⟨⟨locs, Y, N⟩, hh, hn, hx, hZ, hby, hml, hown, hnm, hret, hlk⟩ := X
  subst hpc
  exact own_by K fun t kk => XS.iloadN Y.here hx rfl (hb hby hd) hl kk
theorem own_lload (X : own_S Z n0 bytes y ml ret p l e R s m args below meth c T k sl h) {i : Nat} {v : Int64} (hd : decode bytes pc = .ok (.lload i, 2)) (hpc : pc + 2 = pc') (hl : Ls[i]? = some (.val (.long v))) (K : own_G p e below Φ T (mkF m pc' Ls (.long v :: S))) : own_G p e below Φ T (mkF m pc Ls (S)) := by
  obtain ⟨⟨locs, Y, N⟩, hh, hn, hx, hZ, hby, hml, hown, hnm, hret, hlk⟩ := X
  subst hpc
  exact own_by K fun t kk => XS.lload Y.here hx rfl (hb hby hd) hl kk
theorem own_lloadN (X : own_S Z n0 bytes y ml ret p l e R s m args below meth c T k sl h) {i : Fin 4} {v : Int64} (hd : decode bytes pc = .ok (.lload_n i, 1)) (hpc : pc + 1 = pc') (hl : Ls[i.val]? = some (.val (.long v))) (K : own_G p e below Φ T (mkF m pc' Ls (.long v :: S))) : own_G p e below Φ T (mkF m pc Ls (S)) := by
  obtain ⟨⟨locs, Y, N⟩, hh, hn, hx, hZ, hby, hml, hown, hnm, hret, hlk⟩ := X
  subst hpc
  exact own_by K fun t kk => XS.lloadN Y.here hx rfl (hb hby hd) hl kk
theorem own_aload (X : own_S Z n0 bytes y ml ret p l e R s m args below meth c T k sl h) {i : Nat} {v : Value} (hd : decode bytes pc = .ok (.aload i, 2)) (hpc : pc + 2 = pc') (hl : Ls[i]? = some (.val v)) (hv : v.isRef = true) (K : own_G p e below Φ T (mkF m pc' Ls (v :: S))) : own_G p e below Φ T (mkF m pc Ls (S)) := by
  obtain ⟨⟨locs, Y, N⟩, hh, hn, hx, hZ, hby, hml, hown, hnm, hret, hlk⟩ := X
  subst hpc
  exact own_by K fun t kk => XS.aload Y.here hx rfl (hb hby hd) hl hv kk
theorem own_aloadN (X : own_S Z n0 bytes y ml ret p l e R s m args below meth c T k sl h) {i : Fin 4} {v : Value} (hd : decode bytes pc = .ok (.aload_n i, 1)) (hpc : pc + 1 = pc') (hl : Ls[i.val]? = some (.val v)) (hv : v.isRef = true) (K : own_G p e below Φ T (mkF m pc' Ls (v :: S))) : own_G p e below Φ T (mkF m pc Ls (S)) := by
  obtain ⟨⟨locs, Y, N⟩, hh, hn, hx, hZ, hby, hml, hown, hnm, hret, hlk⟩ := X
  subst hpc
  exact own_by K fun t kk => XS.aloadN Y.here hx rfl (hb hby hd) hl hv kk
theorem own_dup (X : own_S Z n0 bytes y ml ret p l e R s m args below meth c T k sl h) {v : Value} (hd : decode bytes pc = .ok (.dup, 1)) (hpc : pc + 1 = pc') (hv : v.category = 1) (K : own_G p e below Φ T (mkF m pc' Ls (v :: v :: S))) : own_G p e below Φ T (mkF m pc Ls (v :: S)) := by
  obtain ⟨⟨locs, Y, N⟩, hh, hn, hx, hZ, hby, hml, hown, hnm, hret, hlk⟩ := X
  subst hpc
  exact own_by K fun t kk => XS.dup Y.here hx rfl (hb hby hd) rfl hv kk
theorem own_dup2 (X : own_S Z n0 bytes y ml ret p l e R s m args below meth c T k sl h) {v w : Value} (hd : decode bytes pc = .ok (.dup2, 1)) (hpc : pc + 1 = pc') (hv : v.category = 1) (hw : w.category = 1) (K : own_G p e below Φ T (mkF m pc' Ls (v :: w :: v :: w :: S))) : own_G p e below Φ T (mkF m pc Ls (v :: w :: S)) := by
  obtain ⟨⟨locs, Y, N⟩, hh, hn, hx, hZ, hby, hml, hown, hnm, hret, hlk⟩ := X
  subst hpc
  exact own_by K fun t kk => XT.dup2 Y.here hx rfl (hb hby hd) rfl hv hw kk
theorem own_pop (X : own_S Z n0 bytes y ml ret p l e R s m args below meth c T k sl h) {v : Value} (hd : decode bytes pc = .ok (.pop, 1)) (hpc : pc + 1 = pc') (hv : v.category = 1) (K : own_G p e below Φ T (mkF m pc' Ls (S))) : own_G p e below Φ T (mkF m pc Ls (v :: S)) := by
  obtain ⟨⟨locs, Y, N⟩, hh, hn, hx, hZ, hby, hml, hown, hnm, hret, hlk⟩ := X
  subst hpc
  exact own_by K fun t kk => XS.pop Y.here hx rfl (hb hby hd) rfl hv kk
theorem own_istore (X : own_S Z n0 bytes y ml ret p l e R s m args below meth c T k sl h) {i : Nat} {v : Int32} (hd : decode bytes pc = .ok (.istore i, 2)) (hpc : pc + 2 = pc') (hl : storeLocals Ls i (.int v) = some Ls') (K : own_G p e below Φ T (mkF m pc' Ls' S)) : own_G p e below Φ T (mkF m pc Ls (.int v :: S)) := by
  obtain ⟨⟨locs, Y, N⟩, hh, hn, hx, hZ, hby, hml, hown, hnm, hret, hlk⟩ := X
  subst hpc
  exact own_by K fun t kk => XS.istore Y.here hx rfl (hb hby hd) rfl hl kk
theorem own_istoreN (X : own_S Z n0 bytes y ml ret p l e R s m args below meth c T k sl h) {i : Fin 4} {v : Int32} (hd : decode bytes pc = .ok (.istore_n i, 1)) (hpc : pc + 1 = pc') (hl : storeLocals Ls i.val (.int v) = some Ls') (K : own_G p e below Φ T (mkF m pc' Ls' S)) : own_G p e below Φ T (mkF m pc Ls (.int v :: S)) := by
  obtain ⟨⟨locs, Y, N⟩, hh, hn, hx, hZ, hby, hml, hown, hnm, hret, hlk⟩ := X
  subst hpc
  exact own_by K fun t kk => XS.istoreN Y.here hx rfl (hb hby hd) rfl hl kk
theorem own_lstore (X : own_S Z n0 bytes y ml ret p l e R s m args below meth c T k sl h) {i : Nat} {v : Int64} (hd : decode bytes pc = .ok (.lstore i, 2)) (hpc : pc + 2 = pc') (hl : storeLocals Ls i (.long v) = some Ls') (K : own_G p e below Φ T (mkF m pc' Ls' S)) : own_G p e below Φ T (mkF m pc Ls (.long v :: S)) := by
  obtain ⟨⟨locs, Y, N⟩, hh, hn, hx, hZ, hby, hml, hown, hnm, hret, hlk⟩ := X
  subst hpc
  exact own_by K fun t kk => XS.lstore Y.here hx rfl (hb hby hd) rfl hl kk
theorem own_lstoreN (X : own_S Z n0 bytes y ml ret p l e R s m args below meth c T k sl h) {i : Fin 4} {v : Int64} (hd : decode bytes pc = .ok (.lstore_n i, 1)) (hpc : pc + 1 = pc') (hl : storeLocals Ls i.val (.long v) = some Ls') (K : own_G p e below Φ T (mkF m pc' Ls' S)) : own_G p e below Φ T (mkF m pc Ls (.long v :: S)) := by
  obtain ⟨⟨locs, Y, N⟩, hh, hn, hx, hZ, hby, hml, hown, hnm, hret, hlk⟩ := X
  subst hpc
  exact own_by K fun t kk => XS.lstoreN Y.here hx rfl (hb hby hd) rfl hl kk
theorem own_astore (X : own_S Z n0 bytes y ml ret p l e R s m args below meth c T k sl h) {i : Nat} {v : Value} (hd : decode bytes pc = .ok (.astore i, 2)) (hpc : pc + 2 = pc') (hv : v.isRef = true) (hl : storeLocals Ls i (v) = some Ls') (K : own_G p e below Φ T (mkF m pc' Ls' S)) : own_G p e below Φ T (mkF m pc Ls (v :: S)) := by
  obtain ⟨⟨locs, Y, N⟩, hh, hn, hx, hZ, hby, hml, hown, hnm, hret, hlk⟩ := X
  subst hpc
  exact own_by K fun t kk => XS.astore Y.here hx rfl (hb hby hd) rfl hv hl kk
theorem own_astoreN (X : own_S Z n0 bytes y ml ret p l e R s m args below meth c T k sl h) {i : Fin 4} {v : Value} (hd : decode bytes pc = .ok (.astore_n i, 1)) (hpc : pc + 1 = pc') (hv : v.isRef = true) (hl : storeLocals Ls i.val (v) = some Ls') (K : own_G p e below Φ T (mkF m pc' Ls' S)) : own_G p e below Φ T (mkF m pc Ls (v :: S)) := by
  obtain ⟨⟨locs, Y, N⟩, hh, hn, hx, hZ, hby, hml, hown, hnm, hret, hlk⟩ := X
  subst hpc
  exact own_by K fun t kk => XS.astoreN Y.here hx rfl (hb hby hd) rfl hv hl kk
theorem own_iinc (X : own_S Z n0 bytes y ml ret p l e R s m args below meth c T k sl h) {i : Nat} {cst : Int} {v : Int32} (hd : decode bytes pc = .ok (.iinc i cst, 3)) (hpc : pc + 3 = pc') (hl : Ls[i]? = some (.val (.int v))) {w : Int32} (hw : v + Int32.ofInt cst = w) (hs : storeLocals Ls i (.int w) = some Ls') (K : own_G p e below Φ T (mkF m pc' Ls' S)) : own_G p e below Φ T (mkF m pc Ls S) := by
  obtain ⟨⟨locs, Y, N⟩, hh, hn, hx, hZ, hby, hml, hown, hnm, hret, hlk⟩ := X
  subst hpc
  exact own_by K fun t kk => XS.iinc Y.here hx rfl (hb hby hd) hl (hw ▸ hs) kk
theorem own_goto (X : own_S Z n0 bytes y ml ret p l e R s m args below meth c T k sl h) {o : Int} (hd : decode bytes pc = .ok (.goto o, 3)) (ho : 0 ≤ (pc : Int) + o) (hp : ((pc : Int) + o).toNat = pc') (K : own_G p e below Φ T (mkF m pc' Ls S)) : own_G p e below Φ T (mkF m pc Ls S) := by
  obtain ⟨⟨locs, Y, N⟩, hh, hn, hx, hZ, hby, hml, hown, hnm, hret, hlk⟩ := X
  exact own_by K fun t kk => XS.goto Y.here hx rfl rfl (hb hby hd) ho hp kk
theorem own_icmp_eq (X : own_S Z n0 bytes y ml ret p l e R s m args below meth c T k sl h) {o : Int} {a b : Int32} {pct : Nat} (hd : decode bytes pc = .ok (.if_icmp .eq o, 3)) (hpc : pc + 3 = pc') (ho : 0 ≤ (pc : Int) + o) (hp : ((pc : Int) + o).toNat = pct) (Ky : a = b → own_G p e below Φ T (mkF m pct Ls S)) (Kn : ¬ a = b → own_G p e below Φ T (mkF m pc' Ls S)) : own_G p e below Φ T (mkF m pc Ls (.int b :: .int a :: S)) := by
  obtain ⟨⟨locs, Y, N⟩, hh, hn, hx, hZ, hby, hml, hown, hnm, hret, hlk⟩ := X
  subst hpc
  by_cases hc : a = b
  · exact own_by (Ky hc) fun t kk => XS.icmpYes Y.here hx rfl rfl (hb hby hd) rfl (teq hc).1 ho hp kk
  · exact own_by (Kn hc) fun t kk => XS.icmpNo Y.here hx rfl (hb hby hd) rfl (feq hc).1 kk
theorem own_if_eq (X : own_S Z n0 bytes y ml ret p l e R s m args below meth c T k sl h) {o : Int} {a : Int32} {pct : Nat} (hd : decode bytes pc = .ok (.ifCond .eq o, 3)) (hpc : pc + 3 = pc') (ho : 0 ≤ (pc : Int) + o) (hp : ((pc : Int) + o).toNat = pct) (Ky : a = 0 → own_G p e below Φ T (mkF m pct Ls S)) (Kn : ¬ a = 0 → own_G p e below Φ T (mkF m pc' Ls S)) : own_G p e below Φ T (mkF m pc Ls (.int a :: S)) := by
  obtain ⟨⟨locs, Y, N⟩, hh, hn, hx, hZ, hby, hml, hown, hnm, hret, hlk⟩ := X
  subst hpc
  by_cases hc : a = 0
  · exact own_by (Ky hc) fun t kk => XS.ifYes Y.here hx rfl rfl (hb hby hd) rfl ((if0 _ _).trans (teq hc).1) ho hp kk
  · exact own_by (Kn hc) fun t kk => XS.ifNo Y.here hx rfl (hb hby hd) rfl ((if0 _ _).trans (feq hc).1) kk
theorem own_icmp_ne (X : own_S Z n0 bytes y ml ret p l e R s m args below meth c T k sl h) {o : Int} {a b : Int32} {pct : Nat} (hd : decode bytes pc = .ok (.if_icmp .ne o, 3)) (hpc : pc + 3 = pc') (ho : 0 ≤ (pc : Int) + o) (hp : ((pc : Int) + o).toNat = pct) (Ky : ¬ a = b → own_G p e below Φ T (mkF m pct Ls S)) (Kn : a = b → own_G p e below Φ T (mkF m pc' Ls S)) : own_G p e below Φ T (mkF m pc Ls (.int b :: .int a :: S)) := by
  obtain ⟨⟨locs, Y, N⟩, hh, hn, hx, hZ, hby, hml, hown, hnm, hret, hlk⟩ := X
  subst hpc
  by_cases hc : ¬ a = b
  · exact own_by (Ky hc) fun t kk => XS.icmpYes Y.here hx rfl rfl (hb hby hd) rfl (feq hc).2 ho hp kk
  · replace hc := Decidable.not_not.mp hc; exact own_by (Kn hc) fun t kk => XS.icmpNo Y.here hx rfl (hb hby hd) rfl (teq hc).2 kk
theorem own_if_ne (X : own_S Z n0 bytes y ml ret p l e R s m args below meth c T k sl h) {o : Int} {a : Int32} {pct : Nat} (hd : decode bytes pc = .ok (.ifCond .ne o, 3)) (hpc : pc + 3 = pc') (ho : 0 ≤ (pc : Int) + o) (hp : ((pc : Int) + o).toNat = pct) (Ky : ¬ a = 0 → own_G p e below Φ T (mkF m pct Ls S)) (Kn : a = 0 → own_G p e below Φ T (mkF m pc' Ls S)) : own_G p e below Φ T (mkF m pc Ls (.int a :: S)) := by
  obtain ⟨⟨locs, Y, N⟩, hh, hn, hx, hZ, hby, hml, hown, hnm, hret, hlk⟩ := X
  subst hpc
  by_cases hc : ¬ a = 0
  · exact own_by (Ky hc) fun t kk => XS.ifYes Y.here hx rfl rfl (hb hby hd) rfl ((if0 _ _).trans (feq hc).2) ho hp kk
  · replace hc := Decidable.not_not.mp hc; exact own_by (Kn hc) fun t kk => XS.ifNo Y.here hx rfl (hb hby hd) rfl ((if0 _ _).trans (teq hc).2) kk
theorem own_icmp_lt (X : own_S Z n0 bytes y ml ret p l e R s m args below meth c T k sl h) {o : Int} {a b : Int32} {pct : Nat} (hd : decode bytes pc = .ok (.if_icmp .lt o, 3)) (hpc : pc + 3 = pc') (ho : 0 ≤ (pc : Int) + o) (hp : ((pc : Int) + o).toNat = pct) (Ky : a < b → own_G p e below Φ T (mkF m pct Ls S)) (Kn : ¬ a < b → own_G p e below Φ T (mkF m pc' Ls S)) : own_G p e below Φ T (mkF m pc Ls (.int b :: .int a :: S)) := by
  obtain ⟨⟨locs, Y, N⟩, hh, hn, hx, hZ, hby, hml, hown, hnm, hret, hlk⟩ := X
  subst hpc
  by_cases hc : a < b
  · exact own_by (Ky hc) fun t kk => XS.icmpYes Y.here hx rfl rfl (hb hby hd) rfl (tlt hc).1 ho hp kk
  · exact own_by (Kn hc) fun t kk => XS.icmpNo Y.here hx rfl (hb hby hd) rfl (flt hc).1 kk
theorem own_if_lt (X : own_S Z n0 bytes y ml ret p l e R s m args below meth c T k sl h) {o : Int} {a : Int32} {pct : Nat} (hd : decode bytes pc = .ok (.ifCond .lt o, 3)) (hpc : pc + 3 = pc') (ho : 0 ≤ (pc : Int) + o) (hp : ((pc : Int) + o).toNat = pct) (Ky : a < 0 → own_G p e below Φ T (mkF m pct Ls S)) (Kn : ¬ a < 0 → own_G p e below Φ T (mkF m pc' Ls S)) : own_G p e below Φ T (mkF m pc Ls (.int a :: S)) := by
  obtain ⟨⟨locs, Y, N⟩, hh, hn, hx, hZ, hby, hml, hown, hnm, hret, hlk⟩ := X
  subst hpc
  by_cases hc : a < 0
  · exact own_by (Ky hc) fun t kk => XS.ifYes Y.here hx rfl rfl (hb hby hd) rfl ((if0 _ _).trans (tlt hc).1) ho hp kk
  · exact own_by (Kn hc) fun t kk => XS.ifNo Y.here hx rfl (hb hby hd) rfl ((if0 _ _).trans (flt hc).1) kk
theorem own_icmp_ge (X : own_S Z n0 bytes y ml ret p l e R s m args below meth c T k sl h) {o : Int} {a b : Int32} {pct : Nat} (hd : decode bytes pc = .ok (.if_icmp .ge o, 3)) (hpc : pc + 3 = pc') (ho : 0 ≤ (pc : Int) + o) (hp : ((pc : Int) + o).toNat = pct) (Ky : ¬ a < b → own_G p e below Φ T (mkF m pct Ls S)) (Kn : a < b → own_G p e below Φ T (mkF m pc' Ls S)) : own_G p e below Φ T (mkF m pc Ls (.int b :: .int a :: S)) := by
  obtain ⟨⟨locs, Y, N⟩, hh, hn, hx, hZ, hby, hml, hown, hnm, hret, hlk⟩ := X
  subst hpc
  by_cases hc : ¬ a < b
  · exact own_by (Ky hc) fun t kk => XS.icmpYes Y.here hx rfl rfl (hb hby hd) rfl (flt hc).2.1 ho hp kk
  · replace hc := Decidable.not_not.mp hc; exact own_by (Kn hc) fun t kk => XS.icmpNo Y.here hx rfl (hb hby hd) rfl (tlt hc).2.1 kk
theorem own_if_ge (X : own_S Z n0 bytes y ml ret p l e R s m args below meth c T k sl h) {o : Int} {a : Int32} {pct : Nat} (hd : decode bytes pc = .ok (.ifCond .ge o, 3)) (hpc : pc + 3 = pc') (ho : 0 ≤ (pc : Int) + o) (hp : ((pc : Int) + o).toNat = pct) (Ky : ¬ a < 0 → own_G p e below Φ T (mkF m pct Ls S)) (Kn : a < 0 → own_G p e below Φ T (mkF m pc' Ls S)) : own_G p e below Φ T (mkF m pc Ls (.int a :: S)) := by
  obtain ⟨⟨locs, Y, N⟩, hh, hn, hx, hZ, hby, hml, hown, hnm, hret, hlk⟩ := X
  subst hpc
  by_cases hc : ¬ a < 0
  · exact own_by (Ky hc) fun t kk => XS.ifYes Y.here hx rfl rfl (hb hby hd) rfl ((if0 _ _).trans (flt hc).2.1) ho hp kk
  · replace hc := Decidable.not_not.mp hc; exact own_by (Kn hc) fun t kk => XS.ifNo Y.here hx rfl (hb hby hd) rfl ((if0 _ _).trans (tlt hc).2.1) kk
theorem own_icmp_gt (X : own_S Z n0 bytes y ml ret p l e R s m args below meth c T k sl h) {o : Int} {a b : Int32} {pct : Nat} (hd : decode bytes pc = .ok (.if_icmp .gt o, 3)) (hpc : pc + 3 = pc') (ho : 0 ≤ (pc : Int) + o) (hp : ((pc : Int) + o).toNat = pct) (Ky : b < a → own_G p e below Φ T (mkF m pct Ls S)) (Kn : ¬ b < a → own_G p e below Φ T (mkF m pc' Ls S)) : own_G p e below Φ T (mkF m pc Ls (.int b :: .int a :: S)) := by
  obtain ⟨⟨locs, Y, N⟩, hh, hn, hx, hZ, hby, hml, hown, hnm, hret, hlk⟩ := X
  subst hpc
  by_cases hc : b < a
  · exact own_by (Ky hc) fun t kk => XS.icmpYes Y.here hx rfl rfl (hb hby hd) rfl (tlt hc).2.2.1 ho hp kk
  · exact own_by (Kn hc) fun t kk => XS.icmpNo Y.here hx rfl (hb hby hd) rfl (flt hc).2.2.1 kk
theorem own_if_gt (X : own_S Z n0 bytes y ml ret p l e R s m args below meth c T k sl h) {o : Int} {a : Int32} {pct : Nat} (hd : decode bytes pc = .ok (.ifCond .gt o, 3)) (hpc : pc + 3 = pc') (ho : 0 ≤ (pc : Int) + o) (hp : ((pc : Int) + o).toNat = pct) (Ky : 0 < a → own_G p e below Φ T (mkF m pct Ls S)) (Kn : ¬ 0 < a → own_G p e below Φ T (mkF m pc' Ls S)) : own_G p e below Φ T (mkF m pc Ls (.int a :: S)) := by
  obtain ⟨⟨locs, Y, N⟩, hh, hn, hx, hZ, hby, hml, hown, hnm, hret, hlk⟩ := X
  subst hpc
  by_cases hc : 0 < a
  · exact own_by (Ky hc) fun t kk => XS.ifYes Y.here hx rfl rfl (hb hby hd) rfl ((if0 _ _).trans (tlt hc).2.2.1) ho hp kk
  · exact own_by (Kn hc) fun t kk => XS.ifNo Y.here hx rfl (hb hby hd) rfl ((if0 _ _).trans (flt hc).2.2.1) kk
theorem own_icmp_le (X : own_S Z n0 bytes y ml ret p l e R s m args below meth c T k sl h) {o : Int} {a b : Int32} {pct : Nat} (hd : decode bytes pc = .ok (.if_icmp .le o, 3)) (hpc : pc + 3 = pc') (ho : 0 ≤ (pc : Int) + o) (hp : ((pc : Int) + o).toNat = pct) (Ky : ¬ b < a → own_G p e below Φ T (mkF m pct Ls S)) (Kn : b < a → own_G p e below Φ T (mkF m pc' Ls S)) : own_G p e below Φ T (mkF m pc Ls (.int b :: .int a :: S)) := by
  obtain ⟨⟨locs, Y, N⟩, hh, hn, hx, hZ, hby, hml, hown, hnm, hret, hlk⟩ := X
  subst hpc
  by_cases hc : ¬ b < a
  · exact own_by (Ky hc) fun t kk => XS.icmpYes Y.here hx rfl rfl (hb hby hd) rfl (flt hc).2.2.2 ho hp kk
  · replace hc := Decidable.not_not.mp hc; exact own_by (Kn hc) fun t kk => XS.icmpNo Y.here hx rfl (hb hby hd) rfl (tlt hc).2.2.2 kk
theorem own_if_le (X : own_S Z n0 bytes y ml ret p l e R s m args below meth c T k sl h) {o : Int} {a : Int32} {pct : Nat} (hd : decode bytes pc = .ok (.ifCond .le o, 3)) (hpc : pc + 3 = pc') (ho : 0 ≤ (pc : Int) + o) (hp : ((pc : Int) + o).toNat = pct) (Ky : ¬ 0 < a → own_G p e below Φ T (mkF m pct Ls S)) (Kn : 0 < a → own_G p e below Φ T (mkF m pc' Ls S)) : own_G p e below Φ T (mkF m pc Ls (.int a :: S)) := by
  obtain ⟨⟨locs, Y, N⟩, hh, hn, hx, hZ, hby, hml, hown, hnm, hret, hlk⟩ := X
  subst hpc
  by_cases hc : ¬ 0 < a
  · exact own_by (Ky hc) fun t kk => XS.ifYes Y.here hx rfl rfl (hb hby hd) rfl ((if0 _ _).trans (flt hc).2.2.2) ho hp kk
  · replace hc := Decidable.not_not.mp hc; exact own_by (Kn hc) fun t kk => XS.ifNo Y.here hx rfl (hb hby hd) rfl ((if0 _ _).trans (tlt hc).2.2.2) kk
theorem own_ifl_eq (X : own_S Z n0 bytes y ml ret p l e R s m args below meth c T k sl h) {o : Int} {a b : Int64} {pct : Nat} (hd : decode bytes pc = .ok (.ifCond .eq o, 3)) (hpc : pc + 3 = pc') (ho : 0 ≤ (pc : Int) + o) (hp : ((pc : Int) + o).toNat = pct) (Ky : a = b → own_G p e below Φ T (mkF m pct Ls S)) (Kn : ¬ a = b → own_G p e below Φ T (mkF m pc' Ls S)) : own_G p e below Φ T (mkF m pc Ls (.int (lcmpW a b) :: S)) :=
  own_if_eq X hd hpc ho hp (fun q => Ky ((lw_eq a b).mp q)) (fun q => Kn (fun r => q ((lw_eq a b).mpr r)))
theorem own_ifl_ne (X : own_S Z n0 bytes y ml ret p l e R s m args below meth c T k sl h) {o : Int} {a b : Int64} {pct : Nat} (hd : decode bytes pc = .ok (.ifCond .ne o, 3)) (hpc : pc + 3 = pc') (ho : 0 ≤ (pc : Int) + o) (hp : ((pc : Int) + o).toNat = pct) (Ky : ¬ a = b → own_G p e below Φ T (mkF m pct Ls S)) (Kn : a = b → own_G p e below Φ T (mkF m pc' Ls S)) : own_G p e below Φ T (mkF m pc Ls (.int (lcmpW a b) :: S)) :=
  own_if_ne X hd hpc ho hp (fun q => Ky (fun r => q ((lw_eq a b).mpr r))) (fun q => Kn ((lw_eq a b).mp q))
theorem own_ifl_lt (X : own_S Z n0 bytes y ml ret p l e R s m args below meth c T k sl h) {o : Int} {a b : Int64} {pct : Nat} (hd : decode bytes pc = .ok (.ifCond .lt o, 3)) (hpc : pc + 3 = pc') (ho : 0 ≤ (pc : Int) + o) (hp : ((pc : Int) + o).toNat = pct) (Ky : a < b → own_G p e below Φ T (mkF m pct Ls S)) (Kn : ¬ a < b → own_G p e below Φ T (mkF m pc' Ls S)) : own_G p e below Φ T (mkF m pc Ls (.int (lcmpW a b) :: S)) :=
  own_if_lt X hd hpc ho hp (fun q => Ky ((lw_lt a b).mp q)) (fun q => Kn (fun r => q ((lw_lt a b).mpr r)))
theorem own_ifl_ge (X : own_S Z n0 bytes y ml ret p l e R s m args below meth c T k sl h) {o : Int} {a b : Int64} {pct : Nat} (hd : decode bytes pc = .ok (.ifCond .ge o, 3)) (hpc : pc + 3 = pc') (ho : 0 ≤ (pc : Int) + o) (hp : ((pc : Int) + o).toNat = pct) (Ky : ¬ a < b → own_G p e below Φ T (mkF m pct Ls S)) (Kn : a < b → own_G p e below Φ T (mkF m pc' Ls S)) : own_G p e below Φ T (mkF m pc Ls (.int (lcmpW a b) :: S)) :=
  own_if_ge X hd hpc ho hp (fun q => Ky (fun r => q ((lw_lt a b).mpr r))) (fun q => Kn ((lw_lt a b).mp q))
theorem own_ifl_gt (X : own_S Z n0 bytes y ml ret p l e R s m args below meth c T k sl h) {o : Int} {a b : Int64} {pct : Nat} (hd : decode bytes pc = .ok (.ifCond .gt o, 3)) (hpc : pc + 3 = pc') (ho : 0 ≤ (pc : Int) + o) (hp : ((pc : Int) + o).toNat = pct) (Ky : b < a → own_G p e below Φ T (mkF m pct Ls S)) (Kn : ¬ b < a → own_G p e below Φ T (mkF m pc' Ls S)) : own_G p e below Φ T (mkF m pc Ls (.int (lcmpW a b) :: S)) :=
  own_if_gt X hd hpc ho hp (fun q => Ky ((lw_gt a b).mp q)) (fun q => Kn (fun r => q ((lw_gt a b).mpr r)))
theorem own_ifl_le (X : own_S Z n0 bytes y ml ret p l e R s m args below meth c T k sl h) {o : Int} {a b : Int64} {pct : Nat} (hd : decode bytes pc = .ok (.ifCond .le o, 3)) (hpc : pc + 3 = pc') (ho : 0 ≤ (pc : Int) + o) (hp : ((pc : Int) + o).toNat = pct) (Ky : ¬ b < a → own_G p e below Φ T (mkF m pct Ls S)) (Kn : b < a → own_G p e below Φ T (mkF m pc' Ls S)) : own_G p e below Φ T (mkF m pc Ls (.int (lcmpW a b) :: S)) :=
  own_if_le X hd hpc ho hp (fun q => Ky (fun r => q ((lw_gt a b).mpr r))) (fun q => Kn ((lw_gt a b).mp q))
theorem own_ldc {i : Nat} {v : Int32} (X : own_S Z n0 bytes y ml ret p l e R s m args below meth c T k sl h) (hw : (Jvm.Cond.constant y.cls i v).before a0 Z = true) (hd : decode bytes pc = .ok (.ldc i, 2)) (hpc : pc + 2 = pc') (K : own_G p e below Φ T (mkF m pc' Ls (.int v :: S))) : own_G p e below Φ T (mkF m pc Ls S) := by
  obtain ⟨⟨locs, Y, N⟩, hh, hn, hx, hZ, hby, hml, hown, hnm, hret, hlk⟩ := X
  subst hpc
  exact own_by K fun t kk => Y.ldcInt hx hown (mvT hZ hw) (g := mkF m pc Ls S) rfl (hb hby hd) t kk
theorem own_ldc2 {i : Nat} {v : Int64} (X : own_S Z n0 bytes y ml ret p l e R s m args below meth c T k sl h) (hw : (Jvm.Cond.constantLong y.cls i v).before a0 Z = true) (hd : decode bytes pc = .ok (.ldc2_w i, 3)) (hpc : pc + 3 = pc') (K : own_G p e below Φ T (mkF m pc' Ls (.long v :: S))) : own_G p e below Φ T (mkF m pc Ls S) := by
  obtain ⟨⟨locs, Y, N⟩, hh, hn, hx, hZ, hby, hml, hown, hnm, hret, hlk⟩ := X
  subst hpc
  exact own_by K fun t kk => Y.ldc2Long hx hown (mvT hZ hw) (g := mkF m pc Ls S) rfl (hb hby hd) t kk
theorem own_ret {w' : Option Value} {Θ : Heap → Prop} {w : Value} {t : FieldType} {i : Instr} (X : own_S Z n0 bytes y ml (some t) p l e R s m args below meth c T k sl h)
    (hd : decode bytes pc = .ok (i, 1)) (hi : (i = .ireturn ∧ (t = .int ∨ t = .boolean ∨ t = .byte ∨ t = .char ∨ t = .short) ∧ ∃ z, w = .int z) ∨ (i = .lreturn ∧ t = .long ∧ ∃ z, w = .long z) ∨ (i = .dreturn ∧ t = .double ∧ ∃ z, w = .double z) ∨ (i = .freturn ∧ t = .float ∧ ∃ z, w = .float z) ∨ (i = .areturn ∧ t.isReference = true ∧ w.isRef = true))
    (hnw : narrow t w = w) (hk : k ≤ R.cells) (hs : sl ≤ R.slots) (hw : some w = w') (hΘ : Θ h) : own_G p e below (own_Q n0 below s R w' Θ) T (mkF m pc Ls (w :: S)) := by
  obtain ⟨⟨locs, Y, N⟩, hh, hn, hx, hZ, hby, hml, hown, hnm, hret, hlk⟩ := X
  obtain ⟨fs, hr, hrun, hended, hW, hsame⟩ := Y.leave (v := some w) (fun h => by rw [hret] at h; cases h) hlk
  refine ⟨_, _, retOut Y hx hret hnw hi (hb hby hd) hr, hrun, hended, _, _, rfl, ⟨⟨hw, ?_⟩, N⟩, ⟨_, rfl⟩, hW, hsame.mono hk hs⟩
  show Θ T.heap
  rw [hh]; exact hΘ
theorem own_retV {w' : Option Value} {Θ : Heap → Prop} (X : own_S Z n0 bytes y ml none p l e R s m args below meth c T k sl h)
    (hd : decode bytes pc = .ok (.return_, 1)) (hk : k ≤ R.cells) (hs : sl ≤ R.slots) (hw : none = w') (hΘ : Θ h) : own_G p e below (own_Q n0 below s R w' Θ) T (mkF m pc Ls []) := by
  obtain ⟨⟨locs, Y, N⟩, hh, hn, hx, hZ, hby, hml, hown, hnm, hret, hlk⟩ := X
  obtain ⟨fs, hr, hrun, hended, hW, hsame⟩ := Y.leave (v := none) (fun _ => rfl) hlk
  refine ⟨_, _, Y.returnOut hx hret (hb hby hd) hr, hrun, hended, _, _, rfl, ⟨⟨hw, ?_⟩, N⟩, ⟨_, rfl⟩, hW, hsame.mono hk hs⟩
  show Θ T.heap
  rw [hh]; exact hΘ
theorem own_retZ {w' : Option Value} {Θ : Heap → Prop} {z : Int32} (X : own_S Z n0 bytes y ml (some .boolean) p l e R s m args below meth c T k sl h) (hd : decode bytes pc = .ok (.ireturn, 1)) (hz : z &&& 1 = z) (hk : k ≤ R.cells) (hs : sl ≤ R.slots) (hw : some (.int z) = w') (hΘ : Θ h) : own_G p e below (own_Q n0 below s R w' Θ) T (mkF m pc Ls (.int z :: S)) :=
  own_ret X hd (Or.inl ⟨rfl, by simp, _, rfl⟩) (by simp [narrow, hz]) hk hs hw hΘ
theorem own_retI {w' : Option Value} {Θ : Heap → Prop} {z : Int32} (X : own_S Z n0 bytes y ml (some .int) p l e R s m args below meth c T k sl h) (hd : decode bytes pc = .ok (.ireturn, 1)) (hk : k ≤ R.cells) (hs : sl ≤ R.slots) (hw : some (.int z) = w') (hΘ : Θ h) : own_G p e below (own_Q n0 below s R w' Θ) T (mkF m pc Ls (.int z :: S)) :=
  own_ret X hd (Or.inl ⟨rfl, by simp, _, rfl⟩) rfl hk hs hw hΘ
theorem own_retB {w' : Option Value} {Θ : Heap → Prop} {z : Int32} (X : own_S Z n0 bytes y ml (some .byte) p l e R s m args below meth c T k sl h) (hd : decode bytes pc = .ok (.ireturn, 1)) (hz : z.toInt8.toInt32 = z) (hk : k ≤ R.cells) (hs : sl ≤ R.slots) (hw : some (.int z) = w') (hΘ : Θ h) : own_G p e below (own_Q n0 below s R w' Θ) T (mkF m pc Ls (.int z :: S)) :=
  own_ret X hd (Or.inl ⟨rfl, by simp, _, rfl⟩) (by simp [narrow, hz]) hk hs hw hΘ
theorem own_retL {w' : Option Value} {Θ : Heap → Prop} {z : Int64} (X : own_S Z n0 bytes y ml (some .long) p l e R s m args below meth c T k sl h) (hd : decode bytes pc = .ok (.lreturn, 1)) (hk : k ≤ R.cells) (hs : sl ≤ R.slots) (hw : some (.long z) = w') (hΘ : Θ h) : own_G p e below (own_Q n0 below s R w' Θ) T (mkF m pc Ls (.long z :: S)) :=
  own_ret X hd (Or.inr (Or.inl ⟨rfl, rfl, _, rfl⟩)) rfl hk hs hw hΘ
theorem own_callS {z : MethodName} {cb : ByteArray} {cml : Nat} {cret : Option FieldType} {crm : Room} {i : Nat} {argsL rest S' : List Value} {w : Option Value} {Θ : Heap → Prop} (X : own_S Z n0 bytes y ml ret p l e R s m args below meth c T k sl h) (M : own_Met l z cb cml cret crm Z n0 argsL.toArray h w Θ)
    (w1 : (Jvm.Cond.methodLink y.cls i z).before a0 Z = true) (w2 : (Jvm.Cond.static z).before a0 Z = true) (w3 : (Jvm.Cond.initialized z.cls).before a0 Z = true) (w4 : (Jvm.Cond.code z cb cml cret).before a0 Z = true) (hz : z.cls ≠ "java/lang/invoke/MethodHandle" ∧ z.cls ≠ "java/lang/invoke/VarHandle")
    {W : Nat} (hf : crm.frames + 1 ≤ R.frames) (hl : W + (cml + 11) + crm.locals ≤ R.locals) (hc0 : crm.cells = 0) (hs0 : crm.slots = 0) (hc : k ≤ R.cells) (hs : sl ≤ R.slots)
    (hlen : ∀ sig, parseMethodDescriptor z.desc = some sig → argsL.length = sig.parameters.length) (hst : S = argsL.reverse ++ rest) (hW : 2 * 0 + (rest.map fun v => v.category).sum ≤ W) (hsz : Ls.size = ml)
    (hd : decode bytes pc = .ok (.invokestatic i, 3)) (hpc : pc + 3 = pc')
    (hS' : w.toList ++ rest = S') (K : ∀ T' h', own_S Z n0 bytes y ml ret p l e R s m args below meth c T' k sl h' → Θ h' → own_G p e below Φ T' (mkF m pc' Ls S')) : own_G p e below Φ T (mkF m pc Ls S) := by
  obtain ⟨⟨locs, Y, N⟩, hh, hn, hx, hZ, hby, hml, hown, hnm, hret, hlk⟩ := X
  subst hpc
  obtain ⟨v, _, ⟨T', L', k', n'⟩, -, X', ⟨Lc, hQ, l1, y1, z1⟩, st⟩ := Jvm.LawKit.callS Y hx (y := z) hown (mvT hZ w1) (mvT hZ w2) (mvT hZ w3) (mvT hZ w4) hz (backOf (W := W) (Q := fun v h' L => (v = w ∧ Θ h') ∧ Fr n0 L) (M []) hZ w4 w3 hf hl) (g := mkF m pc Ls S) rfl (by rw [hml]; exact hsz) (argsL := argsL) (rest := rest) hlen hst hW (hb hby hd) (fun _ _ => ⟨rfl, hh, by rw [hc0]; exact hc, by rw [hs0]; exact hs⟩)
  dsimp only [Pt.U, Pt.locs, Pt.cells, Pt.slots] at X' l1 y1 z1 st hQ
  subst l1 y1 z1
  obtain ⟨⟨rfl, hQ1⟩, hQ2⟩ := hQ
  rw [hc0, hs0] at X'
  subst hS'
  exact own_by (K T' _ ⟨⟨_, X', N.app hQ2⟩, rfl, hn, hx, hZ, hby, hml, hown, hnm, hret, hlk⟩ hQ1) st
theorem own_callI {z : MethodName} {cb : ByteArray} {cml : Nat} {crm : Room} {i : Nat} {a : Addr} {argsL rest S' : List Value} {w : Option Value} {Θ : Heap → Prop} (X : own_S Z n0 bytes y ml ret p l e R s m args below meth c T k sl h) (M : own_Met l z cb cml none crm Z n0 (.ref a :: argsL).toArray h w Θ) (hi : z.name = "<init>")
    (w1 : (Jvm.Cond.methodLink y.cls i z).before a0 Z = true) (w2 : (Jvm.Cond.instanceMethod z).before a0 Z = true) (w3 : (Jvm.Cond.initialized z.cls).before a0 Z = true) (w4 : (Jvm.Cond.code z cb cml none).before a0 Z = true) (hz : z.cls ≠ "java/lang/invoke/MethodHandle" ∧ z.cls ≠ "java/lang/invoke/VarHandle")
    {W : Nat} (hf : crm.frames + 1 ≤ R.frames) (hl : W + (cml + 11) + crm.locals ≤ R.locals) (hc0 : crm.cells = 0) (hs0 : crm.slots = 0) (hc : k ≤ R.cells) (hs : sl ≤ R.slots)
    (hlen : ∀ sig, parseMethodDescriptor z.desc = some sig → argsL.length = sig.parameters.length) (hst : S = argsL.reverse ++ .ref a :: rest) (hW : 2 * 0 + (rest.map fun v => v.category).sum ≤ W) (hsz : Ls.size = ml)
    (hd : decode bytes pc = .ok (.invokespecial i, 3)) (hpc : pc + 3 = pc')
    (hS' : w.toList ++ rest = S') (K : ∀ T' h', own_S Z n0 bytes y ml ret p l e R s m args below meth c T' k sl h' → Θ h' → own_G p e below Φ T' (mkF m pc' Ls S')) : own_G p e below Φ T (mkF m pc Ls S) := by
  obtain ⟨⟨locs, Y, N⟩, hh, hn, hx, hZ, hby, hml, hown, hnm, hret, hlk⟩ := X
  subst hpc
  obtain ⟨v, _, ⟨T', L', k', n'⟩, -, X', ⟨Lc, hQ, l1, y1, z1⟩, st⟩ := Y.specialBack hx (y := z) hi hown (mvT hZ w1) (mvT hZ w2) (mvT hZ w4) hz (backOf (W := W) (Q := fun v h' L => (v = w ∧ Θ h') ∧ Fr n0 L) (M []) hZ w4 w3 hf hl) (g := mkF m pc Ls S) rfl (by rw [hml]; exact hsz) (Steps.refl _) (a := a) (argsL := argsL) (rest := rest) hlen hst hW (hb hby hd) (fun _ _ => ⟨rfl, hh, by rw [hc0]; exact hc, by rw [hs0]; exact hs⟩)
  dsimp only [Pt.U, Pt.locs, Pt.cells, Pt.slots] at X' l1 y1 z1 st hQ
  subst l1 y1 z1
  obtain ⟨⟨rfl, hQ1⟩, hQ2⟩ := hQ
  rw [hc0, hs0] at X'
  subst hS'
  exact own_by (K T' _ ⟨⟨_, X', N.app hQ2⟩, rfl, hn, hx, hZ, hby, hml, hown, hnm, hret, hlk⟩ hQ1) fun t kk => st.trans kk
theorem own_callV {z : MethodName} {cb : ByteArray} {cml : Nat} {cret : Option FieldType} {crm : Room} {i : Nat} {a : Addr} {argsL rest S' : List Value} {w : Option Value} {Θ : Heap → Prop} (X : own_S Z n0 bytes y ml ret p l e R s m args below meth c T k sl h) (M : own_Met l z cb cml cret crm Z n0 (.ref a :: argsL).toArray h w Θ) (E : Exa Z h a z.cls)
    (w1 : (Jvm.Cond.methodLink y.cls i z).before a0 Z = true) (w2 : (Jvm.Cond.declares z).before a0 Z = true) (w5 : (Jvm.Cond.selects z.cls z z).before a0 Z = true) (w6 : (Jvm.Cond.instanceMethod z).before a0 Z = true) (w3 : (Jvm.Cond.initialized z.cls).before a0 Z = true) (w4 : (Jvm.Cond.code z cb cml cret).before a0 Z = true) (hz : z.cls ≠ "java/lang/invoke/MethodHandle" ∧ z.cls ≠ "java/lang/invoke/VarHandle")
    {W : Nat} (hf : crm.frames + 1 ≤ R.frames) (hl : W + (cml + 11) + crm.locals ≤ R.locals) (hc0 : crm.cells = 0) (hs0 : crm.slots = 0) (hc : k ≤ R.cells) (hs : sl ≤ R.slots)
    (hlen : ∀ sig, parseMethodDescriptor z.desc = some sig → argsL.length = sig.parameters.length) (hst : S = argsL.reverse ++ .ref a :: rest) (hW : 2 * 0 + (rest.map fun v => v.category).sum ≤ W) (hsz : Ls.size = ml)
    (hd : decode bytes pc = .ok (.invokevirtual i, 3)) (hpc : pc + 3 = pc')
    (hS' : w.toList ++ rest = S') (K : ∀ T' h', own_S Z n0 bytes y ml ret p l e R s m args below meth c T' k sl h' → Θ h' → own_G p e below Φ T' (mkF m pc' Ls S')) : own_G p e below Φ T (mkF m pc Ls S) := by
  obtain ⟨⟨locs, Y, N⟩, hh, hn, hx, hZ, hby, hml, hown, hnm, hret, hlk⟩ := X
  subst hpc
  obtain ⟨cq, kq, qa, qb, qc⟩ := isOf hZ hh E
  obtain ⟨v, _, ⟨T', L', k', n'⟩, -, X', ⟨Lc, hQ, l1, y1, z1⟩, st⟩ := Y.virtualBack hx (y := z) (z := z) hown (mvT hZ w1) (mvT hZ w2) (notFace_of_selects (args := #[]) (mvT hZ w5)) (mvT hZ w5) (mvT hZ w6) hz (backOf (W := W) (Q := fun v h' L => (v = w ∧ Θ h') ∧ Fr n0 L) (M []) hZ w4 w3 hf hl) qa qc (g := mkF m pc Ls S) rfl (by rw [hml]; exact hsz) (Steps.refl _) (argsL := argsL) (rest := rest) hlen hst hW (hb hby hd) (fun _ _ => ⟨rfl, hh, by rw [hc0]; exact hc, by rw [hs0]; exact hs⟩)
  dsimp only [Pt.U, Pt.locs, Pt.cells, Pt.slots] at X' l1 y1 z1 st hQ
  subst l1 y1 z1
  obtain ⟨⟨rfl, hQ1⟩, hQ2⟩ := hQ
  rw [hc0, hs0] at X'
  subst hS'
  exact own_by (K T' _ ⟨⟨_, X', N.app hQ2⟩, rfl, hn, hx, hZ, hby, hml, hown, hnm, hret, hlk⟩ hQ1) fun t kk => st.trans kk
theorem own_objI (X : own_S Z n0 bytes y ml ret p l e R s m args below meth c T k sl h) {i : Nat} {a : Addr} (w1 : (Jvm.Cond.methodLink y.cls i Lib.objectInit).before a0 Z = true) (w2 : (Jvm.Cond.instanceMethod Lib.objectInit).before a0 Z = true) (w3 : (Jvm.Cond.code Lib.objectInit object_method_1_code 1 none).before a0 Z = true)
    (hd : decode bytes pc = .ok (.invokespecial i, 3)) (hpc : pc + 3 = pc') (hsz : Ls.size = ml) (hf : 1 ≤ R.frames) {W : Nat} (hW : 2 * 0 + (S.map fun v => v.category).sum ≤ W) (hl : W + 12 ≤ R.locals)
    (K : ∀ T', own_S Z n0 bytes y ml ret p l e R s m args below meth c T' k sl h → own_G p e below Φ T' (mkF m pc' Ls S)) : own_G p e below Φ T (mkF m pc Ls (.ref a :: S)) := by
  obtain ⟨⟨locs, Y, N⟩, hh, hn, hx, hZ, hby, hml, hown, hnm, hret, hlk⟩ := X
  subst hpc
  obtain ⟨T', X', e', st⟩ := initO Y hx hZ hown w1 w2 w3 hh (g := mkF m pc Ls (.ref a :: S)) rfl (by rw [hml]; exact hsz) rfl (hb hby hd) hf (W := W) hW hl
  exact own_by (K T' ⟨⟨_, X', N⟩, e', hn, hx, hZ, hby, hml, hown, hnm, hret, hlk⟩) st
theorem own_getF (X : own_S Z n0 bytes y ml ret p l e R s m args below meth c T k sl h) {i : Nat} {a : Addr} {O nm d : String} {v : Value} (w : (Jvm.Cond.fieldLink y.cls i O nm d).before a0 Z = true) (F : Fld Z h a O nm d v) (hd : decode bytes pc = .ok (.getfield i, 3)) (hpc : pc + 3 = pc')
    (K : ∀ T', own_S Z n0 bytes y ml ret p l e R s m args below meth c T' k sl h → own_G p e below Φ T' (mkF m pc' Ls (v :: S))) : own_G p e below Φ T (mkF m pc Ls (.ref a :: S)) := by
  obtain ⟨⟨locs, Y, N⟩, hh, hn, hx, hZ, hby, hml, hown, hnm, hret, hlk⟩ := X
  subst hpc
  obtain ⟨T', X', e', st⟩ := getF Y hx hZ hown (host := "") (Or.inl w) Via.refl hh F (g := mkF m pc Ls (.ref a :: S)) rfl rfl (hb hby hd)
  exact own_by (K T' ⟨⟨_, X', N⟩, e', hn, hx, hZ, hby, hml, hown, hnm, hret, hlk⟩) st
theorem own_putF (X : own_S Z n0 bytes y ml ret p l e R s m args below meth c T k sl h) {i kk : Nat} {a : Addr} {O nm d C : String} {v v' old : Value} {ty : FieldType} (w : (Jvm.Cond.fieldLink y.cls i O nm d).before a0 Z = true) (F : Fld Z h a O nm d old) (E : Exa Z h a C) (ha : n0 ≤ a)
    (L : (Jvm.Cond.lays C O nm d).before a0 Z = true ∨ ((Jvm.Cond.laysFinal C O nm d).before a0 Z = true ∧ y.cls = O ∧ y.name = "<init>")) (wi : (Jvm.Cond.instantiable C kk).before a0 Z = true) (hty : parseFieldDescriptor d = some ty) (hv : narrow ty v = v') (hf : fits ty v' = true)
    (hd : decode bytes pc = .ok (.putfield i, 3)) (hpc : pc + 3 = pc')
    (K : ∀ T' h', own_S Z n0 bytes y ml ret p l e R s m args below meth c T' k sl h' → Wr h h' a (Jvm.RoadKit.slotOf Z O nm d) v' → own_G p e below Φ T' (mkF m pc' Ls S)) : own_G p e below Φ T (mkF m pc Ls (v :: .ref a :: S)) := by
  obtain ⟨⟨locs, Y, N⟩, hh, hn, hx, hZ, hby, hml, hown, hnm, hret, hlk⟩ := X
  subst hpc
  obtain ⟨T', h', X', e', W', st⟩ := putFN Y hx hZ hown w Via.refl hh F E (L.imp id fun q => ⟨q.1, q.2.1, hnm.trans q.2.2⟩) wi hty hv hf (g := mkF m pc Ls (v :: .ref a :: S)) rfl rfl (hb hby hd)
  exact own_by (K T' h' ⟨⟨_, X', Fr.snoc X' N ha⟩, e', hn, hx, hZ, hby, hml, hown, hnm, hret, hlk⟩ W') st
theorem own_new (X : own_S Z n0 bytes y ml ret p l e R s m args below meth c T k sl h) {i n : Nat} {C : String} (w : (Jvm.Cond.classLink y.cls i C).before a0 Z = true) (wi : (Jvm.Cond.instantiable C n).before a0 Z = true) (wz : (Jvm.Cond.initialized C).before a0 Z = true) (hd : decode bytes pc = .ok (.new i, 3)) (hpc : pc + 3 = pc') (hc : k + 1 ≤ R.cells) (hs : sl + n ≤ R.slots)
    (K : ∀ T' h' a, own_S Z n0 bytes y ml ret p l e R s m args below meth c T' (k + 1) (sl + n) h' → n0 ≤ a → a = h.size → Ext h h' → Exa Z h' a C → (∀ {O nm d : String} {ty : FieldType}, Laid Z a0 C O nm d → parseFieldDescriptor d = some ty → Fld Z h' a O nm d (defaultValue ty)) → own_G p e below Φ T' (mkF m pc' Ls (.ref a :: S))) : own_G p e below Φ T (mkF m pc Ls S) := by
  have hsz := X.size
  obtain ⟨⟨locs, Y, N⟩, hh, hn, hx, hZ, hby, hml, hown, hnm, hret, hlk⟩ := X
  subst hpc
  obtain ⟨T', h', X', e', E', A', D', -, st⟩ := newO Y hx hZ hown w wi wz hh (g := mkF m pc Ls S) rfl (hb hby hd) hc hs
  exact own_by (K T' h' h.size ⟨⟨_, X', N⟩, e', hn, hx, hZ, hby, hml, hown, hnm, hret, hlk⟩ hsz rfl E' A' D') st
def own_A (Z : State) (h : Heap) (a : Addr) (ty : FieldType) (vs : List Int32) : Prop := ∃ cl : Cell, Arr Z h a cl ty ∧ cl.slots.size = vs.length ∧ ∀ j, j < vs.length → cl.slots[j]? = some (.int (vs.getD j 0))
theorem own_A.ext {h' : Heap} {a : Addr} {ty : FieldType} {vs : List Int32} (A : own_A Z h a ty vs) (E : Ext h h') : own_A Z h' a ty vs := by obtain ⟨cl, q, r⟩ := A; exact ⟨cl, q.ext E, r⟩
theorem own_A.other {h' : Heap} {a b : Addr} {ty : FieldType} {vs : List Int32} {i : Nat} {v : Value} (A : own_A Z h b ty vs) (W : Wr h h' a i v) (q : b ≠ a) : own_A Z h' b ty vs := by obtain ⟨cl, r, t⟩ := A; exact ⟨cl, r.other W q, t⟩
theorem own_A.keep {h' : Heap} {a : Addr} {ty : FieldType} {vs : List Int32} {ws : List Addr} (A : own_A Z h a ty vs) (K : Keep h h' ws) (q : a ∉ ws) : own_A Z h' a ty vs := by obtain ⟨cl, r, t⟩ := A; exact ⟨cl, ⟨K.2.1 a cl r.1 q, r.2⟩, t⟩
theorem own_A.lt {a : Addr} {ty : FieldType} {vs : List Int32} (A : own_A Z h a ty vs) : a < h.size := by obtain ⟨cl, q, r⟩ := A; exact q.lt
def own_in (j : Int32) (n : Nat) : Bool := decide (0 ≤ j.toInt) && Nat.blt j.toNatClampNeg n
theorem own_in_not {j : Int32} {n : Nat} (q : own_in j n = true) : j.toNatClampNeg < n ∧ ¬ (j < 0 ∨ n ≤ j.toNatClampNeg) := by
  simp only [own_in, Bool.and_eq_true, decide_eq_true_eq] at q
  have h2 : j.toNatClampNeg < n := Nat.le_of_ble_eq_true q.2
  refine ⟨h2, ?_⟩
  simp only [Int32.lt_iff_toInt_lt, Int32.reduceToInt]
  omega
theorem own_baload (X : own_S Z n0 bytes y ml ret p l e R s m args below meth c T k sl h) {a : Addr} {vs : List Int32} {j v : Int32} (A : own_A Z h a .byte vs) (hj : own_in j vs.length = true) (hv : vs.getD j.toNatClampNeg 0 = v) (hd : decode bytes pc = .ok (.baload, 1)) (hpc : pc + 1 = pc') (K : own_G p e below Φ T (mkF m pc' Ls (.int v :: S))) : own_G p e below Φ T (mkF m pc Ls (.int j :: .ref a :: S)) := by
  obtain ⟨⟨locs, Y, N⟩, hh, hn, hx, hZ, hby, hml, hown, hnm, hret, hlk⟩ := X
  subst hpc
  obtain ⟨cl, q, r, t⟩ := A
  obtain ⟨j1, j2⟩ := own_in_not hj
  exact own_by K fun t' kk => Y.baloadBytes hx (j := j) (v := .int v) (by rw [hh]; exact q.1) (State.isArrayOf_alike hZ.alike q.2.1) q.2.2 (by rw [r]; exact j2) (by rw [t _ j1, hv]) (g := mkF m pc Ls (.int j :: .ref a :: S)) rfl rfl (hb hby hd) t' kk
theorem own_iaload (X : own_S Z n0 bytes y ml ret p l e R s m args below meth c T k sl h) {a : Addr} {vs : List Int32} {j v : Int32} (A : own_A Z h a .int vs) (hj : own_in j vs.length = true) (hv : vs.getD j.toNatClampNeg 0 = v) (hd : decode bytes pc = .ok (.iaload, 1)) (hpc : pc + 1 = pc') (K : own_G p e below Φ T (mkF m pc' Ls (.int v :: S))) : own_G p e below Φ T (mkF m pc Ls (.int j :: .ref a :: S)) := by
  obtain ⟨⟨locs, Y, N⟩, hh, hn, hx, hZ, hby, hml, hown, hnm, hret, hlk⟩ := X
  subst hpc
  obtain ⟨cl, q, r, t⟩ := A
  obtain ⟨j1, j2⟩ := own_in_not hj
  exact own_by K fun t' kk => Y.iaload hx (j := j) (v := .int v) (by rw [hh]; exact q.1) (State.isArrayOf_alike hZ.alike q.2.1) q.2.2 (by rw [r]; exact j2) (by rw [t _ j1, hv]) (g := mkF m pc Ls (.int j :: .ref a :: S)) rfl rfl (hb hby hd) t' kk
theorem own_len (X : own_S Z n0 bytes y ml ret p l e R s m args below meth c T k sl h) {a : Addr} {ty : FieldType} {vs : List Int32} {v : Int32} (A : own_A Z h a ty vs) (hv : vs.length.toInt32 = v) (hd : decode bytes pc = .ok (.arraylength, 1)) (hpc : pc + 1 = pc') (K : own_G p e below Φ T (mkF m pc' Ls (.int v :: S))) : own_G p e below Φ T (mkF m pc Ls (.ref a :: S)) := by
  obtain ⟨⟨locs, Y, N⟩, hh, hn, hx, hZ, hby, hml, hown, hnm, hret, hlk⟩ := X
  subst hpc
  obtain ⟨cl, q, r, t⟩ := A
  exact own_by K fun t' kk => Y.arraylength hx (by rw [hh]; exact q.1) (State.isArrayOf_alike hZ.alike q.2.1) (g := mkF m pc Ls (.ref a :: S)) rfl rfl (hb hby hd) t' (by rw [r, hv]; exact kk)
theorem own_set {h' : Heap} {a : Addr} {ty : FieldType} {vs : List Int32} {i : Nat} {v : Int32} {cl : Cell} (q : Arr Z h a cl ty) (r : cl.slots.size = vs.length) (t : ∀ j, j < vs.length → cl.slots[j]? = some (.int (vs.getD j 0))) (hi : i < vs.length) (W : Wr h h' a i (.int v)) : own_A Z h' a ty (vs.set i v) := by
  refine ⟨cl.setSlot i (.int v), q.same W, by rw [sz_set, r, List.length_set], fun j hj => ?_⟩
  rw [List.length_set] at hj
  have hc : i < cl.slots.size := by rw [r]; exact hi
  show (cl.slots.setIfInBounds i (.int v))[j]? = _
  rw [Array.getElem?_setIfInBounds]
  by_cases e : i = j
  · subst e
    simp [hc, List.getD_eq_getElem?_getD, hi]
  · simp only [e, if_false]
    rw [t j hj]
    simp [List.getD_eq_getElem?_getD, List.getElem?_set, e]
theorem own_bastore (X : own_S Z n0 bytes y ml ret p l e R s m args below meth c T k sl h) {a : Addr} {vs vs' : List Int32} {j v v' : Int32} (A : own_A Z h a .byte vs) (ha : n0 ≤ a) (hj : own_in j vs.length = true) (hv : v.toInt8.toInt32 = v') (hvs : vs.set j.toNatClampNeg v' = vs') (hd : decode bytes pc = .ok (.bastore, 1)) (hpc : pc + 1 = pc')
    (K : ∀ T' h', own_S Z n0 bytes y ml ret p l e R s m args below meth c T' k sl h' → own_A Z h' a .byte vs' → Wr h h' a j.toNatClampNeg (.int v') → own_G p e below Φ T' (mkF m pc' Ls S)) : own_G p e below Φ T (mkF m pc Ls (.int v :: .int j :: .ref a :: S)) := by
  obtain ⟨⟨locs, Y, N⟩, hh, hn, hx, hZ, hby, hml, hown, hnm, hret, hlk⟩ := X
  subst hpc hvs hv
  obtain ⟨cl, q, r, t⟩ := A
  obtain ⟨j1, j2⟩ := own_in_not hj
  obtain ⟨T', h', X', e', W', st⟩ := stB Y hx hZ hh q (j := j) (x := v) (by rw [r]; exact j2) (g := mkF m pc Ls (.int v :: .int j :: .ref a :: S)) rfl rfl (hb hby hd)
  exact own_by (K T' h' ⟨⟨_, X', Fr.snoc X' N ha⟩, e', hn, hx, hZ, hby, hml, hown, hnm, hret, hlk⟩ (own_set q r t j1 W') W') st
theorem own_iastore (X : own_S Z n0 bytes y ml ret p l e R s m args below meth c T k sl h) {a : Addr} {vs vs' : List Int32} {j v : Int32} (A : own_A Z h a .int vs) (ha : n0 ≤ a) (hj : own_in j vs.length = true) (hvs : vs.set j.toNatClampNeg v = vs') (hd : decode bytes pc = .ok (.iastore, 1)) (hpc : pc + 1 = pc')
    (K : ∀ T' h', own_S Z n0 bytes y ml ret p l e R s m args below meth c T' k sl h' → own_A Z h' a .int vs' → Wr h h' a j.toNatClampNeg (.int v) → own_G p e below Φ T' (mkF m pc' Ls S)) : own_G p e below Φ T (mkF m pc Ls (.int v :: .int j :: .ref a :: S)) := by
  obtain ⟨⟨locs, Y, N⟩, hh, hn, hx, hZ, hby, hml, hown, hnm, hret, hlk⟩ := X
  subst hpc hvs
  obtain ⟨cl, q, r, t⟩ := A
  obtain ⟨j1, j2⟩ := own_in_not hj
  obtain ⟨T', h', X', e', W', st⟩ := stI Y hx hZ hh q (j := j) (x := v) (by rw [r]; exact j2) (g := mkF m pc Ls (.int v :: .int j :: .ref a :: S)) rfl rfl (hb hby hd)
  exact own_by (K T' h' ⟨⟨_, X', Fr.snoc X' N ha⟩, e', hn, hx, hZ, hby, hml, hown, hnm, hret, hlk⟩ (own_set q r t j1 W') W') st
theorem own_newarr (X : own_S Z n0 bytes y ml ret p l e R s m args below meth c T k sl h) {aty : ArrayType} {n : Int32} {len : Nat} {vs : List Int32} (w : (Jvm.Cond.arrayClass (newarray.typeOf aty)).before a0 Z = true) (hty : defaultValue (newarray.typeOf aty) = .int 0) (hn0 : ¬ n < 0) (hlen : n.toNatClampNeg = len) (hvs : List.replicate len 0 = vs) (hbig : len * 8 ≤ 536870912) (hd : decode bytes pc = .ok (.newarray aty, 2)) (hpc : pc + 2 = pc') (hc : k + 1 ≤ R.cells) (hs : sl + len ≤ R.slots)
    (K : ∀ T' h' a, own_S Z n0 bytes y ml ret p l e R s m args below meth c T' (k + 1) (sl + len) h' → n0 ≤ a → a = h.size → Ext h h' → own_A Z h' a (newarray.typeOf aty) vs → own_G p e below Φ T' (mkF m pc' Ls (.ref a :: S))) : own_G p e below Φ T (mkF m pc Ls (.int n :: S)) := by
  have hsz := X.size
  obtain ⟨⟨locs, Y, N⟩, hh, hn, hx, hZ, hby, hml, hown, hnm, hret, hlk⟩ := X
  subst hpc hvs hlen
  obtain ⟨T', h', cA, X', e', E', A', st⟩ := newP Y hx hZ w hh (g := mkF m pc Ls (.int n :: S)) rfl (hb hby hd) rfl hn0 (cap := n.toNatClampNeg) (Nat.le_refl _) hbig hc hs
  refine own_by (K T' h' h.size ⟨⟨_, X', N⟩, e', hn, hx, hZ, hby, hml, hown, hnm, hret, hlk⟩ hsz rfl E' ⟨_, A', by rw [sz_new, List.length_replicate], fun j hj => ?_⟩) st
  rw [List.length_replicate] at hj
  simp [newA, hj, hty, List.getD_eq_getElem?_getD]
theorem own_b8 (v : Int32) : (v.toInt8.toInt32).toInt8.toInt32 = v.toInt8.toInt32 := by simp
end OwnKit
def own_D (Z : State) (h : Heap) (a : Addr) (q1 q2 q3 q4 q5 : Int64) (b1 b2 : Int32) : Prop := Exa Z h a "dev/tidemark/engine/Estimate" ∧ Fld Z h a "dev/tidemark/engine/Estimate" "madeNanos" "J" (.long q1) ∧ Fld Z h a "dev/tidemark/engine/Estimate" "horizonNanos" "J" (.long q2) ∧ Fld Z h a "dev/tidemark/engine/Estimate" "expectedNanos" "J" (.long q3) ∧ Fld Z h a "dev/tidemark/engine/Estimate" "spreadNanos" "J" (.long q4) ∧ Fld Z h a "dev/tidemark/engine/Estimate" "arrivedNanos" "J" (.long q5) ∧ Fld Z h a "dev/tidemark/engine/Estimate" "hasInterval" "Z" (.int b1) ∧ Fld Z h a "dev/tidemark/engine/Estimate" "errorKept" "Z" (.int b2)
def own_hit (b : Int32) (off sp : Int64) : Int32 := if b = 0 then 0 else if off < -sp then 0 else if sp < off then 0 else 1
def own_abs (u : Int64) : Int64 := if u < 0 then -u else u
theorem own_off (u v : Int64) : (u + v) - u = v := by
  apply Int64.toInt_inj.mp
  have h1 := c_ladd u v
  have h2 := c_lsub (u + v) u
  have r1 := rng64 v
  have r2 := rng64 ((u + v) - u)
  omega
theorem own_sp (u : Int64) : 0 ≤ (u &&& (9223372036854775807 : Int64)).toInt := by
  have h := c_maskL u 9223372036854775807 63 (by decide) (by decide)
  rw [h]; exact Int.emod_nonneg _ (by decide)
theorem own_h0 (u v sp : Int64) : own_hit 0 ((u + v) - u) sp = 0 := rfl
theorem own_hmin (u v sp : Int64) (hs : 0 ≤ sp.toInt) (h : v = (-9223372036854775808 : Int64)) : own_hit 1 ((u + v) - u) sp = 0 := by
  rw [own_off, own_hit, if_neg (by decide)]
  have k : v < -sp := by
    rw [Int64.lt_iff_toInt_lt]
    have e : v.toInt = -9223372036854775808 := by rw [h]; decide
    have n := c_lneg sp
    have r := rng64 (-sp)
    have r2 := rng64 sp
    omega
  rw [if_pos k]
theorem own_hgt (u v sp : Int64) (hs : 0 ≤ sp.toInt) (h : sp < own_abs v) (h2 : ¬ v = (-9223372036854775808 : Int64)) : own_hit 1 ((u + v) - u) sp = 0 := by
  rw [own_off, own_hit, if_neg (by decide)]
  have n := c_lneg sp
  have r := rng64 (-sp)
  have r2 := rng64 sp
  have n3 := c_lneg v
  have r3 := rng64 (-v)
  have r4 := rng64 v
  have z : (0 : Int64).toInt = 0 := by decide
  have k : (-9223372036854775808 : Int64).toInt = -9223372036854775808 := by decide
  rw [← Int64.toInt_inj, k] at h2
  simp only [own_abs, Int64.lt_iff_toInt_lt, z] at h ⊢
  by_cases q1 : v.toInt < (-sp).toInt
  · rw [if_pos q1]
  · rw [if_neg q1]
    by_cases q2 : sp.toInt < v.toInt
    · rw [if_pos q2]
    · exfalso
      by_cases q : v.toInt < 0
      · rw [if_pos q] at h; omega
      · rw [if_neg q] at h; omega
theorem own_hin (u v sp : Int64) (hs : 0 ≤ sp.toInt) (h : ¬ sp < own_abs v) (h2 : ¬ v = (-9223372036854775808 : Int64)) : own_hit 1 ((u + v) - u) sp = 1 := by
  rw [own_off, own_hit, if_neg (by decide)]
  have n := c_lneg sp
  have r := rng64 (-sp)
  have r2 := rng64 sp
  have n3 := c_lneg v
  have r3 := rng64 (-v)
  have r4 := rng64 v
  have z : (0 : Int64).toInt = 0 := by decide
  have k : (-9223372036854775808 : Int64).toInt = -9223372036854775808 := by decide
  rw [← Int64.toInt_inj, k] at h2
  simp only [own_abs, Int64.lt_iff_toInt_lt, z] at h ⊢
  by_cases q : v.toInt < 0
  · rw [if_pos q] at h
    rw [if_neg (by omega), if_neg (by omega)]
  · rw [if_neg q] at h
    rw [if_neg (by omega), if_neg (by omega)]
theorem d2_0 : decode jdk_30_method_1_code 0 = .ok (.aload_n 0, 1) := by decide +kernel
theorem d2_1 : decode jdk_30_method_1_code 1 = .ok (.invokespecial 1, 3) := by decide +kernel
theorem d2_4 : decode jdk_30_method_1_code 4 = .ok (.return_, 1) := by decide +kernel
theorem pn_rm2 : plainFor (⟨"java/lang/Record", "<init>", "()V"⟩ : MethodName) = true := plainFor_of_name (by first | (simp [plainName, overriddenIn]; done) | decide +kernel)
theorem ef_rm2 (m : MethodId) (x0 : Addr) : entryFrame m #[(.ref x0)] 1 = mkF m 0 #[.val (.ref x0)] [] := by first | (simp [entryFrame, mkF, argsToLocals, Value.category]; done) | rfl
set_option maxRecDepth 65536 in
set_option maxHeartbeats 4000000 in
theorem rm2 (l : Launch) (Z : State) (a0 : Array Value) (hw : ∀ d ∈ tables_1, d.before a0 Z = true) (n0 : Nat) (a : Addr) (h0 : Heap) (hn0 : n0 ≤ h0.size) :
    own_Met l (⟨"java/lang/Record", "<init>", "()V"⟩ : MethodName) jdk_30_method_1_code 1 none ({ frames := 1, cells := 0, slots := 0, locals := 12 } : Room) Z n0 #[(.ref a)] h0 none (fun h' => h' = h0) := by
  refine own_met pn_rm2 hn0 ?_
  intro p e s m below meth c T X
  refine own_cast (ef_rm2 m a) ?_
  generalize hΦ : own_Q n0 below s _ _ _ = Φ
  refine own_aloadN X (pc' := 1) d2_0 rfl rfl rfl ?_
  refine own_objI X (W := 0) (pc' := 4) (hw _ (List.mem_of_getElem? (i := 12) rfl)) (hw _ (List.mem_of_getElem? (i := 13) rfl)) (hw _ (List.mem_of_getElem? (i := 14) rfl)) d2_1 rfl rfl (by decide) (by decide) (by decide) ?_
  intro T1 X1
  subst hΦ
  exact own_retV X1 d2_4 (by decide) (by decide) rfl rfl
theorem d1_0 : decode prog_89_method_1_code 0 = .ok (.aload_n 0, 1) := by decide +kernel
theorem d1_1 : decode prog_89_method_1_code 1 = .ok (.invokespecial 1, 3) := by decide +kernel
theorem d1_4 : decode prog_89_method_1_code 4 = .ok (.aload_n 0, 1) := by decide +kernel
theorem d1_5 : decode prog_89_method_1_code 5 = .ok (.lload_n 1, 1) := by decide +kernel
theorem d1_6 : decode prog_89_method_1_code 6 = .ok (.putfield 7, 3) := by decide +kernel
theorem d1_9 : decode prog_89_method_1_code 9 = .ok (.aload_n 0, 1) := by decide +kernel
theorem d1_10 : decode prog_89_method_1_code 10 = .ok (.lload_n 3, 1) := by decide +kernel
theorem d1_11 : decode prog_89_method_1_code 11 = .ok (.putfield 13, 3) := by decide +kernel
theorem d1_14 : decode prog_89_method_1_code 14 = .ok (.aload_n 0, 1) := by decide +kernel
theorem d1_15 : decode prog_89_method_1_code 15 = .ok (.lload 5, 2) := by decide +kernel
theorem d1_17 : decode prog_89_method_1_code 17 = .ok (.putfield 16, 3) := by decide +kernel
theorem d1_20 : decode prog_89_method_1_code 20 = .ok (.aload_n 0, 1) := by decide +kernel
theorem d1_21 : decode prog_89_method_1_code 21 = .ok (.lload 7, 2) := by decide +kernel
theorem d1_23 : decode prog_89_method_1_code 23 = .ok (.putfield 19, 3) := by decide +kernel
theorem d1_26 : decode prog_89_method_1_code 26 = .ok (.aload_n 0, 1) := by decide +kernel
theorem d1_27 : decode prog_89_method_1_code 27 = .ok (.lload 9, 2) := by decide +kernel
theorem d1_29 : decode prog_89_method_1_code 29 = .ok (.putfield 22, 3) := by decide +kernel
theorem d1_32 : decode prog_89_method_1_code 32 = .ok (.aload_n 0, 1) := by decide +kernel
theorem d1_33 : decode prog_89_method_1_code 33 = .ok (.iload 11, 2) := by decide +kernel
theorem d1_35 : decode prog_89_method_1_code 35 = .ok (.putfield 25, 3) := by decide +kernel
theorem d1_38 : decode prog_89_method_1_code 38 = .ok (.aload_n 0, 1) := by decide +kernel
theorem d1_39 : decode prog_89_method_1_code 39 = .ok (.iload 12, 2) := by decide +kernel
theorem d1_41 : decode prog_89_method_1_code 41 = .ok (.putfield 29, 3) := by decide +kernel
theorem d1_44 : decode prog_89_method_1_code 44 = .ok (.return_, 1) := by decide +kernel
theorem pd_0 : parseMethodDescriptor "()V" = some ⟨[], none⟩ := by decide +kernel
theorem pn_rm1_00 : plainFor (⟨"dev/tidemark/engine/Estimate", "<init>", "(JJJJJZZ)V"⟩ : MethodName) = true := plainFor_of_name (by first | (simp [plainName, overriddenIn]; done) | decide +kernel)
theorem ef_rm1_00 (m : MethodId) (x0 : Addr) (x1 : Int64) (x2 : Int64) (x3 : Int64) (x4 : Int64) (x5 : Int64) (x6 : Int32) (x7 : Int32) : entryFrame m #[(.ref x0), (.long x1), (.long x2), (.long x3), (.long x4), (.long x5), (.int x6), (.int x7)] 13 = mkF m 0 #[.val (.ref x0), .val (.long x1), .second, .val (.long x2), .second, .val (.long x3), .second, .val (.long x4), .second, .val (.long x5), .second, .val (.int x6), .val (.int x7)] [] := by first | (simp [entryFrame, mkF, argsToLocals, Value.category]; done) | rfl
set_option maxRecDepth 65536 in
set_option maxHeartbeats 4000000 in
theorem rm1_00 (l : Launch) (Z : State) (a0 : Array Value) (hw : ∀ d ∈ tables_1, d.before a0 Z = true) (n0 : Nat) (a : Addr) (q1 : Int64) (q2 : Int64) (q3 : Int64) (q4 : Int64) (q5 : Int64) (h0 : Heap) (hn0 : n0 ≤ h0.size) (D : own_D Z h0 a 0 0 0 0 0 0 0) (ge : n0 ≤ a) :
    own_Met l (⟨"dev/tidemark/engine/Estimate", "<init>", "(JJJJJZZ)V"⟩ : MethodName) prog_89_method_1_code 13 none ({ frames := 2, cells := 0, slots := 0, locals := 24 } : Room) Z n0 #[(.ref a), (.long q1), (.long q2), (.long q3), (.long q4), (.long q5), (.int (0 : Int32)), (.int (0 : Int32))] h0 none (fun h' => own_D Z h' a q1 q2 q3 q4 q5 0 0 ∧ Keep h0 h' [a]) := by
  refine own_met pn_rm1_00 hn0 ?_
  intro p e s m below meth c T X
  refine own_cast (ef_rm1_00 m a q1 q2 q3 q4 q5 (0 : Int32) (0 : Int32)) ?_
  generalize hΦ : own_Q n0 below s _ _ _ = Φ
  obtain ⟨Ex, F_madeNanos, F_horizonNanos, F_expectedNanos, F_spreadNanos, F_arrivedNanos, F_hasInterval, F_errorKept⟩ := D
  have K0 := Keep.refl h0 [a]
  refine own_aloadN X (pc' := 1) d1_0 rfl rfl rfl ?_
  refine own_callI X (W := 0) (a := a) (argsL := []) (rest := []) (S' := []) (pc' := 4) (rm2 l Z a0 hw n0 a h0 X.size) rfl (hw _ (List.mem_of_getElem? (i := 7) rfl)) (hw _ (List.mem_of_getElem? (i := 8) rfl)) (hw _ (List.mem_of_getElem? (i := 10) rfl)) (hw _ (List.mem_of_getElem? (i := 11) rfl)) (by decide) (by decide) (by decide) rfl rfl (by decide) (by decide) (lenOf pd_0 rfl) rfl (by first | decide | exact Nat.le_of_eq rfl) rfl d1_1 rfl rfl ?_
  intro T1 h1 X1 qq1
  rw [show h1 = h0 from qq1] at X1
  refine own_aloadN X1 (pc' := 5) d1_4 rfl rfl rfl ?_
  refine own_lloadN X1 (pc' := 6) d1_5 rfl rfl ?_
  refine own_putF X1 (v' := (.long q1)) (ty := .long) (pc' := 9) (hw _ (List.mem_of_getElem? (i := 15) rfl)) F_madeNanos Ex ge (Or.inr ⟨(hw _ (List.mem_of_getElem? (i := 16) rfl)), rfl, rfl⟩) (hw _ (List.mem_of_getElem? (i := 2) rfl)) (by decide) rfl rfl d1_6 rfl ?_
  intro T2 h2 X2 W2
  have F3 := F_horizonNanos.other W2 (Or.inr (slot_ne (Or.inr (hw _ (List.mem_of_getElem? (i := 18) rfl))) (Or.inr (hw _ (List.mem_of_getElem? (i := 16) rfl))) (by decide) (t := .long) (t' := .long) (by decide) (by decide)))
  have F4 := F_expectedNanos.other W2 (Or.inr (slot_ne (Or.inr (hw _ (List.mem_of_getElem? (i := 20) rfl))) (Or.inr (hw _ (List.mem_of_getElem? (i := 16) rfl))) (by decide) (t := .long) (t' := .long) (by decide) (by decide)))
  have F5 := F_spreadNanos.other W2 (Or.inr (slot_ne (Or.inr (hw _ (List.mem_of_getElem? (i := 22) rfl))) (Or.inr (hw _ (List.mem_of_getElem? (i := 16) rfl))) (by decide) (t := .long) (t' := .long) (by decide) (by decide)))
  have F6 := F_arrivedNanos.other W2 (Or.inr (slot_ne (Or.inr (hw _ (List.mem_of_getElem? (i := 24) rfl))) (Or.inr (hw _ (List.mem_of_getElem? (i := 16) rfl))) (by decide) (t := .long) (t' := .long) (by decide) (by decide)))
  have F7 := F_hasInterval.other W2 (Or.inr (slot_ne (Or.inr (hw _ (List.mem_of_getElem? (i := 26) rfl))) (Or.inr (hw _ (List.mem_of_getElem? (i := 16) rfl))) (by decide) (t := .boolean) (t' := .long) (by decide) (by decide)))
  have F8 := F_errorKept.other W2 (Or.inr (slot_ne (Or.inr (hw _ (List.mem_of_getElem? (i := 28) rfl))) (Or.inr (hw _ (List.mem_of_getElem? (i := 16) rfl))) (by decide) (t := .boolean) (t' := .long) (by decide) (by decide)))
  have Ex9 := Ex.wr W2
  have K10 := K0.wr W2 (Or.inl (by simp))
  have F2_madeNanos := F_madeNanos.same W2
  refine own_aloadN X2 (pc' := 10) d1_9 rfl rfl rfl ?_
  refine own_lloadN X2 (pc' := 11) d1_10 rfl rfl ?_
  refine own_putF X2 (v' := (.long q2)) (ty := .long) (pc' := 14) (hw _ (List.mem_of_getElem? (i := 17) rfl)) F3 Ex9 ge (Or.inr ⟨(hw _ (List.mem_of_getElem? (i := 18) rfl)), rfl, rfl⟩) (hw _ (List.mem_of_getElem? (i := 2) rfl)) (by decide) rfl rfl d1_11 rfl ?_
  intro T11 h11 X11 W11
  have F12 := F2_madeNanos.other W11 (Or.inr (slot_ne (Or.inr (hw _ (List.mem_of_getElem? (i := 16) rfl))) (Or.inr (hw _ (List.mem_of_getElem? (i := 18) rfl))) (by decide) (t := .long) (t' := .long) (by decide) (by decide)))
  have F13 := F4.other W11 (Or.inr (slot_ne (Or.inr (hw _ (List.mem_of_getElem? (i := 20) rfl))) (Or.inr (hw _ (List.mem_of_getElem? (i := 18) rfl))) (by decide) (t := .long) (t' := .long) (by decide) (by decide)))
  have F14 := F5.other W11 (Or.inr (slot_ne (Or.inr (hw _ (List.mem_of_getElem? (i := 22) rfl))) (Or.inr (hw _ (List.mem_of_getElem? (i := 18) rfl))) (by decide) (t := .long) (t' := .long) (by decide) (by decide)))
  have F15 := F6.other W11 (Or.inr (slot_ne (Or.inr (hw _ (List.mem_of_getElem? (i := 24) rfl))) (Or.inr (hw _ (List.mem_of_getElem? (i := 18) rfl))) (by decide) (t := .long) (t' := .long) (by decide) (by decide)))
  have F16 := F7.other W11 (Or.inr (slot_ne (Or.inr (hw _ (List.mem_of_getElem? (i := 26) rfl))) (Or.inr (hw _ (List.mem_of_getElem? (i := 18) rfl))) (by decide) (t := .boolean) (t' := .long) (by decide) (by decide)))
  have F17 := F8.other W11 (Or.inr (slot_ne (Or.inr (hw _ (List.mem_of_getElem? (i := 28) rfl))) (Or.inr (hw _ (List.mem_of_getElem? (i := 18) rfl))) (by decide) (t := .boolean) (t' := .long) (by decide) (by decide)))
  have Ex18 := Ex9.wr W11
  have K19 := K10.wr W11 (Or.inl (by simp))
  have F11_horizonNanos := F3.same W11
  refine own_aloadN X11 (pc' := 15) d1_14 rfl rfl rfl ?_
  refine own_lload X11 (pc' := 17) d1_15 rfl rfl ?_
  refine own_putF X11 (v' := (.long q3)) (ty := .long) (pc' := 20) (hw _ (List.mem_of_getElem? (i := 19) rfl)) F13 Ex18 ge (Or.inr ⟨(hw _ (List.mem_of_getElem? (i := 20) rfl)), rfl, rfl⟩) (hw _ (List.mem_of_getElem? (i := 2) rfl)) (by decide) rfl rfl d1_17 rfl ?_
  intro T20 h20 X20 W20
  have F21 := F12.other W20 (Or.inr (slot_ne (Or.inr (hw _ (List.mem_of_getElem? (i := 16) rfl))) (Or.inr (hw _ (List.mem_of_getElem? (i := 20) rfl))) (by decide) (t := .long) (t' := .long) (by decide) (by decide)))
  have F22 := F11_horizonNanos.other W20 (Or.inr (slot_ne (Or.inr (hw _ (List.mem_of_getElem? (i := 18) rfl))) (Or.inr (hw _ (List.mem_of_getElem? (i := 20) rfl))) (by decide) (t := .long) (t' := .long) (by decide) (by decide)))
  have F23 := F14.other W20 (Or.inr (slot_ne (Or.inr (hw _ (List.mem_of_getElem? (i := 22) rfl))) (Or.inr (hw _ (List.mem_of_getElem? (i := 20) rfl))) (by decide) (t := .long) (t' := .long) (by decide) (by decide)))
  have F24 := F15.other W20 (Or.inr (slot_ne (Or.inr (hw _ (List.mem_of_getElem? (i := 24) rfl))) (Or.inr (hw _ (List.mem_of_getElem? (i := 20) rfl))) (by decide) (t := .long) (t' := .long) (by decide) (by decide)))
  have F25 := F16.other W20 (Or.inr (slot_ne (Or.inr (hw _ (List.mem_of_getElem? (i := 26) rfl))) (Or.inr (hw _ (List.mem_of_getElem? (i := 20) rfl))) (by decide) (t := .boolean) (t' := .long) (by decide) (by decide)))
  have F26 := F17.other W20 (Or.inr (slot_ne (Or.inr (hw _ (List.mem_of_getElem? (i := 28) rfl))) (Or.inr (hw _ (List.mem_of_getElem? (i := 20) rfl))) (by decide) (t := .boolean) (t' := .long) (by decide) (by decide)))
  have Ex27 := Ex18.wr W20
  have K28 := K19.wr W20 (Or.inl (by simp))
  have F20_expectedNanos := F13.same W20
  refine own_aloadN X20 (pc' := 21) d1_20 rfl rfl rfl ?_
  refine own_lload X20 (pc' := 23) d1_21 rfl rfl ?_
  refine own_putF X20 (v' := (.long q4)) (ty := .long) (pc' := 26) (hw _ (List.mem_of_getElem? (i := 21) rfl)) F23 Ex27 ge (Or.inr ⟨(hw _ (List.mem_of_getElem? (i := 22) rfl)), rfl, rfl⟩) (hw _ (List.mem_of_getElem? (i := 2) rfl)) (by decide) rfl rfl d1_23 rfl ?_
  intro T29 h29 X29 W29
  have F30 := F21.other W29 (Or.inr (slot_ne (Or.inr (hw _ (List.mem_of_getElem? (i := 16) rfl))) (Or.inr (hw _ (List.mem_of_getElem? (i := 22) rfl))) (by decide) (t := .long) (t' := .long) (by decide) (by decide)))
  have F31 := F22.other W29 (Or.inr (slot_ne (Or.inr (hw _ (List.mem_of_getElem? (i := 18) rfl))) (Or.inr (hw _ (List.mem_of_getElem? (i := 22) rfl))) (by decide) (t := .long) (t' := .long) (by decide) (by decide)))
  have F32 := F20_expectedNanos.other W29 (Or.inr (slot_ne (Or.inr (hw _ (List.mem_of_getElem? (i := 20) rfl))) (Or.inr (hw _ (List.mem_of_getElem? (i := 22) rfl))) (by decide) (t := .long) (t' := .long) (by decide) (by decide)))
  have F33 := F24.other W29 (Or.inr (slot_ne (Or.inr (hw _ (List.mem_of_getElem? (i := 24) rfl))) (Or.inr (hw _ (List.mem_of_getElem? (i := 22) rfl))) (by decide) (t := .long) (t' := .long) (by decide) (by decide)))
  have F34 := F25.other W29 (Or.inr (slot_ne (Or.inr (hw _ (List.mem_of_getElem? (i := 26) rfl))) (Or.inr (hw _ (List.mem_of_getElem? (i := 22) rfl))) (by decide) (t := .boolean) (t' := .long) (by decide) (by decide)))
  have F35 := F26.other W29 (Or.inr (slot_ne (Or.inr (hw _ (List.mem_of_getElem? (i := 28) rfl))) (Or.inr (hw _ (List.mem_of_getElem? (i := 22) rfl))) (by decide) (t := .boolean) (t' := .long) (by decide) (by decide)))
  have Ex36 := Ex27.wr W29
  have K37 := K28.wr W29 (Or.inl (by simp))
  have F29_spreadNanos := F23.same W29
  refine own_aloadN X29 (pc' := 27) d1_26 rfl rfl rfl ?_
  refine own_lload X29 (pc' := 29) d1_27 rfl rfl ?_
  refine own_putF X29 (v' := (.long q5)) (ty := .long) (pc' := 32) (hw _ (List.mem_of_getElem? (i := 23) rfl)) F33 Ex36 ge (Or.inr ⟨(hw _ (List.mem_of_getElem? (i := 24) rfl)), rfl, rfl⟩) (hw _ (List.mem_of_getElem? (i := 2) rfl)) (by decide) rfl rfl d1_29 rfl ?_
  intro T38 h38 X38 W38
  have F39 := F30.other W38 (Or.inr (slot_ne (Or.inr (hw _ (List.mem_of_getElem? (i := 16) rfl))) (Or.inr (hw _ (List.mem_of_getElem? (i := 24) rfl))) (by decide) (t := .long) (t' := .long) (by decide) (by decide)))
  have F40 := F31.other W38 (Or.inr (slot_ne (Or.inr (hw _ (List.mem_of_getElem? (i := 18) rfl))) (Or.inr (hw _ (List.mem_of_getElem? (i := 24) rfl))) (by decide) (t := .long) (t' := .long) (by decide) (by decide)))
  have F41 := F32.other W38 (Or.inr (slot_ne (Or.inr (hw _ (List.mem_of_getElem? (i := 20) rfl))) (Or.inr (hw _ (List.mem_of_getElem? (i := 24) rfl))) (by decide) (t := .long) (t' := .long) (by decide) (by decide)))
  have F42 := F29_spreadNanos.other W38 (Or.inr (slot_ne (Or.inr (hw _ (List.mem_of_getElem? (i := 22) rfl))) (Or.inr (hw _ (List.mem_of_getElem? (i := 24) rfl))) (by decide) (t := .long) (t' := .long) (by decide) (by decide)))
  have F43 := F34.other W38 (Or.inr (slot_ne (Or.inr (hw _ (List.mem_of_getElem? (i := 26) rfl))) (Or.inr (hw _ (List.mem_of_getElem? (i := 24) rfl))) (by decide) (t := .boolean) (t' := .long) (by decide) (by decide)))
  have F44 := F35.other W38 (Or.inr (slot_ne (Or.inr (hw _ (List.mem_of_getElem? (i := 28) rfl))) (Or.inr (hw _ (List.mem_of_getElem? (i := 24) rfl))) (by decide) (t := .boolean) (t' := .long) (by decide) (by decide)))
  have Ex45 := Ex36.wr W38
  have K46 := K37.wr W38 (Or.inl (by simp))
  have F38_arrivedNanos := F33.same W38
  refine own_aloadN X38 (pc' := 33) d1_32 rfl rfl rfl ?_
  refine own_iload X38 (pc' := 35) d1_33 rfl rfl ?_
  refine own_putF X38 (v' := (.int (0 : Int32))) (ty := .boolean) (pc' := 38) (hw _ (List.mem_of_getElem? (i := 25) rfl)) F43 Ex45 ge (Or.inr ⟨(hw _ (List.mem_of_getElem? (i := 26) rfl)), rfl, rfl⟩) (hw _ (List.mem_of_getElem? (i := 2) rfl)) (by decide) rfl rfl d1_35 rfl ?_
  intro T47 h47 X47 W47
  have F48 := F39.other W47 (Or.inr (slot_ne (Or.inr (hw _ (List.mem_of_getElem? (i := 16) rfl))) (Or.inr (hw _ (List.mem_of_getElem? (i := 26) rfl))) (by decide) (t := .long) (t' := .boolean) (by decide) (by decide)))
  have F49 := F40.other W47 (Or.inr (slot_ne (Or.inr (hw _ (List.mem_of_getElem? (i := 18) rfl))) (Or.inr (hw _ (List.mem_of_getElem? (i := 26) rfl))) (by decide) (t := .long) (t' := .boolean) (by decide) (by decide)))
  have F50 := F41.other W47 (Or.inr (slot_ne (Or.inr (hw _ (List.mem_of_getElem? (i := 20) rfl))) (Or.inr (hw _ (List.mem_of_getElem? (i := 26) rfl))) (by decide) (t := .long) (t' := .boolean) (by decide) (by decide)))
  have F51 := F42.other W47 (Or.inr (slot_ne (Or.inr (hw _ (List.mem_of_getElem? (i := 22) rfl))) (Or.inr (hw _ (List.mem_of_getElem? (i := 26) rfl))) (by decide) (t := .long) (t' := .boolean) (by decide) (by decide)))
  have F52 := F38_arrivedNanos.other W47 (Or.inr (slot_ne (Or.inr (hw _ (List.mem_of_getElem? (i := 24) rfl))) (Or.inr (hw _ (List.mem_of_getElem? (i := 26) rfl))) (by decide) (t := .long) (t' := .boolean) (by decide) (by decide)))
  have F53 := F44.other W47 (Or.inr (slot_ne (Or.inr (hw _ (List.mem_of_getElem? (i := 28) rfl))) (Or.inr (hw _ (List.mem_of_getElem? (i := 26) rfl))) (by decide) (t := .boolean) (t' := .boolean) (by decide) (by decide)))
  have Ex54 := Ex45.wr W47
  have K55 := K46.wr W47 (Or.inl (by simp))
  have F47_hasInterval := F43.same W47
  refine own_aloadN X47 (pc' := 39) d1_38 rfl rfl rfl ?_
  refine own_iload X47 (pc' := 41) d1_39 rfl rfl ?_
  refine own_putF X47 (v' := (.int (0 : Int32))) (ty := .boolean) (pc' := 44) (hw _ (List.mem_of_getElem? (i := 27) rfl)) F53 Ex54 ge (Or.inr ⟨(hw _ (List.mem_of_getElem? (i := 28) rfl)), rfl, rfl⟩) (hw _ (List.mem_of_getElem? (i := 2) rfl)) (by decide) rfl rfl d1_41 rfl ?_
  intro T56 h56 X56 W56
  have F57 := F48.other W56 (Or.inr (slot_ne (Or.inr (hw _ (List.mem_of_getElem? (i := 16) rfl))) (Or.inr (hw _ (List.mem_of_getElem? (i := 28) rfl))) (by decide) (t := .long) (t' := .boolean) (by decide) (by decide)))
  have F58 := F49.other W56 (Or.inr (slot_ne (Or.inr (hw _ (List.mem_of_getElem? (i := 18) rfl))) (Or.inr (hw _ (List.mem_of_getElem? (i := 28) rfl))) (by decide) (t := .long) (t' := .boolean) (by decide) (by decide)))
  have F59 := F50.other W56 (Or.inr (slot_ne (Or.inr (hw _ (List.mem_of_getElem? (i := 20) rfl))) (Or.inr (hw _ (List.mem_of_getElem? (i := 28) rfl))) (by decide) (t := .long) (t' := .boolean) (by decide) (by decide)))
  have F60 := F51.other W56 (Or.inr (slot_ne (Or.inr (hw _ (List.mem_of_getElem? (i := 22) rfl))) (Or.inr (hw _ (List.mem_of_getElem? (i := 28) rfl))) (by decide) (t := .long) (t' := .boolean) (by decide) (by decide)))
  have F61 := F52.other W56 (Or.inr (slot_ne (Or.inr (hw _ (List.mem_of_getElem? (i := 24) rfl))) (Or.inr (hw _ (List.mem_of_getElem? (i := 28) rfl))) (by decide) (t := .long) (t' := .boolean) (by decide) (by decide)))
  have F62 := F47_hasInterval.other W56 (Or.inr (slot_ne (Or.inr (hw _ (List.mem_of_getElem? (i := 26) rfl))) (Or.inr (hw _ (List.mem_of_getElem? (i := 28) rfl))) (by decide) (t := .boolean) (t' := .boolean) (by decide) (by decide)))
  have Ex63 := Ex54.wr W56
  have K64 := K55.wr W56 (Or.inl (by simp))
  have F56_errorKept := F53.same W56
  subst hΦ
  exact own_retV X56 d1_44 (by decide) (by decide) rfl ⟨⟨Ex63, F57, F58, F59, F60, F61, F62, F56_errorKept⟩, K64⟩
theorem pn_rm1_01 : plainFor (⟨"dev/tidemark/engine/Estimate", "<init>", "(JJJJJZZ)V"⟩ : MethodName) = true := plainFor_of_name (by first | (simp [plainName, overriddenIn]; done) | decide +kernel)
theorem ef_rm1_01 (m : MethodId) (x0 : Addr) (x1 : Int64) (x2 : Int64) (x3 : Int64) (x4 : Int64) (x5 : Int64) (x6 : Int32) (x7 : Int32) : entryFrame m #[(.ref x0), (.long x1), (.long x2), (.long x3), (.long x4), (.long x5), (.int x6), (.int x7)] 13 = mkF m 0 #[.val (.ref x0), .val (.long x1), .second, .val (.long x2), .second, .val (.long x3), .second, .val (.long x4), .second, .val (.long x5), .second, .val (.int x6), .val (.int x7)] [] := by first | (simp [entryFrame, mkF, argsToLocals, Value.category]; done) | rfl
set_option maxRecDepth 65536 in
set_option maxHeartbeats 4000000 in
theorem rm1_01 (l : Launch) (Z : State) (a0 : Array Value) (hw : ∀ d ∈ tables_1, d.before a0 Z = true) (n0 : Nat) (a : Addr) (q1 : Int64) (q2 : Int64) (q3 : Int64) (q4 : Int64) (q5 : Int64) (h0 : Heap) (hn0 : n0 ≤ h0.size) (D : own_D Z h0 a 0 0 0 0 0 0 0) (ge : n0 ≤ a) :
    own_Met l (⟨"dev/tidemark/engine/Estimate", "<init>", "(JJJJJZZ)V"⟩ : MethodName) prog_89_method_1_code 13 none ({ frames := 2, cells := 0, slots := 0, locals := 24 } : Room) Z n0 #[(.ref a), (.long q1), (.long q2), (.long q3), (.long q4), (.long q5), (.int (0 : Int32)), (.int (1 : Int32))] h0 none (fun h' => own_D Z h' a q1 q2 q3 q4 q5 0 1 ∧ Keep h0 h' [a]) := by
  refine own_met pn_rm1_01 hn0 ?_
  intro p e s m below meth c T X
  refine own_cast (ef_rm1_01 m a q1 q2 q3 q4 q5 (0 : Int32) (1 : Int32)) ?_
  generalize hΦ : own_Q n0 below s _ _ _ = Φ
  obtain ⟨Ex, F_madeNanos, F_horizonNanos, F_expectedNanos, F_spreadNanos, F_arrivedNanos, F_hasInterval, F_errorKept⟩ := D
  have K0 := Keep.refl h0 [a]
  refine own_aloadN X (pc' := 1) d1_0 rfl rfl rfl ?_
  refine own_callI X (W := 0) (a := a) (argsL := []) (rest := []) (S' := []) (pc' := 4) (rm2 l Z a0 hw n0 a h0 X.size) rfl (hw _ (List.mem_of_getElem? (i := 7) rfl)) (hw _ (List.mem_of_getElem? (i := 8) rfl)) (hw _ (List.mem_of_getElem? (i := 10) rfl)) (hw _ (List.mem_of_getElem? (i := 11) rfl)) (by decide) (by decide) (by decide) rfl rfl (by decide) (by decide) (lenOf pd_0 rfl) rfl (by first | decide | exact Nat.le_of_eq rfl) rfl d1_1 rfl rfl ?_
  intro T1 h1 X1 qq1
  rw [show h1 = h0 from qq1] at X1
  refine own_aloadN X1 (pc' := 5) d1_4 rfl rfl rfl ?_
  refine own_lloadN X1 (pc' := 6) d1_5 rfl rfl ?_
  refine own_putF X1 (v' := (.long q1)) (ty := .long) (pc' := 9) (hw _ (List.mem_of_getElem? (i := 15) rfl)) F_madeNanos Ex ge (Or.inr ⟨(hw _ (List.mem_of_getElem? (i := 16) rfl)), rfl, rfl⟩) (hw _ (List.mem_of_getElem? (i := 2) rfl)) (by decide) rfl rfl d1_6 rfl ?_
  intro T2 h2 X2 W2
  have F3 := F_horizonNanos.other W2 (Or.inr (slot_ne (Or.inr (hw _ (List.mem_of_getElem? (i := 18) rfl))) (Or.inr (hw _ (List.mem_of_getElem? (i := 16) rfl))) (by decide) (t := .long) (t' := .long) (by decide) (by decide)))
  have F4 := F_expectedNanos.other W2 (Or.inr (slot_ne (Or.inr (hw _ (List.mem_of_getElem? (i := 20) rfl))) (Or.inr (hw _ (List.mem_of_getElem? (i := 16) rfl))) (by decide) (t := .long) (t' := .long) (by decide) (by decide)))
  have F5 := F_spreadNanos.other W2 (Or.inr (slot_ne (Or.inr (hw _ (List.mem_of_getElem? (i := 22) rfl))) (Or.inr (hw _ (List.mem_of_getElem? (i := 16) rfl))) (by decide) (t := .long) (t' := .long) (by decide) (by decide)))
  have F6 := F_arrivedNanos.other W2 (Or.inr (slot_ne (Or.inr (hw _ (List.mem_of_getElem? (i := 24) rfl))) (Or.inr (hw _ (List.mem_of_getElem? (i := 16) rfl))) (by decide) (t := .long) (t' := .long) (by decide) (by decide)))
  have F7 := F_hasInterval.other W2 (Or.inr (slot_ne (Or.inr (hw _ (List.mem_of_getElem? (i := 26) rfl))) (Or.inr (hw _ (List.mem_of_getElem? (i := 16) rfl))) (by decide) (t := .boolean) (t' := .long) (by decide) (by decide)))
  have F8 := F_errorKept.other W2 (Or.inr (slot_ne (Or.inr (hw _ (List.mem_of_getElem? (i := 28) rfl))) (Or.inr (hw _ (List.mem_of_getElem? (i := 16) rfl))) (by decide) (t := .boolean) (t' := .long) (by decide) (by decide)))
  have Ex9 := Ex.wr W2
  have K10 := K0.wr W2 (Or.inl (by simp))
  have F2_madeNanos := F_madeNanos.same W2
  refine own_aloadN X2 (pc' := 10) d1_9 rfl rfl rfl ?_
  refine own_lloadN X2 (pc' := 11) d1_10 rfl rfl ?_
  refine own_putF X2 (v' := (.long q2)) (ty := .long) (pc' := 14) (hw _ (List.mem_of_getElem? (i := 17) rfl)) F3 Ex9 ge (Or.inr ⟨(hw _ (List.mem_of_getElem? (i := 18) rfl)), rfl, rfl⟩) (hw _ (List.mem_of_getElem? (i := 2) rfl)) (by decide) rfl rfl d1_11 rfl ?_
  intro T11 h11 X11 W11
  have F12 := F2_madeNanos.other W11 (Or.inr (slot_ne (Or.inr (hw _ (List.mem_of_getElem? (i := 16) rfl))) (Or.inr (hw _ (List.mem_of_getElem? (i := 18) rfl))) (by decide) (t := .long) (t' := .long) (by decide) (by decide)))
  have F13 := F4.other W11 (Or.inr (slot_ne (Or.inr (hw _ (List.mem_of_getElem? (i := 20) rfl))) (Or.inr (hw _ (List.mem_of_getElem? (i := 18) rfl))) (by decide) (t := .long) (t' := .long) (by decide) (by decide)))
  have F14 := F5.other W11 (Or.inr (slot_ne (Or.inr (hw _ (List.mem_of_getElem? (i := 22) rfl))) (Or.inr (hw _ (List.mem_of_getElem? (i := 18) rfl))) (by decide) (t := .long) (t' := .long) (by decide) (by decide)))
  have F15 := F6.other W11 (Or.inr (slot_ne (Or.inr (hw _ (List.mem_of_getElem? (i := 24) rfl))) (Or.inr (hw _ (List.mem_of_getElem? (i := 18) rfl))) (by decide) (t := .long) (t' := .long) (by decide) (by decide)))
  have F16 := F7.other W11 (Or.inr (slot_ne (Or.inr (hw _ (List.mem_of_getElem? (i := 26) rfl))) (Or.inr (hw _ (List.mem_of_getElem? (i := 18) rfl))) (by decide) (t := .boolean) (t' := .long) (by decide) (by decide)))
  have F17 := F8.other W11 (Or.inr (slot_ne (Or.inr (hw _ (List.mem_of_getElem? (i := 28) rfl))) (Or.inr (hw _ (List.mem_of_getElem? (i := 18) rfl))) (by decide) (t := .boolean) (t' := .long) (by decide) (by decide)))
  have Ex18 := Ex9.wr W11
  have K19 := K10.wr W11 (Or.inl (by simp))
  have F11_horizonNanos := F3.same W11
  refine own_aloadN X11 (pc' := 15) d1_14 rfl rfl rfl ?_
  refine own_lload X11 (pc' := 17) d1_15 rfl rfl ?_
  refine own_putF X11 (v' := (.long q3)) (ty := .long) (pc' := 20) (hw _ (List.mem_of_getElem? (i := 19) rfl)) F13 Ex18 ge (Or.inr ⟨(hw _ (List.mem_of_getElem? (i := 20) rfl)), rfl, rfl⟩) (hw _ (List.mem_of_getElem? (i := 2) rfl)) (by decide) rfl rfl d1_17 rfl ?_
  intro T20 h20 X20 W20
  have F21 := F12.other W20 (Or.inr (slot_ne (Or.inr (hw _ (List.mem_of_getElem? (i := 16) rfl))) (Or.inr (hw _ (List.mem_of_getElem? (i := 20) rfl))) (by decide) (t := .long) (t' := .long) (by decide) (by decide)))
  have F22 := F11_horizonNanos.other W20 (Or.inr (slot_ne (Or.inr (hw _ (List.mem_of_getElem? (i := 18) rfl))) (Or.inr (hw _ (List.mem_of_getElem? (i := 20) rfl))) (by decide) (t := .long) (t' := .long) (by decide) (by decide)))
  have F23 := F14.other W20 (Or.inr (slot_ne (Or.inr (hw _ (List.mem_of_getElem? (i := 22) rfl))) (Or.inr (hw _ (List.mem_of_getElem? (i := 20) rfl))) (by decide) (t := .long) (t' := .long) (by decide) (by decide)))
  have F24 := F15.other W20 (Or.inr (slot_ne (Or.inr (hw _ (List.mem_of_getElem? (i := 24) rfl))) (Or.inr (hw _ (List.mem_of_getElem? (i := 20) rfl))) (by decide) (t := .long) (t' := .long) (by decide) (by decide)))
  have F25 := F16.other W20 (Or.inr (slot_ne (Or.inr (hw _ (List.mem_of_getElem? (i := 26) rfl))) (Or.inr (hw _ (List.mem_of_getElem? (i := 20) rfl))) (by decide) (t := .boolean) (t' := .long) (by decide) (by decide)))
  have F26 := F17.other W20 (Or.inr (slot_ne (Or.inr (hw _ (List.mem_of_getElem? (i := 28) rfl))) (Or.inr (hw _ (List.mem_of_getElem? (i := 20) rfl))) (by decide) (t := .boolean) (t' := .long) (by decide) (by decide)))
  have Ex27 := Ex18.wr W20
  have K28 := K19.wr W20 (Or.inl (by simp))
  have F20_expectedNanos := F13.same W20
  refine own_aloadN X20 (pc' := 21) d1_20 rfl rfl rfl ?_
  refine own_lload X20 (pc' := 23) d1_21 rfl rfl ?_
  refine own_putF X20 (v' := (.long q4)) (ty := .long) (pc' := 26) (hw _ (List.mem_of_getElem? (i := 21) rfl)) F23 Ex27 ge (Or.inr ⟨(hw _ (List.mem_of_getElem? (i := 22) rfl)), rfl, rfl⟩) (hw _ (List.mem_of_getElem? (i := 2) rfl)) (by decide) rfl rfl d1_23 rfl ?_
  intro T29 h29 X29 W29
  have F30 := F21.other W29 (Or.inr (slot_ne (Or.inr (hw _ (List.mem_of_getElem? (i := 16) rfl))) (Or.inr (hw _ (List.mem_of_getElem? (i := 22) rfl))) (by decide) (t := .long) (t' := .long) (by decide) (by decide)))
  have F31 := F22.other W29 (Or.inr (slot_ne (Or.inr (hw _ (List.mem_of_getElem? (i := 18) rfl))) (Or.inr (hw _ (List.mem_of_getElem? (i := 22) rfl))) (by decide) (t := .long) (t' := .long) (by decide) (by decide)))
  have F32 := F20_expectedNanos.other W29 (Or.inr (slot_ne (Or.inr (hw _ (List.mem_of_getElem? (i := 20) rfl))) (Or.inr (hw _ (List.mem_of_getElem? (i := 22) rfl))) (by decide) (t := .long) (t' := .long) (by decide) (by decide)))
  have F33 := F24.other W29 (Or.inr (slot_ne (Or.inr (hw _ (List.mem_of_getElem? (i := 24) rfl))) (Or.inr (hw _ (List.mem_of_getElem? (i := 22) rfl))) (by decide) (t := .long) (t' := .long) (by decide) (by decide)))
  have F34 := F25.other W29 (Or.inr (slot_ne (Or.inr (hw _ (List.mem_of_getElem? (i := 26) rfl))) (Or.inr (hw _ (List.mem_of_getElem? (i := 22) rfl))) (by decide) (t := .boolean) (t' := .long) (by decide) (by decide)))
  have F35 := F26.other W29 (Or.inr (slot_ne (Or.inr (hw _ (List.mem_of_getElem? (i := 28) rfl))) (Or.inr (hw _ (List.mem_of_getElem? (i := 22) rfl))) (by decide) (t := .boolean) (t' := .long) (by decide) (by decide)))
  have Ex36 := Ex27.wr W29
  have K37 := K28.wr W29 (Or.inl (by simp))
  have F29_spreadNanos := F23.same W29
  refine own_aloadN X29 (pc' := 27) d1_26 rfl rfl rfl ?_
  refine own_lload X29 (pc' := 29) d1_27 rfl rfl ?_
  refine own_putF X29 (v' := (.long q5)) (ty := .long) (pc' := 32) (hw _ (List.mem_of_getElem? (i := 23) rfl)) F33 Ex36 ge (Or.inr ⟨(hw _ (List.mem_of_getElem? (i := 24) rfl)), rfl, rfl⟩) (hw _ (List.mem_of_getElem? (i := 2) rfl)) (by decide) rfl rfl d1_29 rfl ?_
  intro T38 h38 X38 W38
  have F39 := F30.other W38 (Or.inr (slot_ne (Or.inr (hw _ (List.mem_of_getElem? (i := 16) rfl))) (Or.inr (hw _ (List.mem_of_getElem? (i := 24) rfl))) (by decide) (t := .long) (t' := .long) (by decide) (by decide)))
  have F40 := F31.other W38 (Or.inr (slot_ne (Or.inr (hw _ (List.mem_of_getElem? (i := 18) rfl))) (Or.inr (hw _ (List.mem_of_getElem? (i := 24) rfl))) (by decide) (t := .long) (t' := .long) (by decide) (by decide)))
  have F41 := F32.other W38 (Or.inr (slot_ne (Or.inr (hw _ (List.mem_of_getElem? (i := 20) rfl))) (Or.inr (hw _ (List.mem_of_getElem? (i := 24) rfl))) (by decide) (t := .long) (t' := .long) (by decide) (by decide)))
  have F42 := F29_spreadNanos.other W38 (Or.inr (slot_ne (Or.inr (hw _ (List.mem_of_getElem? (i := 22) rfl))) (Or.inr (hw _ (List.mem_of_getElem? (i := 24) rfl))) (by decide) (t := .long) (t' := .long) (by decide) (by decide)))
  have F43 := F34.other W38 (Or.inr (slot_ne (Or.inr (hw _ (List.mem_of_getElem? (i := 26) rfl))) (Or.inr (hw _ (List.mem_of_getElem? (i := 24) rfl))) (by decide) (t := .boolean) (t' := .long) (by decide) (by decide)))
  have F44 := F35.other W38 (Or.inr (slot_ne (Or.inr (hw _ (List.mem_of_getElem? (i := 28) rfl))) (Or.inr (hw _ (List.mem_of_getElem? (i := 24) rfl))) (by decide) (t := .boolean) (t' := .long) (by decide) (by decide)))
  have Ex45 := Ex36.wr W38
  have K46 := K37.wr W38 (Or.inl (by simp))
  have F38_arrivedNanos := F33.same W38
  refine own_aloadN X38 (pc' := 33) d1_32 rfl rfl rfl ?_
  refine own_iload X38 (pc' := 35) d1_33 rfl rfl ?_
  refine own_putF X38 (v' := (.int (0 : Int32))) (ty := .boolean) (pc' := 38) (hw _ (List.mem_of_getElem? (i := 25) rfl)) F43 Ex45 ge (Or.inr ⟨(hw _ (List.mem_of_getElem? (i := 26) rfl)), rfl, rfl⟩) (hw _ (List.mem_of_getElem? (i := 2) rfl)) (by decide) rfl rfl d1_35 rfl ?_
  intro T47 h47 X47 W47
  have F48 := F39.other W47 (Or.inr (slot_ne (Or.inr (hw _ (List.mem_of_getElem? (i := 16) rfl))) (Or.inr (hw _ (List.mem_of_getElem? (i := 26) rfl))) (by decide) (t := .long) (t' := .boolean) (by decide) (by decide)))
  have F49 := F40.other W47 (Or.inr (slot_ne (Or.inr (hw _ (List.mem_of_getElem? (i := 18) rfl))) (Or.inr (hw _ (List.mem_of_getElem? (i := 26) rfl))) (by decide) (t := .long) (t' := .boolean) (by decide) (by decide)))
  have F50 := F41.other W47 (Or.inr (slot_ne (Or.inr (hw _ (List.mem_of_getElem? (i := 20) rfl))) (Or.inr (hw _ (List.mem_of_getElem? (i := 26) rfl))) (by decide) (t := .long) (t' := .boolean) (by decide) (by decide)))
  have F51 := F42.other W47 (Or.inr (slot_ne (Or.inr (hw _ (List.mem_of_getElem? (i := 22) rfl))) (Or.inr (hw _ (List.mem_of_getElem? (i := 26) rfl))) (by decide) (t := .long) (t' := .boolean) (by decide) (by decide)))
  have F52 := F38_arrivedNanos.other W47 (Or.inr (slot_ne (Or.inr (hw _ (List.mem_of_getElem? (i := 24) rfl))) (Or.inr (hw _ (List.mem_of_getElem? (i := 26) rfl))) (by decide) (t := .long) (t' := .boolean) (by decide) (by decide)))
  have F53 := F44.other W47 (Or.inr (slot_ne (Or.inr (hw _ (List.mem_of_getElem? (i := 28) rfl))) (Or.inr (hw _ (List.mem_of_getElem? (i := 26) rfl))) (by decide) (t := .boolean) (t' := .boolean) (by decide) (by decide)))
  have Ex54 := Ex45.wr W47
  have K55 := K46.wr W47 (Or.inl (by simp))
  have F47_hasInterval := F43.same W47
  refine own_aloadN X47 (pc' := 39) d1_38 rfl rfl rfl ?_
  refine own_iload X47 (pc' := 41) d1_39 rfl rfl ?_
  refine own_putF X47 (v' := (.int (1 : Int32))) (ty := .boolean) (pc' := 44) (hw _ (List.mem_of_getElem? (i := 27) rfl)) F53 Ex54 ge (Or.inr ⟨(hw _ (List.mem_of_getElem? (i := 28) rfl)), rfl, rfl⟩) (hw _ (List.mem_of_getElem? (i := 2) rfl)) (by decide) rfl rfl d1_41 rfl ?_
  intro T56 h56 X56 W56
  have F57 := F48.other W56 (Or.inr (slot_ne (Or.inr (hw _ (List.mem_of_getElem? (i := 16) rfl))) (Or.inr (hw _ (List.mem_of_getElem? (i := 28) rfl))) (by decide) (t := .long) (t' := .boolean) (by decide) (by decide)))
  have F58 := F49.other W56 (Or.inr (slot_ne (Or.inr (hw _ (List.mem_of_getElem? (i := 18) rfl))) (Or.inr (hw _ (List.mem_of_getElem? (i := 28) rfl))) (by decide) (t := .long) (t' := .boolean) (by decide) (by decide)))
  have F59 := F50.other W56 (Or.inr (slot_ne (Or.inr (hw _ (List.mem_of_getElem? (i := 20) rfl))) (Or.inr (hw _ (List.mem_of_getElem? (i := 28) rfl))) (by decide) (t := .long) (t' := .boolean) (by decide) (by decide)))
  have F60 := F51.other W56 (Or.inr (slot_ne (Or.inr (hw _ (List.mem_of_getElem? (i := 22) rfl))) (Or.inr (hw _ (List.mem_of_getElem? (i := 28) rfl))) (by decide) (t := .long) (t' := .boolean) (by decide) (by decide)))
  have F61 := F52.other W56 (Or.inr (slot_ne (Or.inr (hw _ (List.mem_of_getElem? (i := 24) rfl))) (Or.inr (hw _ (List.mem_of_getElem? (i := 28) rfl))) (by decide) (t := .long) (t' := .boolean) (by decide) (by decide)))
  have F62 := F47_hasInterval.other W56 (Or.inr (slot_ne (Or.inr (hw _ (List.mem_of_getElem? (i := 26) rfl))) (Or.inr (hw _ (List.mem_of_getElem? (i := 28) rfl))) (by decide) (t := .boolean) (t' := .boolean) (by decide) (by decide)))
  have Ex63 := Ex54.wr W56
  have K64 := K55.wr W56 (Or.inl (by simp))
  have F56_errorKept := F53.same W56
  subst hΦ
  exact own_retV X56 d1_44 (by decide) (by decide) rfl ⟨⟨Ex63, F57, F58, F59, F60, F61, F62, F56_errorKept⟩, K64⟩
theorem pn_rm1_10 : plainFor (⟨"dev/tidemark/engine/Estimate", "<init>", "(JJJJJZZ)V"⟩ : MethodName) = true := plainFor_of_name (by first | (simp [plainName, overriddenIn]; done) | decide +kernel)
theorem ef_rm1_10 (m : MethodId) (x0 : Addr) (x1 : Int64) (x2 : Int64) (x3 : Int64) (x4 : Int64) (x5 : Int64) (x6 : Int32) (x7 : Int32) : entryFrame m #[(.ref x0), (.long x1), (.long x2), (.long x3), (.long x4), (.long x5), (.int x6), (.int x7)] 13 = mkF m 0 #[.val (.ref x0), .val (.long x1), .second, .val (.long x2), .second, .val (.long x3), .second, .val (.long x4), .second, .val (.long x5), .second, .val (.int x6), .val (.int x7)] [] := by first | (simp [entryFrame, mkF, argsToLocals, Value.category]; done) | rfl
set_option maxRecDepth 65536 in
set_option maxHeartbeats 4000000 in
theorem rm1_10 (l : Launch) (Z : State) (a0 : Array Value) (hw : ∀ d ∈ tables_1, d.before a0 Z = true) (n0 : Nat) (a : Addr) (q1 : Int64) (q2 : Int64) (q3 : Int64) (q4 : Int64) (q5 : Int64) (h0 : Heap) (hn0 : n0 ≤ h0.size) (D : own_D Z h0 a 0 0 0 0 0 0 0) (ge : n0 ≤ a) :
    own_Met l (⟨"dev/tidemark/engine/Estimate", "<init>", "(JJJJJZZ)V"⟩ : MethodName) prog_89_method_1_code 13 none ({ frames := 2, cells := 0, slots := 0, locals := 24 } : Room) Z n0 #[(.ref a), (.long q1), (.long q2), (.long q3), (.long q4), (.long q5), (.int (1 : Int32)), (.int (0 : Int32))] h0 none (fun h' => own_D Z h' a q1 q2 q3 q4 q5 1 0 ∧ Keep h0 h' [a]) := by
  refine own_met pn_rm1_10 hn0 ?_
  intro p e s m below meth c T X
  refine own_cast (ef_rm1_10 m a q1 q2 q3 q4 q5 (1 : Int32) (0 : Int32)) ?_
  generalize hΦ : own_Q n0 below s _ _ _ = Φ
  obtain ⟨Ex, F_madeNanos, F_horizonNanos, F_expectedNanos, F_spreadNanos, F_arrivedNanos, F_hasInterval, F_errorKept⟩ := D
  have K0 := Keep.refl h0 [a]
  refine own_aloadN X (pc' := 1) d1_0 rfl rfl rfl ?_
  refine own_callI X (W := 0) (a := a) (argsL := []) (rest := []) (S' := []) (pc' := 4) (rm2 l Z a0 hw n0 a h0 X.size) rfl (hw _ (List.mem_of_getElem? (i := 7) rfl)) (hw _ (List.mem_of_getElem? (i := 8) rfl)) (hw _ (List.mem_of_getElem? (i := 10) rfl)) (hw _ (List.mem_of_getElem? (i := 11) rfl)) (by decide) (by decide) (by decide) rfl rfl (by decide) (by decide) (lenOf pd_0 rfl) rfl (by first | decide | exact Nat.le_of_eq rfl) rfl d1_1 rfl rfl ?_
  intro T1 h1 X1 qq1
  rw [show h1 = h0 from qq1] at X1
  refine own_aloadN X1 (pc' := 5) d1_4 rfl rfl rfl ?_
  refine own_lloadN X1 (pc' := 6) d1_5 rfl rfl ?_
  refine own_putF X1 (v' := (.long q1)) (ty := .long) (pc' := 9) (hw _ (List.mem_of_getElem? (i := 15) rfl)) F_madeNanos Ex ge (Or.inr ⟨(hw _ (List.mem_of_getElem? (i := 16) rfl)), rfl, rfl⟩) (hw _ (List.mem_of_getElem? (i := 2) rfl)) (by decide) rfl rfl d1_6 rfl ?_
  intro T2 h2 X2 W2
  have F3 := F_horizonNanos.other W2 (Or.inr (slot_ne (Or.inr (hw _ (List.mem_of_getElem? (i := 18) rfl))) (Or.inr (hw _ (List.mem_of_getElem? (i := 16) rfl))) (by decide) (t := .long) (t' := .long) (by decide) (by decide)))
  have F4 := F_expectedNanos.other W2 (Or.inr (slot_ne (Or.inr (hw _ (List.mem_of_getElem? (i := 20) rfl))) (Or.inr (hw _ (List.mem_of_getElem? (i := 16) rfl))) (by decide) (t := .long) (t' := .long) (by decide) (by decide)))
  have F5 := F_spreadNanos.other W2 (Or.inr (slot_ne (Or.inr (hw _ (List.mem_of_getElem? (i := 22) rfl))) (Or.inr (hw _ (List.mem_of_getElem? (i := 16) rfl))) (by decide) (t := .long) (t' := .long) (by decide) (by decide)))
  have F6 := F_arrivedNanos.other W2 (Or.inr (slot_ne (Or.inr (hw _ (List.mem_of_getElem? (i := 24) rfl))) (Or.inr (hw _ (List.mem_of_getElem? (i := 16) rfl))) (by decide) (t := .long) (t' := .long) (by decide) (by decide)))
  have F7 := F_hasInterval.other W2 (Or.inr (slot_ne (Or.inr (hw _ (List.mem_of_getElem? (i := 26) rfl))) (Or.inr (hw _ (List.mem_of_getElem? (i := 16) rfl))) (by decide) (t := .boolean) (t' := .long) (by decide) (by decide)))
  have F8 := F_errorKept.other W2 (Or.inr (slot_ne (Or.inr (hw _ (List.mem_of_getElem? (i := 28) rfl))) (Or.inr (hw _ (List.mem_of_getElem? (i := 16) rfl))) (by decide) (t := .boolean) (t' := .long) (by decide) (by decide)))
  have Ex9 := Ex.wr W2
  have K10 := K0.wr W2 (Or.inl (by simp))
  have F2_madeNanos := F_madeNanos.same W2
  refine own_aloadN X2 (pc' := 10) d1_9 rfl rfl rfl ?_
  refine own_lloadN X2 (pc' := 11) d1_10 rfl rfl ?_
  refine own_putF X2 (v' := (.long q2)) (ty := .long) (pc' := 14) (hw _ (List.mem_of_getElem? (i := 17) rfl)) F3 Ex9 ge (Or.inr ⟨(hw _ (List.mem_of_getElem? (i := 18) rfl)), rfl, rfl⟩) (hw _ (List.mem_of_getElem? (i := 2) rfl)) (by decide) rfl rfl d1_11 rfl ?_
  intro T11 h11 X11 W11
  have F12 := F2_madeNanos.other W11 (Or.inr (slot_ne (Or.inr (hw _ (List.mem_of_getElem? (i := 16) rfl))) (Or.inr (hw _ (List.mem_of_getElem? (i := 18) rfl))) (by decide) (t := .long) (t' := .long) (by decide) (by decide)))
  have F13 := F4.other W11 (Or.inr (slot_ne (Or.inr (hw _ (List.mem_of_getElem? (i := 20) rfl))) (Or.inr (hw _ (List.mem_of_getElem? (i := 18) rfl))) (by decide) (t := .long) (t' := .long) (by decide) (by decide)))
  have F14 := F5.other W11 (Or.inr (slot_ne (Or.inr (hw _ (List.mem_of_getElem? (i := 22) rfl))) (Or.inr (hw _ (List.mem_of_getElem? (i := 18) rfl))) (by decide) (t := .long) (t' := .long) (by decide) (by decide)))
  have F15 := F6.other W11 (Or.inr (slot_ne (Or.inr (hw _ (List.mem_of_getElem? (i := 24) rfl))) (Or.inr (hw _ (List.mem_of_getElem? (i := 18) rfl))) (by decide) (t := .long) (t' := .long) (by decide) (by decide)))
  have F16 := F7.other W11 (Or.inr (slot_ne (Or.inr (hw _ (List.mem_of_getElem? (i := 26) rfl))) (Or.inr (hw _ (List.mem_of_getElem? (i := 18) rfl))) (by decide) (t := .boolean) (t' := .long) (by decide) (by decide)))
  have F17 := F8.other W11 (Or.inr (slot_ne (Or.inr (hw _ (List.mem_of_getElem? (i := 28) rfl))) (Or.inr (hw _ (List.mem_of_getElem? (i := 18) rfl))) (by decide) (t := .boolean) (t' := .long) (by decide) (by decide)))
  have Ex18 := Ex9.wr W11
  have K19 := K10.wr W11 (Or.inl (by simp))
  have F11_horizonNanos := F3.same W11
  refine own_aloadN X11 (pc' := 15) d1_14 rfl rfl rfl ?_
  refine own_lload X11 (pc' := 17) d1_15 rfl rfl ?_
  refine own_putF X11 (v' := (.long q3)) (ty := .long) (pc' := 20) (hw _ (List.mem_of_getElem? (i := 19) rfl)) F13 Ex18 ge (Or.inr ⟨(hw _ (List.mem_of_getElem? (i := 20) rfl)), rfl, rfl⟩) (hw _ (List.mem_of_getElem? (i := 2) rfl)) (by decide) rfl rfl d1_17 rfl ?_
  intro T20 h20 X20 W20
  have F21 := F12.other W20 (Or.inr (slot_ne (Or.inr (hw _ (List.mem_of_getElem? (i := 16) rfl))) (Or.inr (hw _ (List.mem_of_getElem? (i := 20) rfl))) (by decide) (t := .long) (t' := .long) (by decide) (by decide)))
  have F22 := F11_horizonNanos.other W20 (Or.inr (slot_ne (Or.inr (hw _ (List.mem_of_getElem? (i := 18) rfl))) (Or.inr (hw _ (List.mem_of_getElem? (i := 20) rfl))) (by decide) (t := .long) (t' := .long) (by decide) (by decide)))
  have F23 := F14.other W20 (Or.inr (slot_ne (Or.inr (hw _ (List.mem_of_getElem? (i := 22) rfl))) (Or.inr (hw _ (List.mem_of_getElem? (i := 20) rfl))) (by decide) (t := .long) (t' := .long) (by decide) (by decide)))
  have F24 := F15.other W20 (Or.inr (slot_ne (Or.inr (hw _ (List.mem_of_getElem? (i := 24) rfl))) (Or.inr (hw _ (List.mem_of_getElem? (i := 20) rfl))) (by decide) (t := .long) (t' := .long) (by decide) (by decide)))
  have F25 := F16.other W20 (Or.inr (slot_ne (Or.inr (hw _ (List.mem_of_getElem? (i := 26) rfl))) (Or.inr (hw _ (List.mem_of_getElem? (i := 20) rfl))) (by decide) (t := .boolean) (t' := .long) (by decide) (by decide)))
  have F26 := F17.other W20 (Or.inr (slot_ne (Or.inr (hw _ (List.mem_of_getElem? (i := 28) rfl))) (Or.inr (hw _ (List.mem_of_getElem? (i := 20) rfl))) (by decide) (t := .boolean) (t' := .long) (by decide) (by decide)))
  have Ex27 := Ex18.wr W20
  have K28 := K19.wr W20 (Or.inl (by simp))
  have F20_expectedNanos := F13.same W20
  refine own_aloadN X20 (pc' := 21) d1_20 rfl rfl rfl ?_
  refine own_lload X20 (pc' := 23) d1_21 rfl rfl ?_
  refine own_putF X20 (v' := (.long q4)) (ty := .long) (pc' := 26) (hw _ (List.mem_of_getElem? (i := 21) rfl)) F23 Ex27 ge (Or.inr ⟨(hw _ (List.mem_of_getElem? (i := 22) rfl)), rfl, rfl⟩) (hw _ (List.mem_of_getElem? (i := 2) rfl)) (by decide) rfl rfl d1_23 rfl ?_
  intro T29 h29 X29 W29
  have F30 := F21.other W29 (Or.inr (slot_ne (Or.inr (hw _ (List.mem_of_getElem? (i := 16) rfl))) (Or.inr (hw _ (List.mem_of_getElem? (i := 22) rfl))) (by decide) (t := .long) (t' := .long) (by decide) (by decide)))
  have F31 := F22.other W29 (Or.inr (slot_ne (Or.inr (hw _ (List.mem_of_getElem? (i := 18) rfl))) (Or.inr (hw _ (List.mem_of_getElem? (i := 22) rfl))) (by decide) (t := .long) (t' := .long) (by decide) (by decide)))
  have F32 := F20_expectedNanos.other W29 (Or.inr (slot_ne (Or.inr (hw _ (List.mem_of_getElem? (i := 20) rfl))) (Or.inr (hw _ (List.mem_of_getElem? (i := 22) rfl))) (by decide) (t := .long) (t' := .long) (by decide) (by decide)))
  have F33 := F24.other W29 (Or.inr (slot_ne (Or.inr (hw _ (List.mem_of_getElem? (i := 24) rfl))) (Or.inr (hw _ (List.mem_of_getElem? (i := 22) rfl))) (by decide) (t := .long) (t' := .long) (by decide) (by decide)))
  have F34 := F25.other W29 (Or.inr (slot_ne (Or.inr (hw _ (List.mem_of_getElem? (i := 26) rfl))) (Or.inr (hw _ (List.mem_of_getElem? (i := 22) rfl))) (by decide) (t := .boolean) (t' := .long) (by decide) (by decide)))
  have F35 := F26.other W29 (Or.inr (slot_ne (Or.inr (hw _ (List.mem_of_getElem? (i := 28) rfl))) (Or.inr (hw _ (List.mem_of_getElem? (i := 22) rfl))) (by decide) (t := .boolean) (t' := .long) (by decide) (by decide)))
  have Ex36 := Ex27.wr W29
  have K37 := K28.wr W29 (Or.inl (by simp))
  have F29_spreadNanos := F23.same W29
  refine own_aloadN X29 (pc' := 27) d1_26 rfl rfl rfl ?_
  refine own_lload X29 (pc' := 29) d1_27 rfl rfl ?_
  refine own_putF X29 (v' := (.long q5)) (ty := .long) (pc' := 32) (hw _ (List.mem_of_getElem? (i := 23) rfl)) F33 Ex36 ge (Or.inr ⟨(hw _ (List.mem_of_getElem? (i := 24) rfl)), rfl, rfl⟩) (hw _ (List.mem_of_getElem? (i := 2) rfl)) (by decide) rfl rfl d1_29 rfl ?_
  intro T38 h38 X38 W38
  have F39 := F30.other W38 (Or.inr (slot_ne (Or.inr (hw _ (List.mem_of_getElem? (i := 16) rfl))) (Or.inr (hw _ (List.mem_of_getElem? (i := 24) rfl))) (by decide) (t := .long) (t' := .long) (by decide) (by decide)))
  have F40 := F31.other W38 (Or.inr (slot_ne (Or.inr (hw _ (List.mem_of_getElem? (i := 18) rfl))) (Or.inr (hw _ (List.mem_of_getElem? (i := 24) rfl))) (by decide) (t := .long) (t' := .long) (by decide) (by decide)))
  have F41 := F32.other W38 (Or.inr (slot_ne (Or.inr (hw _ (List.mem_of_getElem? (i := 20) rfl))) (Or.inr (hw _ (List.mem_of_getElem? (i := 24) rfl))) (by decide) (t := .long) (t' := .long) (by decide) (by decide)))
  have F42 := F29_spreadNanos.other W38 (Or.inr (slot_ne (Or.inr (hw _ (List.mem_of_getElem? (i := 22) rfl))) (Or.inr (hw _ (List.mem_of_getElem? (i := 24) rfl))) (by decide) (t := .long) (t' := .long) (by decide) (by decide)))
  have F43 := F34.other W38 (Or.inr (slot_ne (Or.inr (hw _ (List.mem_of_getElem? (i := 26) rfl))) (Or.inr (hw _ (List.mem_of_getElem? (i := 24) rfl))) (by decide) (t := .boolean) (t' := .long) (by decide) (by decide)))
  have F44 := F35.other W38 (Or.inr (slot_ne (Or.inr (hw _ (List.mem_of_getElem? (i := 28) rfl))) (Or.inr (hw _ (List.mem_of_getElem? (i := 24) rfl))) (by decide) (t := .boolean) (t' := .long) (by decide) (by decide)))
  have Ex45 := Ex36.wr W38
  have K46 := K37.wr W38 (Or.inl (by simp))
  have F38_arrivedNanos := F33.same W38
  refine own_aloadN X38 (pc' := 33) d1_32 rfl rfl rfl ?_
  refine own_iload X38 (pc' := 35) d1_33 rfl rfl ?_
  refine own_putF X38 (v' := (.int (1 : Int32))) (ty := .boolean) (pc' := 38) (hw _ (List.mem_of_getElem? (i := 25) rfl)) F43 Ex45 ge (Or.inr ⟨(hw _ (List.mem_of_getElem? (i := 26) rfl)), rfl, rfl⟩) (hw _ (List.mem_of_getElem? (i := 2) rfl)) (by decide) rfl rfl d1_35 rfl ?_
  intro T47 h47 X47 W47
  have F48 := F39.other W47 (Or.inr (slot_ne (Or.inr (hw _ (List.mem_of_getElem? (i := 16) rfl))) (Or.inr (hw _ (List.mem_of_getElem? (i := 26) rfl))) (by decide) (t := .long) (t' := .boolean) (by decide) (by decide)))
  have F49 := F40.other W47 (Or.inr (slot_ne (Or.inr (hw _ (List.mem_of_getElem? (i := 18) rfl))) (Or.inr (hw _ (List.mem_of_getElem? (i := 26) rfl))) (by decide) (t := .long) (t' := .boolean) (by decide) (by decide)))
  have F50 := F41.other W47 (Or.inr (slot_ne (Or.inr (hw _ (List.mem_of_getElem? (i := 20) rfl))) (Or.inr (hw _ (List.mem_of_getElem? (i := 26) rfl))) (by decide) (t := .long) (t' := .boolean) (by decide) (by decide)))
  have F51 := F42.other W47 (Or.inr (slot_ne (Or.inr (hw _ (List.mem_of_getElem? (i := 22) rfl))) (Or.inr (hw _ (List.mem_of_getElem? (i := 26) rfl))) (by decide) (t := .long) (t' := .boolean) (by decide) (by decide)))
  have F52 := F38_arrivedNanos.other W47 (Or.inr (slot_ne (Or.inr (hw _ (List.mem_of_getElem? (i := 24) rfl))) (Or.inr (hw _ (List.mem_of_getElem? (i := 26) rfl))) (by decide) (t := .long) (t' := .boolean) (by decide) (by decide)))
  have F53 := F44.other W47 (Or.inr (slot_ne (Or.inr (hw _ (List.mem_of_getElem? (i := 28) rfl))) (Or.inr (hw _ (List.mem_of_getElem? (i := 26) rfl))) (by decide) (t := .boolean) (t' := .boolean) (by decide) (by decide)))
  have Ex54 := Ex45.wr W47
  have K55 := K46.wr W47 (Or.inl (by simp))
  have F47_hasInterval := F43.same W47
  refine own_aloadN X47 (pc' := 39) d1_38 rfl rfl rfl ?_
  refine own_iload X47 (pc' := 41) d1_39 rfl rfl ?_
  refine own_putF X47 (v' := (.int (0 : Int32))) (ty := .boolean) (pc' := 44) (hw _ (List.mem_of_getElem? (i := 27) rfl)) F53 Ex54 ge (Or.inr ⟨(hw _ (List.mem_of_getElem? (i := 28) rfl)), rfl, rfl⟩) (hw _ (List.mem_of_getElem? (i := 2) rfl)) (by decide) rfl rfl d1_41 rfl ?_
  intro T56 h56 X56 W56
  have F57 := F48.other W56 (Or.inr (slot_ne (Or.inr (hw _ (List.mem_of_getElem? (i := 16) rfl))) (Or.inr (hw _ (List.mem_of_getElem? (i := 28) rfl))) (by decide) (t := .long) (t' := .boolean) (by decide) (by decide)))
  have F58 := F49.other W56 (Or.inr (slot_ne (Or.inr (hw _ (List.mem_of_getElem? (i := 18) rfl))) (Or.inr (hw _ (List.mem_of_getElem? (i := 28) rfl))) (by decide) (t := .long) (t' := .boolean) (by decide) (by decide)))
  have F59 := F50.other W56 (Or.inr (slot_ne (Or.inr (hw _ (List.mem_of_getElem? (i := 20) rfl))) (Or.inr (hw _ (List.mem_of_getElem? (i := 28) rfl))) (by decide) (t := .long) (t' := .boolean) (by decide) (by decide)))
  have F60 := F51.other W56 (Or.inr (slot_ne (Or.inr (hw _ (List.mem_of_getElem? (i := 22) rfl))) (Or.inr (hw _ (List.mem_of_getElem? (i := 28) rfl))) (by decide) (t := .long) (t' := .boolean) (by decide) (by decide)))
  have F61 := F52.other W56 (Or.inr (slot_ne (Or.inr (hw _ (List.mem_of_getElem? (i := 24) rfl))) (Or.inr (hw _ (List.mem_of_getElem? (i := 28) rfl))) (by decide) (t := .long) (t' := .boolean) (by decide) (by decide)))
  have F62 := F47_hasInterval.other W56 (Or.inr (slot_ne (Or.inr (hw _ (List.mem_of_getElem? (i := 26) rfl))) (Or.inr (hw _ (List.mem_of_getElem? (i := 28) rfl))) (by decide) (t := .boolean) (t' := .boolean) (by decide) (by decide)))
  have Ex63 := Ex54.wr W56
  have K64 := K55.wr W56 (Or.inl (by simp))
  have F56_errorKept := F53.same W56
  subst hΦ
  exact own_retV X56 d1_44 (by decide) (by decide) rfl ⟨⟨Ex63, F57, F58, F59, F60, F61, F62, F56_errorKept⟩, K64⟩
theorem pn_rm1_11 : plainFor (⟨"dev/tidemark/engine/Estimate", "<init>", "(JJJJJZZ)V"⟩ : MethodName) = true := plainFor_of_name (by first | (simp [plainName, overriddenIn]; done) | decide +kernel)
theorem ef_rm1_11 (m : MethodId) (x0 : Addr) (x1 : Int64) (x2 : Int64) (x3 : Int64) (x4 : Int64) (x5 : Int64) (x6 : Int32) (x7 : Int32) : entryFrame m #[(.ref x0), (.long x1), (.long x2), (.long x3), (.long x4), (.long x5), (.int x6), (.int x7)] 13 = mkF m 0 #[.val (.ref x0), .val (.long x1), .second, .val (.long x2), .second, .val (.long x3), .second, .val (.long x4), .second, .val (.long x5), .second, .val (.int x6), .val (.int x7)] [] := by first | (simp [entryFrame, mkF, argsToLocals, Value.category]; done) | rfl
set_option maxRecDepth 65536 in
set_option maxHeartbeats 4000000 in
theorem rm1_11 (l : Launch) (Z : State) (a0 : Array Value) (hw : ∀ d ∈ tables_1, d.before a0 Z = true) (n0 : Nat) (a : Addr) (q1 : Int64) (q2 : Int64) (q3 : Int64) (q4 : Int64) (q5 : Int64) (h0 : Heap) (hn0 : n0 ≤ h0.size) (D : own_D Z h0 a 0 0 0 0 0 0 0) (ge : n0 ≤ a) :
    own_Met l (⟨"dev/tidemark/engine/Estimate", "<init>", "(JJJJJZZ)V"⟩ : MethodName) prog_89_method_1_code 13 none ({ frames := 2, cells := 0, slots := 0, locals := 24 } : Room) Z n0 #[(.ref a), (.long q1), (.long q2), (.long q3), (.long q4), (.long q5), (.int (1 : Int32)), (.int (1 : Int32))] h0 none (fun h' => own_D Z h' a q1 q2 q3 q4 q5 1 1 ∧ Keep h0 h' [a]) := by
  refine own_met pn_rm1_11 hn0 ?_
  intro p e s m below meth c T X
  refine own_cast (ef_rm1_11 m a q1 q2 q3 q4 q5 (1 : Int32) (1 : Int32)) ?_
  generalize hΦ : own_Q n0 below s _ _ _ = Φ
  obtain ⟨Ex, F_madeNanos, F_horizonNanos, F_expectedNanos, F_spreadNanos, F_arrivedNanos, F_hasInterval, F_errorKept⟩ := D
  have K0 := Keep.refl h0 [a]
  refine own_aloadN X (pc' := 1) d1_0 rfl rfl rfl ?_
  refine own_callI X (W := 0) (a := a) (argsL := []) (rest := []) (S' := []) (pc' := 4) (rm2 l Z a0 hw n0 a h0 X.size) rfl (hw _ (List.mem_of_getElem? (i := 7) rfl)) (hw _ (List.mem_of_getElem? (i := 8) rfl)) (hw _ (List.mem_of_getElem? (i := 10) rfl)) (hw _ (List.mem_of_getElem? (i := 11) rfl)) (by decide) (by decide) (by decide) rfl rfl (by decide) (by decide) (lenOf pd_0 rfl) rfl (by first | decide | exact Nat.le_of_eq rfl) rfl d1_1 rfl rfl ?_
  intro T1 h1 X1 qq1
  rw [show h1 = h0 from qq1] at X1
  refine own_aloadN X1 (pc' := 5) d1_4 rfl rfl rfl ?_
  refine own_lloadN X1 (pc' := 6) d1_5 rfl rfl ?_
  refine own_putF X1 (v' := (.long q1)) (ty := .long) (pc' := 9) (hw _ (List.mem_of_getElem? (i := 15) rfl)) F_madeNanos Ex ge (Or.inr ⟨(hw _ (List.mem_of_getElem? (i := 16) rfl)), rfl, rfl⟩) (hw _ (List.mem_of_getElem? (i := 2) rfl)) (by decide) rfl rfl d1_6 rfl ?_
  intro T2 h2 X2 W2
  have F3 := F_horizonNanos.other W2 (Or.inr (slot_ne (Or.inr (hw _ (List.mem_of_getElem? (i := 18) rfl))) (Or.inr (hw _ (List.mem_of_getElem? (i := 16) rfl))) (by decide) (t := .long) (t' := .long) (by decide) (by decide)))
  have F4 := F_expectedNanos.other W2 (Or.inr (slot_ne (Or.inr (hw _ (List.mem_of_getElem? (i := 20) rfl))) (Or.inr (hw _ (List.mem_of_getElem? (i := 16) rfl))) (by decide) (t := .long) (t' := .long) (by decide) (by decide)))
  have F5 := F_spreadNanos.other W2 (Or.inr (slot_ne (Or.inr (hw _ (List.mem_of_getElem? (i := 22) rfl))) (Or.inr (hw _ (List.mem_of_getElem? (i := 16) rfl))) (by decide) (t := .long) (t' := .long) (by decide) (by decide)))
  have F6 := F_arrivedNanos.other W2 (Or.inr (slot_ne (Or.inr (hw _ (List.mem_of_getElem? (i := 24) rfl))) (Or.inr (hw _ (List.mem_of_getElem? (i := 16) rfl))) (by decide) (t := .long) (t' := .long) (by decide) (by decide)))
  have F7 := F_hasInterval.other W2 (Or.inr (slot_ne (Or.inr (hw _ (List.mem_of_getElem? (i := 26) rfl))) (Or.inr (hw _ (List.mem_of_getElem? (i := 16) rfl))) (by decide) (t := .boolean) (t' := .long) (by decide) (by decide)))
  have F8 := F_errorKept.other W2 (Or.inr (slot_ne (Or.inr (hw _ (List.mem_of_getElem? (i := 28) rfl))) (Or.inr (hw _ (List.mem_of_getElem? (i := 16) rfl))) (by decide) (t := .boolean) (t' := .long) (by decide) (by decide)))
  have Ex9 := Ex.wr W2
  have K10 := K0.wr W2 (Or.inl (by simp))
  have F2_madeNanos := F_madeNanos.same W2
  refine own_aloadN X2 (pc' := 10) d1_9 rfl rfl rfl ?_
  refine own_lloadN X2 (pc' := 11) d1_10 rfl rfl ?_
  refine own_putF X2 (v' := (.long q2)) (ty := .long) (pc' := 14) (hw _ (List.mem_of_getElem? (i := 17) rfl)) F3 Ex9 ge (Or.inr ⟨(hw _ (List.mem_of_getElem? (i := 18) rfl)), rfl, rfl⟩) (hw _ (List.mem_of_getElem? (i := 2) rfl)) (by decide) rfl rfl d1_11 rfl ?_
  intro T11 h11 X11 W11
  have F12 := F2_madeNanos.other W11 (Or.inr (slot_ne (Or.inr (hw _ (List.mem_of_getElem? (i := 16) rfl))) (Or.inr (hw _ (List.mem_of_getElem? (i := 18) rfl))) (by decide) (t := .long) (t' := .long) (by decide) (by decide)))
  have F13 := F4.other W11 (Or.inr (slot_ne (Or.inr (hw _ (List.mem_of_getElem? (i := 20) rfl))) (Or.inr (hw _ (List.mem_of_getElem? (i := 18) rfl))) (by decide) (t := .long) (t' := .long) (by decide) (by decide)))
  have F14 := F5.other W11 (Or.inr (slot_ne (Or.inr (hw _ (List.mem_of_getElem? (i := 22) rfl))) (Or.inr (hw _ (List.mem_of_getElem? (i := 18) rfl))) (by decide) (t := .long) (t' := .long) (by decide) (by decide)))
  have F15 := F6.other W11 (Or.inr (slot_ne (Or.inr (hw _ (List.mem_of_getElem? (i := 24) rfl))) (Or.inr (hw _ (List.mem_of_getElem? (i := 18) rfl))) (by decide) (t := .long) (t' := .long) (by decide) (by decide)))
  have F16 := F7.other W11 (Or.inr (slot_ne (Or.inr (hw _ (List.mem_of_getElem? (i := 26) rfl))) (Or.inr (hw _ (List.mem_of_getElem? (i := 18) rfl))) (by decide) (t := .boolean) (t' := .long) (by decide) (by decide)))
  have F17 := F8.other W11 (Or.inr (slot_ne (Or.inr (hw _ (List.mem_of_getElem? (i := 28) rfl))) (Or.inr (hw _ (List.mem_of_getElem? (i := 18) rfl))) (by decide) (t := .boolean) (t' := .long) (by decide) (by decide)))
  have Ex18 := Ex9.wr W11
  have K19 := K10.wr W11 (Or.inl (by simp))
  have F11_horizonNanos := F3.same W11
  refine own_aloadN X11 (pc' := 15) d1_14 rfl rfl rfl ?_
  refine own_lload X11 (pc' := 17) d1_15 rfl rfl ?_
  refine own_putF X11 (v' := (.long q3)) (ty := .long) (pc' := 20) (hw _ (List.mem_of_getElem? (i := 19) rfl)) F13 Ex18 ge (Or.inr ⟨(hw _ (List.mem_of_getElem? (i := 20) rfl)), rfl, rfl⟩) (hw _ (List.mem_of_getElem? (i := 2) rfl)) (by decide) rfl rfl d1_17 rfl ?_
  intro T20 h20 X20 W20
  have F21 := F12.other W20 (Or.inr (slot_ne (Or.inr (hw _ (List.mem_of_getElem? (i := 16) rfl))) (Or.inr (hw _ (List.mem_of_getElem? (i := 20) rfl))) (by decide) (t := .long) (t' := .long) (by decide) (by decide)))
  have F22 := F11_horizonNanos.other W20 (Or.inr (slot_ne (Or.inr (hw _ (List.mem_of_getElem? (i := 18) rfl))) (Or.inr (hw _ (List.mem_of_getElem? (i := 20) rfl))) (by decide) (t := .long) (t' := .long) (by decide) (by decide)))
  have F23 := F14.other W20 (Or.inr (slot_ne (Or.inr (hw _ (List.mem_of_getElem? (i := 22) rfl))) (Or.inr (hw _ (List.mem_of_getElem? (i := 20) rfl))) (by decide) (t := .long) (t' := .long) (by decide) (by decide)))
  have F24 := F15.other W20 (Or.inr (slot_ne (Or.inr (hw _ (List.mem_of_getElem? (i := 24) rfl))) (Or.inr (hw _ (List.mem_of_getElem? (i := 20) rfl))) (by decide) (t := .long) (t' := .long) (by decide) (by decide)))
  have F25 := F16.other W20 (Or.inr (slot_ne (Or.inr (hw _ (List.mem_of_getElem? (i := 26) rfl))) (Or.inr (hw _ (List.mem_of_getElem? (i := 20) rfl))) (by decide) (t := .boolean) (t' := .long) (by decide) (by decide)))
  have F26 := F17.other W20 (Or.inr (slot_ne (Or.inr (hw _ (List.mem_of_getElem? (i := 28) rfl))) (Or.inr (hw _ (List.mem_of_getElem? (i := 20) rfl))) (by decide) (t := .boolean) (t' := .long) (by decide) (by decide)))
  have Ex27 := Ex18.wr W20
  have K28 := K19.wr W20 (Or.inl (by simp))
  have F20_expectedNanos := F13.same W20
  refine own_aloadN X20 (pc' := 21) d1_20 rfl rfl rfl ?_
  refine own_lload X20 (pc' := 23) d1_21 rfl rfl ?_
  refine own_putF X20 (v' := (.long q4)) (ty := .long) (pc' := 26) (hw _ (List.mem_of_getElem? (i := 21) rfl)) F23 Ex27 ge (Or.inr ⟨(hw _ (List.mem_of_getElem? (i := 22) rfl)), rfl, rfl⟩) (hw _ (List.mem_of_getElem? (i := 2) rfl)) (by decide) rfl rfl d1_23 rfl ?_
  intro T29 h29 X29 W29
  have F30 := F21.other W29 (Or.inr (slot_ne (Or.inr (hw _ (List.mem_of_getElem? (i := 16) rfl))) (Or.inr (hw _ (List.mem_of_getElem? (i := 22) rfl))) (by decide) (t := .long) (t' := .long) (by decide) (by decide)))
  have F31 := F22.other W29 (Or.inr (slot_ne (Or.inr (hw _ (List.mem_of_getElem? (i := 18) rfl))) (Or.inr (hw _ (List.mem_of_getElem? (i := 22) rfl))) (by decide) (t := .long) (t' := .long) (by decide) (by decide)))
  have F32 := F20_expectedNanos.other W29 (Or.inr (slot_ne (Or.inr (hw _ (List.mem_of_getElem? (i := 20) rfl))) (Or.inr (hw _ (List.mem_of_getElem? (i := 22) rfl))) (by decide) (t := .long) (t' := .long) (by decide) (by decide)))
  have F33 := F24.other W29 (Or.inr (slot_ne (Or.inr (hw _ (List.mem_of_getElem? (i := 24) rfl))) (Or.inr (hw _ (List.mem_of_getElem? (i := 22) rfl))) (by decide) (t := .long) (t' := .long) (by decide) (by decide)))
  have F34 := F25.other W29 (Or.inr (slot_ne (Or.inr (hw _ (List.mem_of_getElem? (i := 26) rfl))) (Or.inr (hw _ (List.mem_of_getElem? (i := 22) rfl))) (by decide) (t := .boolean) (t' := .long) (by decide) (by decide)))
  have F35 := F26.other W29 (Or.inr (slot_ne (Or.inr (hw _ (List.mem_of_getElem? (i := 28) rfl))) (Or.inr (hw _ (List.mem_of_getElem? (i := 22) rfl))) (by decide) (t := .boolean) (t' := .long) (by decide) (by decide)))
  have Ex36 := Ex27.wr W29
  have K37 := K28.wr W29 (Or.inl (by simp))
  have F29_spreadNanos := F23.same W29
  refine own_aloadN X29 (pc' := 27) d1_26 rfl rfl rfl ?_
  refine own_lload X29 (pc' := 29) d1_27 rfl rfl ?_
  refine own_putF X29 (v' := (.long q5)) (ty := .long) (pc' := 32) (hw _ (List.mem_of_getElem? (i := 23) rfl)) F33 Ex36 ge (Or.inr ⟨(hw _ (List.mem_of_getElem? (i := 24) rfl)), rfl, rfl⟩) (hw _ (List.mem_of_getElem? (i := 2) rfl)) (by decide) rfl rfl d1_29 rfl ?_
  intro T38 h38 X38 W38
  have F39 := F30.other W38 (Or.inr (slot_ne (Or.inr (hw _ (List.mem_of_getElem? (i := 16) rfl))) (Or.inr (hw _ (List.mem_of_getElem? (i := 24) rfl))) (by decide) (t := .long) (t' := .long) (by decide) (by decide)))
  have F40 := F31.other W38 (Or.inr (slot_ne (Or.inr (hw _ (List.mem_of_getElem? (i := 18) rfl))) (Or.inr (hw _ (List.mem_of_getElem? (i := 24) rfl))) (by decide) (t := .long) (t' := .long) (by decide) (by decide)))
  have F41 := F32.other W38 (Or.inr (slot_ne (Or.inr (hw _ (List.mem_of_getElem? (i := 20) rfl))) (Or.inr (hw _ (List.mem_of_getElem? (i := 24) rfl))) (by decide) (t := .long) (t' := .long) (by decide) (by decide)))
  have F42 := F29_spreadNanos.other W38 (Or.inr (slot_ne (Or.inr (hw _ (List.mem_of_getElem? (i := 22) rfl))) (Or.inr (hw _ (List.mem_of_getElem? (i := 24) rfl))) (by decide) (t := .long) (t' := .long) (by decide) (by decide)))
  have F43 := F34.other W38 (Or.inr (slot_ne (Or.inr (hw _ (List.mem_of_getElem? (i := 26) rfl))) (Or.inr (hw _ (List.mem_of_getElem? (i := 24) rfl))) (by decide) (t := .boolean) (t' := .long) (by decide) (by decide)))
  have F44 := F35.other W38 (Or.inr (slot_ne (Or.inr (hw _ (List.mem_of_getElem? (i := 28) rfl))) (Or.inr (hw _ (List.mem_of_getElem? (i := 24) rfl))) (by decide) (t := .boolean) (t' := .long) (by decide) (by decide)))
  have Ex45 := Ex36.wr W38
  have K46 := K37.wr W38 (Or.inl (by simp))
  have F38_arrivedNanos := F33.same W38
  refine own_aloadN X38 (pc' := 33) d1_32 rfl rfl rfl ?_
  refine own_iload X38 (pc' := 35) d1_33 rfl rfl ?_
  refine own_putF X38 (v' := (.int (1 : Int32))) (ty := .boolean) (pc' := 38) (hw _ (List.mem_of_getElem? (i := 25) rfl)) F43 Ex45 ge (Or.inr ⟨(hw _ (List.mem_of_getElem? (i := 26) rfl)), rfl, rfl⟩) (hw _ (List.mem_of_getElem? (i := 2) rfl)) (by decide) rfl rfl d1_35 rfl ?_
  intro T47 h47 X47 W47
  have F48 := F39.other W47 (Or.inr (slot_ne (Or.inr (hw _ (List.mem_of_getElem? (i := 16) rfl))) (Or.inr (hw _ (List.mem_of_getElem? (i := 26) rfl))) (by decide) (t := .long) (t' := .boolean) (by decide) (by decide)))
  have F49 := F40.other W47 (Or.inr (slot_ne (Or.inr (hw _ (List.mem_of_getElem? (i := 18) rfl))) (Or.inr (hw _ (List.mem_of_getElem? (i := 26) rfl))) (by decide) (t := .long) (t' := .boolean) (by decide) (by decide)))
  have F50 := F41.other W47 (Or.inr (slot_ne (Or.inr (hw _ (List.mem_of_getElem? (i := 20) rfl))) (Or.inr (hw _ (List.mem_of_getElem? (i := 26) rfl))) (by decide) (t := .long) (t' := .boolean) (by decide) (by decide)))
  have F51 := F42.other W47 (Or.inr (slot_ne (Or.inr (hw _ (List.mem_of_getElem? (i := 22) rfl))) (Or.inr (hw _ (List.mem_of_getElem? (i := 26) rfl))) (by decide) (t := .long) (t' := .boolean) (by decide) (by decide)))
  have F52 := F38_arrivedNanos.other W47 (Or.inr (slot_ne (Or.inr (hw _ (List.mem_of_getElem? (i := 24) rfl))) (Or.inr (hw _ (List.mem_of_getElem? (i := 26) rfl))) (by decide) (t := .long) (t' := .boolean) (by decide) (by decide)))
  have F53 := F44.other W47 (Or.inr (slot_ne (Or.inr (hw _ (List.mem_of_getElem? (i := 28) rfl))) (Or.inr (hw _ (List.mem_of_getElem? (i := 26) rfl))) (by decide) (t := .boolean) (t' := .boolean) (by decide) (by decide)))
  have Ex54 := Ex45.wr W47
  have K55 := K46.wr W47 (Or.inl (by simp))
  have F47_hasInterval := F43.same W47
  refine own_aloadN X47 (pc' := 39) d1_38 rfl rfl rfl ?_
  refine own_iload X47 (pc' := 41) d1_39 rfl rfl ?_
  refine own_putF X47 (v' := (.int (1 : Int32))) (ty := .boolean) (pc' := 44) (hw _ (List.mem_of_getElem? (i := 27) rfl)) F53 Ex54 ge (Or.inr ⟨(hw _ (List.mem_of_getElem? (i := 28) rfl)), rfl, rfl⟩) (hw _ (List.mem_of_getElem? (i := 2) rfl)) (by decide) rfl rfl d1_41 rfl ?_
  intro T56 h56 X56 W56
  have F57 := F48.other W56 (Or.inr (slot_ne (Or.inr (hw _ (List.mem_of_getElem? (i := 16) rfl))) (Or.inr (hw _ (List.mem_of_getElem? (i := 28) rfl))) (by decide) (t := .long) (t' := .boolean) (by decide) (by decide)))
  have F58 := F49.other W56 (Or.inr (slot_ne (Or.inr (hw _ (List.mem_of_getElem? (i := 18) rfl))) (Or.inr (hw _ (List.mem_of_getElem? (i := 28) rfl))) (by decide) (t := .long) (t' := .boolean) (by decide) (by decide)))
  have F59 := F50.other W56 (Or.inr (slot_ne (Or.inr (hw _ (List.mem_of_getElem? (i := 20) rfl))) (Or.inr (hw _ (List.mem_of_getElem? (i := 28) rfl))) (by decide) (t := .long) (t' := .boolean) (by decide) (by decide)))
  have F60 := F51.other W56 (Or.inr (slot_ne (Or.inr (hw _ (List.mem_of_getElem? (i := 22) rfl))) (Or.inr (hw _ (List.mem_of_getElem? (i := 28) rfl))) (by decide) (t := .long) (t' := .boolean) (by decide) (by decide)))
  have F61 := F52.other W56 (Or.inr (slot_ne (Or.inr (hw _ (List.mem_of_getElem? (i := 24) rfl))) (Or.inr (hw _ (List.mem_of_getElem? (i := 28) rfl))) (by decide) (t := .long) (t' := .boolean) (by decide) (by decide)))
  have F62 := F47_hasInterval.other W56 (Or.inr (slot_ne (Or.inr (hw _ (List.mem_of_getElem? (i := 26) rfl))) (Or.inr (hw _ (List.mem_of_getElem? (i := 28) rfl))) (by decide) (t := .boolean) (t' := .boolean) (by decide) (by decide)))
  have Ex63 := Ex54.wr W56
  have K64 := K55.wr W56 (Or.inl (by simp))
  have F56_errorKept := F53.same W56
  subst hΦ
  exact own_retV X56 d1_44 (by decide) (by decide) rfl ⟨⟨Ex63, F57, F58, F59, F60, F61, F62, F56_errorKept⟩, K64⟩
theorem d4_0 : decode jdk_29_method_61_code 0 = .ok (.lload_n 0, 1) := by decide +kernel
theorem d4_1 : decode jdk_29_method_61_code 1 = .ok (.lconst 0, 1) := by decide +kernel
theorem d4_2 : decode jdk_29_method_61_code 2 = .ok (.lcmp, 1) := by decide +kernel
theorem d4_3 : decode jdk_29_method_61_code 3 = .ok (.ifCond .ge 8, 3) := by decide +kernel
theorem d4_6 : decode jdk_29_method_61_code 6 = .ok (.lload_n 0, 1) := by decide +kernel
theorem d4_7 : decode jdk_29_method_61_code 7 = .ok (.lneg, 1) := by decide +kernel
theorem d4_8 : decode jdk_29_method_61_code 8 = .ok (.goto 4, 3) := by decide +kernel
theorem d4_11 : decode jdk_29_method_61_code 11 = .ok (.lload_n 0, 1) := by decide +kernel
theorem d4_12 : decode jdk_29_method_61_code 12 = .ok (.lreturn, 1) := by decide +kernel
theorem pn_rm4 : plainFor (⟨"java/lang/Math", "abs", "(J)J"⟩ : MethodName) = true := Jvm.Free.JP.mathPlain rfl (by decide +kernel)
theorem ef_rm4 (m : MethodId) (x0 : Int64) : entryFrame m #[(.long x0)] 2 = mkF m 0 #[.val (.long x0), .second] [] := by first | (simp [entryFrame, mkF, argsToLocals, Value.category]; done) | rfl
set_option maxRecDepth 65536 in
set_option maxHeartbeats 4000000 in
theorem rm4 (l : Launch) (Z : State) (a0 : Array Value) (hw : ∀ d ∈ tables_1, d.before a0 Z = true) (n0 : Nat) (u : Int64) (h0 : Heap) (hn0 : n0 ≤ h0.size) :
    own_Met l (⟨"java/lang/Math", "abs", "(J)J"⟩ : MethodName) jdk_29_method_61_code 2 (some .long) ({ frames := 0, cells := 0, slots := 0, locals := 0 } : Room) Z n0 #[(.long u)] h0 (some (.long (own_abs u))) (fun h' => h' = h0) := by
  refine own_met pn_rm4 hn0 ?_
  intro p e s m below meth c T X
  refine own_cast (ef_rm4 m u) ?_
  generalize hΦ : own_Q n0 below s _ _ _ = Φ
  refine own_lloadN X (pc' := 1) d4_0 rfl rfl ?_
  refine own_lconst X (v := (0 : Int64)) (pc' := 2) d4_1 rfl (by decide) ?_
  refine own_lcmp X (pc' := 3) d4_2 rfl ?_
  refine own_ifl_ge X (pct := 11) (pc' := 6) d4_3 rfl (by decide) (by decide) (fun hc3_1 => ?_) (fun hc3_1 => ?_)
  · refine own_lloadN X (pc' := 12) d4_11 rfl rfl ?_
    subst hΦ
    exact own_retL X d4_12 (by decide) (by decide) (by simp [own_abs, *]) rfl
  · refine own_lloadN X (pc' := 7) d4_6 rfl rfl ?_
    refine own_lneg X (r := (-u)) (pc' := 8) d4_7 rfl rfl ?_
    refine own_goto X (pc' := 12) d4_8 (by decide) (by decide) ?_
    subst hΦ
    exact own_retL X d4_12 (by decide) (by decide) (by simp [own_abs, *]) rfl
theorem d5_0 : decode prog_89_method_2_code 0 = .ok (.aload_n 0, 1) := by decide +kernel
theorem d5_1 : decode prog_89_method_2_code 1 = .ok (.getfield 22, 3) := by decide +kernel
theorem d5_4 : decode prog_89_method_2_code 4 = .ok (.aload_n 0, 1) := by decide +kernel
theorem d5_5 : decode prog_89_method_2_code 5 = .ok (.getfield 16, 3) := by decide +kernel
theorem d5_8 : decode prog_89_method_2_code 8 = .ok (.lsub, 1) := by decide +kernel
theorem d5_9 : decode prog_89_method_2_code 9 = .ok (.lstore_n 1, 1) := by decide +kernel
theorem d5_10 : decode prog_89_method_2_code 10 = .ok (.aload_n 0, 1) := by decide +kernel
theorem d5_11 : decode prog_89_method_2_code 11 = .ok (.getfield 25, 3) := by decide +kernel
theorem d5_14 : decode prog_89_method_2_code 14 = .ok (.ifCond .eq 26, 3) := by decide +kernel
theorem d5_17 : decode prog_89_method_2_code 17 = .ok (.lload_n 1, 1) := by decide +kernel
theorem d5_18 : decode prog_89_method_2_code 18 = .ok (.aload_n 0, 1) := by decide +kernel
theorem d5_19 : decode prog_89_method_2_code 19 = .ok (.getfield 19, 3) := by decide +kernel
theorem d5_22 : decode prog_89_method_2_code 22 = .ok (.lneg, 1) := by decide +kernel
theorem d5_23 : decode prog_89_method_2_code 23 = .ok (.lcmp, 1) := by decide +kernel
theorem d5_24 : decode prog_89_method_2_code 24 = .ok (.ifCond .lt 16, 3) := by decide +kernel
theorem d5_27 : decode prog_89_method_2_code 27 = .ok (.lload_n 1, 1) := by decide +kernel
theorem d5_28 : decode prog_89_method_2_code 28 = .ok (.aload_n 0, 1) := by decide +kernel
theorem d5_29 : decode prog_89_method_2_code 29 = .ok (.getfield 19, 3) := by decide +kernel
theorem d5_32 : decode prog_89_method_2_code 32 = .ok (.lcmp, 1) := by decide +kernel
theorem d5_33 : decode prog_89_method_2_code 33 = .ok (.ifCond .gt 7, 3) := by decide +kernel
theorem d5_36 : decode prog_89_method_2_code 36 = .ok (.iconst 1, 1) := by decide +kernel
theorem d5_37 : decode prog_89_method_2_code 37 = .ok (.goto 4, 3) := by decide +kernel
theorem d5_40 : decode prog_89_method_2_code 40 = .ok (.iconst 0, 1) := by decide +kernel
theorem d5_41 : decode prog_89_method_2_code 41 = .ok (.ireturn, 1) := by decide +kernel
theorem pn_rm5 : plainFor (⟨"dev/tidemark/engine/Estimate", "hit", "()Z"⟩ : MethodName) = true := plainFor_of_name (by first | (simp [plainName, overriddenIn]; done) | decide +kernel)
theorem ef_rm5 (m : MethodId) (x0 : Addr) : entryFrame m #[(.ref x0)] 3 = mkF m 0 #[.val (.ref x0), .unset, .unset] [] := by first | (simp [entryFrame, mkF, argsToLocals, Value.category]; done) | rfl
set_option maxRecDepth 65536 in
set_option maxHeartbeats 4000000 in
theorem rm5 (l : Launch) (Z : State) (a0 : Array Value) (hw : ∀ d ∈ tables_1, d.before a0 Z = true) (n0 : Nat) (a : Addr) (h0 : Heap) (hn0 : n0 ≤ h0.size) (q1 q2 q3 q4 q5 : Int64) (b1 b2 : Int32) (D : own_D Z h0 a q1 q2 q3 q4 q5 b1 b2) :
    own_Met l (⟨"dev/tidemark/engine/Estimate", "hit", "()Z"⟩ : MethodName) prog_89_method_2_code 3 (some .boolean) ({ frames := 0, cells := 0, slots := 0, locals := 0 } : Room) Z n0 #[(.ref a)] h0 (some (.int (own_hit b1 (q5 - q3) q4))) (fun h' => h' = h0) := by
  refine own_met pn_rm5 hn0 ?_
  intro p e s m below meth c T X
  refine own_cast (ef_rm5 m a) ?_
  generalize hΦ : own_Q n0 below s _ _ _ = Φ
  obtain ⟨Ex, F_madeNanos, F_horizonNanos, F_expectedNanos, F_spreadNanos, F_arrivedNanos, F_hasInterval, F_errorKept⟩ := D
  refine own_aloadN X (pc' := 1) d5_0 rfl rfl rfl ?_
  refine own_getF X (pc' := 4) (hw _ (List.mem_of_getElem? (i := 23) rfl)) F_arrivedNanos d5_1 rfl ?_
  intro T1 X1
  refine own_aloadN X1 (pc' := 5) d5_4 rfl rfl rfl ?_
  refine own_getF X1 (pc' := 8) (hw _ (List.mem_of_getElem? (i := 19) rfl)) F_expectedNanos d5_5 rfl ?_
  intro T2 X2
  refine own_lsub X2 (r := (q5 - q3)) (pc' := 9) d5_8 rfl rfl ?_
  refine own_lstoreN X2 (pc' := 10) (Ls' := #[.val (.ref a), .val (.long (q5 - q3)), .second]) d5_9 rfl rfl ?_
  refine own_aloadN X2 (pc' := 11) d5_10 rfl rfl rfl ?_
  refine own_getF X2 (pc' := 14) (hw _ (List.mem_of_getElem? (i := 25) rfl)) F_hasInterval d5_11 rfl ?_
  intro T3 X3
  refine own_if_eq X3 (pct := 40) (pc' := 17) d5_14 rfl (by decide) (by decide) (fun hc14_4 => ?_) (fun hc14_4 => ?_)
  · refine own_iconst X3 (v := (0 : Int32)) (pc' := 41) d5_40 rfl (by decide) ?_
    subst hΦ
    exact own_retZ X3 d5_41 (by decide) (by decide) (by decide) (by simp [own_hit, *]) rfl
  · refine own_lloadN X3 (pc' := 18) d5_17 rfl rfl ?_
    refine own_aloadN X3 (pc' := 19) d5_18 rfl rfl rfl ?_
    refine own_getF X3 (pc' := 22) (hw _ (List.mem_of_getElem? (i := 21) rfl)) F_spreadNanos d5_19 rfl ?_
    intro T5 X5
    refine own_lneg X5 (r := (-q4)) (pc' := 23) d5_22 rfl rfl ?_
    refine own_lcmp X5 (pc' := 24) d5_23 rfl ?_
    refine own_ifl_lt X5 (pct := 40) (pc' := 27) d5_24 rfl (by decide) (by decide) (fun hc24_6 => ?_) (fun hc24_6 => ?_)
    · refine own_iconst X5 (v := (0 : Int32)) (pc' := 41) d5_40 rfl (by decide) ?_
      subst hΦ
      exact own_retZ X5 d5_41 (by decide) (by decide) (by decide) (by simp [own_hit, *]) rfl
    · refine own_lloadN X5 (pc' := 28) d5_27 rfl rfl ?_
      refine own_aloadN X5 (pc' := 29) d5_28 rfl rfl rfl ?_
      refine own_getF X5 (pc' := 32) (hw _ (List.mem_of_getElem? (i := 21) rfl)) F_spreadNanos d5_29 rfl ?_
      intro T7 X7
      refine own_lcmp X7 (pc' := 33) d5_32 rfl ?_
      refine own_ifl_gt X7 (pct := 40) (pc' := 36) d5_33 rfl (by decide) (by decide) (fun hc33_8 => ?_) (fun hc33_8 => ?_)
      · refine own_iconst X7 (v := (0 : Int32)) (pc' := 41) d5_40 rfl (by decide) ?_
        subst hΦ
        exact own_retZ X7 d5_41 (by decide) (by decide) (by decide) (by simp [own_hit, *]) rfl
      · refine own_iconst X7 (v := (1 : Int32)) (pc' := 37) d5_36 rfl (by decide) ?_
        refine own_goto X7 (pc' := 41) d5_37 (by decide) (by decide) ?_
        subst hΦ
        exact own_retZ X7 d5_41 (by decide) (by decide) (by decide) (by simp [own_hit, *]) rfl
theorem pd_1 : parseMethodDescriptor "(JJJJJZZ)V" = some ⟨[.long, .long, .long, .long, .long, .boolean, .boolean], none⟩ := by decide +kernel
theorem pd_2 : parseMethodDescriptor "()Z" = some ⟨[], some .boolean⟩ := by decide +kernel
theorem pd_3 : parseMethodDescriptor "(J)J" = some ⟨[.long], some .long⟩ := by decide +kernel
theorem pn_rm0 : plainFor (⟨"dev/tidemark/engine/EstimateHitPinLaw", "law", "(JJJJJI)Z"⟩ : MethodName) = true := plainFor_of_name (by first | (simp [plainName, overriddenIn]; done) | decide +kernel)
theorem ef_rm0 (m : MethodId) (x0 : Int64) (x1 : Int64) (x2 : Int64) (x3 : Int64) (x4 : Int64) (x5 : Int32) : entryFrame m #[(.long x0), (.long x1), (.long x2), (.long x3), (.long x4), (.int x5)] maxLocals = mkF m 0 #[.val (.long x0), .second, .val (.long x1), .second, .val (.long x2), .second, .val (.long x3), .second, .val (.long x4), .second, .val (.int x5), .unset, .unset, .unset, .unset, .unset, .unset, .unset, .unset, .unset, .unset] [] := by first | (simp [entryFrame, mkF, argsToLocals, Value.category, maxLocals]; done) | rfl
set_option maxRecDepth 65536 in
set_option maxHeartbeats 4000000 in
theorem rm0 (l : Launch) (Z : State) (a0 : Array Value) (hw : ∀ d ∈ tables_1, d.before a0 Z = true) (n0 : Nat) (made : Int64) (hor : Int64) (ex : Int64) (spr : Int64) (ofr : Int64) (flags : Int32) (h0 : Heap) (hn0 : n0 ≤ h0.size) :
    own_Met l x code maxLocals ret room_1 Z n0 #[(.long made), (.long hor), (.long ex), (.long spr), (.long ofr), (.int flags)] h0 (some (.int 1)) (fun _ => True) := by
  refine own_met pn_rm0 hn0 ?_
  intro p e s m below meth c T X
  refine own_cast (ef_rm0 m made hor ex spr ofr flags) ?_
  change own_S Z n0 code x 21 ret p l e room_1 s m _ below meth c T 0 0 h0 at X
  generalize hΦ : own_Q n0 below s _ _ _ = Φ
  refine own_iload X (pc' := 2) at_0 rfl rfl ?_
  refine own_iconst X (v := (1 : Int32)) (pc' := 3) at_2 rfl (by decide) ?_
  refine own_iand X (r := (flags &&& (1 : Int32))) (pc' := 4) at_3 rfl rfl ?_
  refine own_if_eq X (pct := 11) (pc' := 7) at_4 rfl (by decide) (by decide) (fun hc4_1 => ?_) (fun hc4_1 => ?_)
  · refine own_iconst X (v := (0 : Int32)) (pc' := 12) at_11 rfl (by decide) ?_
    refine own_istore X (pc' := 14) (Ls' := #[.val (.long made), .second, .val (.long hor), .second, .val (.long ex), .second, .val (.long spr), .second, .val (.long ofr), .second, .val (.int flags), .val (.int (0 : Int32)), .unset, .unset, .unset, .unset, .unset, .unset, .unset, .unset, .unset]) at_12 rfl rfl ?_
    refine own_iload X (pc' := 16) at_14 rfl rfl ?_
    refine own_iconst X (v := (2 : Int32)) (pc' := 17) at_16 rfl (by decide) ?_
    refine own_iand X (r := (flags &&& (2 : Int32))) (pc' := 18) at_17 rfl rfl ?_
    refine own_if_eq X (pct := 25) (pc' := 21) at_18 rfl (by decide) (by decide) (fun hc18_2 => ?_) (fun hc18_2 => ?_)
    · refine own_iconst X (v := (0 : Int32)) (pc' := 26) at_25 rfl (by decide) ?_
      refine own_istore X (pc' := 28) (Ls' := #[.val (.long made), .second, .val (.long hor), .second, .val (.long ex), .second, .val (.long spr), .second, .val (.long ofr), .second, .val (.int flags), .val (.int (0 : Int32)), .val (.int (0 : Int32)), .unset, .unset, .unset, .unset, .unset, .unset, .unset, .unset]) at_26 rfl rfl ?_
      refine own_lload X (pc' := 30) at_28 rfl rfl ?_
      refine own_ldc2 X (pc' := 33) (hw _ (List.mem_of_getElem? (i := 0) rfl)) at_30 rfl ?_
      refine own_land X (r := (spr &&& (9223372036854775807 : Int64))) (pc' := 34) at_33 rfl rfl ?_
      refine own_lstore X (pc' := 36) (Ls' := #[.val (.long made), .second, .val (.long hor), .second, .val (.long ex), .second, .val (.long spr), .second, .val (.long ofr), .second, .val (.int flags), .val (.int (0 : Int32)), .val (.int (0 : Int32)), .val (.long (spr &&& (9223372036854775807 : Int64))), .second, .unset, .unset, .unset, .unset, .unset, .unset]) at_34 rfl rfl ?_
      generalize e3 : (spr &&& (9223372036854775807 : Int64)) = v3
      have hs : 0 ≤ v3.toInt := by rw [← e3]; exact own_sp _
      refine own_lload X (pc' := 38) at_36 rfl rfl ?_
      refine own_lstore X (pc' := 40) (Ls' := #[.val (.long made), .second, .val (.long hor), .second, .val (.long ex), .second, .val (.long spr), .second, .val (.long ofr), .second, .val (.int flags), .val (.int (0 : Int32)), .val (.int (0 : Int32)), .val (.long v3), .second, .val (.long ofr), .second, .unset, .unset, .unset, .unset]) at_38 rfl rfl ?_
      refine own_iload X (pc' := 42) at_40 rfl rfl ?_
      refine own_iconst X (v := (4 : Int32)) (pc' := 43) at_42 rfl (by decide) ?_
      refine own_iand X (r := (flags &&& (4 : Int32))) (pc' := 44) at_43 rfl rfl ?_
      refine own_if_eq X (pct := 79) (pc' := 47) at_44 rfl (by decide) (by decide) (fun hc44_4 => ?_) (fun hc44_4 => ?_)
      · refine own_lload X (pc' := 81) at_79 rfl rfl ?_
        refine own_lload X (pc' := 83) at_81 rfl rfl ?_
        refine own_ladd X (r := (ex + ofr)) (pc' := 84) at_83 rfl rfl ?_
        refine own_lstore X (pc' := 86) (Ls' := #[.val (.long made), .second, .val (.long hor), .second, .val (.long ex), .second, .val (.long spr), .second, .val (.long ofr), .second, .val (.int flags), .val (.int (0 : Int32)), .val (.int (0 : Int32)), .val (.long v3), .second, .val (.long ofr), .second, .val (.long (ex + ofr)), .second, .unset, .unset]) at_84 rfl rfl ?_
        refine own_new X (pc' := 89) (hw _ (List.mem_of_getElem? (i := 1) rfl)) (hw _ (List.mem_of_getElem? (i := 2) rfl)) (hw _ (List.mem_of_getElem? (i := 3) rfl)) at_86 rfl (by decide) (by decide) ?_
        intro T5 h5 ad5 X5 ge_ad5 g_ad5 E5 Ex5 D5
        have F5_madeNanos : Fld Z h5 ad5 "dev/tidemark/engine/Estimate" "madeNanos" "J" (.long (0 : Int64)) := D5 (Or.inr (hw _ (List.mem_of_getElem? (i := 16) rfl))) (ty := .long) (by decide)
        have F5_horizonNanos : Fld Z h5 ad5 "dev/tidemark/engine/Estimate" "horizonNanos" "J" (.long (0 : Int64)) := D5 (Or.inr (hw _ (List.mem_of_getElem? (i := 18) rfl))) (ty := .long) (by decide)
        have F5_expectedNanos : Fld Z h5 ad5 "dev/tidemark/engine/Estimate" "expectedNanos" "J" (.long (0 : Int64)) := D5 (Or.inr (hw _ (List.mem_of_getElem? (i := 20) rfl))) (ty := .long) (by decide)
        have F5_spreadNanos : Fld Z h5 ad5 "dev/tidemark/engine/Estimate" "spreadNanos" "J" (.long (0 : Int64)) := D5 (Or.inr (hw _ (List.mem_of_getElem? (i := 22) rfl))) (ty := .long) (by decide)
        have F5_arrivedNanos : Fld Z h5 ad5 "dev/tidemark/engine/Estimate" "arrivedNanos" "J" (.long (0 : Int64)) := D5 (Or.inr (hw _ (List.mem_of_getElem? (i := 24) rfl))) (ty := .long) (by decide)
        have F5_hasInterval : Fld Z h5 ad5 "dev/tidemark/engine/Estimate" "hasInterval" "Z" (.int (0 : Int32)) := D5 (Or.inr (hw _ (List.mem_of_getElem? (i := 26) rfl))) (ty := .boolean) (by decide)
        have F5_errorKept : Fld Z h5 ad5 "dev/tidemark/engine/Estimate" "errorKept" "Z" (.int (0 : Int32)) := D5 (Or.inr (hw _ (List.mem_of_getElem? (i := 28) rfl))) (ty := .boolean) (by decide)
        refine own_dup X5 (pc' := 90) at_89 rfl rfl ?_
        refine own_lloadN X5 (pc' := 91) at_90 rfl rfl ?_
        refine own_lloadN X5 (pc' := 92) at_91 rfl rfl ?_
        refine own_lload X5 (pc' := 94) at_92 rfl rfl ?_
        refine own_lload X5 (pc' := 96) at_94 rfl rfl ?_
        refine own_lload X5 (pc' := 98) at_96 rfl rfl ?_
        refine own_iload X5 (pc' := 100) at_98 rfl rfl ?_
        refine own_iload X5 (pc' := 102) at_100 rfl rfl ?_
        refine own_callI X5 (W := 1) (a := ad5) (argsL := [(.long made), (.long hor), (.long ex), (.long v3), (.long (ex + ofr)), (.int (0 : Int32)), (.int (0 : Int32))]) (rest := [(.ref ad5)]) (S' := [(.ref ad5)]) (pc' := 105) (rm1_00 l Z a0 hw n0 ad5 made hor ex v3 (ex + ofr) h5 X5.size ⟨Ex5, F5_madeNanos, F5_horizonNanos, F5_expectedNanos, F5_spreadNanos, F5_arrivedNanos, F5_hasInterval, F5_errorKept⟩ ge_ad5) rfl (hw _ (List.mem_of_getElem? (i := 4) rfl)) (hw _ (List.mem_of_getElem? (i := 5) rfl)) (hw _ (List.mem_of_getElem? (i := 3) rfl)) (hw _ (List.mem_of_getElem? (i := 6) rfl)) (by decide) (by decide) (by decide) rfl rfl (by decide) (by decide) (lenOf pd_1 rfl) rfl (by first | decide | exact Nat.le_of_eq rfl) rfl at_102 rfl rfl ?_
        intro T6 h6 X6 qq6
        obtain ⟨⟨Ex7, F7_madeNanos, F7_horizonNanos, F7_expectedNanos, F7_spreadNanos, F7_arrivedNanos, F7_hasInterval, F7_errorKept⟩, K7⟩ := qq6
        refine own_astore X6 (pc' := 107) (Ls' := #[.val (.long made), .second, .val (.long hor), .second, .val (.long ex), .second, .val (.long spr), .second, .val (.long ofr), .second, .val (.int flags), .val (.int (0 : Int32)), .val (.int (0 : Int32)), .val (.long v3), .second, .val (.long ofr), .second, .val (.long (ex + ofr)), .second, .val (.ref ad5), .unset]) at_105 rfl rfl rfl ?_
        refine own_lload X6 (pc' := 109) at_107 rfl rfl ?_
        refine own_ldc2 X6 (pc' := 112) (hw _ (List.mem_of_getElem? (i := 29) rfl)) at_109 rfl ?_
        refine own_lcmp X6 (pc' := 113) at_112 rfl ?_
        refine own_ifl_eq X6 (pct := 131) (pc' := 116) at_113 rfl (by decide) (by decide) (fun hc113_8 => ?_) (fun hc113_8 => ?_)
        · refine own_iconst X6 (v := (0 : Int32)) (pc' := 132) at_131 rfl (by decide) ?_
          refine own_istore X6 (pc' := 134) (Ls' := #[.val (.long made), .second, .val (.long hor), .second, .val (.long ex), .second, .val (.long spr), .second, .val (.long ofr), .second, .val (.int flags), .val (.int (0 : Int32)), .val (.int (0 : Int32)), .val (.long v3), .second, .val (.long ofr), .second, .val (.long (ex + ofr)), .second, .val (.ref ad5), .val (.int (0 : Int32))]) at_132 rfl rfl ?_
          refine own_aload X6 (pc' := 136) at_134 rfl rfl rfl ?_
          refine own_callV X6 (W := 0) (a := ad5) (argsL := []) (rest := []) (S' := [(.int (own_hit (0 : Int32) ((ex + ofr) - ex) v3))]) (pc' := 139) (rm5 l Z a0 hw n0 ad5 h6 X6.size made hor ex v3 (ex + ofr) (0 : Int32) (0 : Int32) ⟨Ex7, F7_madeNanos, F7_horizonNanos, F7_expectedNanos, F7_spreadNanos, F7_arrivedNanos, F7_hasInterval, F7_errorKept⟩) Ex7 (hw _ (List.mem_of_getElem? (i := 34) rfl)) (hw _ (List.mem_of_getElem? (i := 35) rfl)) (hw _ (List.mem_of_getElem? (i := 37) rfl)) (hw _ (List.mem_of_getElem? (i := 36) rfl)) (hw _ (List.mem_of_getElem? (i := 3) rfl)) (hw _ (List.mem_of_getElem? (i := 38) rfl)) (by decide) (by decide) (by decide) rfl rfl (by decide) (by decide) (lenOf pd_2 rfl) rfl (by first | decide | exact Nat.le_of_eq rfl) rfl at_136 rfl rfl ?_
          intro T9 h9 X9 qq9
          rw [show h9 = h6 from qq9] at X9
          refine own_iload X9 (pc' := 141) at_139 rfl rfl ?_
          refine own_if_eq X9 (pct := 153) (pc' := 144) at_141 rfl (by decide) (by decide) (fun _ => ?_) (fun hc => absurd hc (by decide))
          refine own_iconst X9 (v := (0 : Int32)) (pc' := 154) at_153 rfl (by decide) ?_
          refine own_icmp_ne X9 (pct := 161) (pc' := 157) at_154 rfl (by decide) (by decide) (fun hc => absurd hc (fun q => q (own_h0 _ _ _))) (fun _ => ?_)
          refine own_iconst X9 (v := (1 : Int32)) (pc' := 158) at_157 rfl (by decide) ?_
          refine own_goto X9 (pc' := 162) at_158 (by decide) (by decide) ?_
          subst hΦ
          exact own_retZ X9 at_162 (by decide) (by decide) (by decide) rfl trivial
        · refine own_lload X6 (pc' := 118) at_116 rfl rfl ?_
          refine own_callS X6 (W := 0) (argsL := [(.long ofr)]) (rest := []) (S' := [(.long (own_abs ofr))]) (pc' := 121) (rm4 l Z a0 hw n0 ofr h6 X6.size) (hw _ (List.mem_of_getElem? (i := 30) rfl)) (hw _ (List.mem_of_getElem? (i := 31) rfl)) (hw _ (List.mem_of_getElem? (i := 32) rfl)) (hw _ (List.mem_of_getElem? (i := 33) rfl)) (by decide) (by decide) (by decide) rfl rfl (by decide) (by decide) (lenOf pd_3 rfl) rfl (by first | decide | exact Nat.le_of_eq rfl) rfl at_118 rfl rfl ?_
          intro T10 h10 X10 qq10
          rw [show h10 = h6 from qq10] at X10
          refine own_lload X10 (pc' := 123) at_121 rfl rfl ?_
          refine own_lcmp X10 (pc' := 124) at_123 rfl ?_
          refine own_ifl_gt X10 (pct := 131) (pc' := 127) at_124 rfl (by decide) (by decide) (fun hc124_11 => ?_) (fun hc124_11 => ?_)
          · refine own_iconst X10 (v := (0 : Int32)) (pc' := 132) at_131 rfl (by decide) ?_
            refine own_istore X10 (pc' := 134) (Ls' := #[.val (.long made), .second, .val (.long hor), .second, .val (.long ex), .second, .val (.long spr), .second, .val (.long ofr), .second, .val (.int flags), .val (.int (0 : Int32)), .val (.int (0 : Int32)), .val (.long v3), .second, .val (.long ofr), .second, .val (.long (ex + ofr)), .second, .val (.ref ad5), .val (.int (0 : Int32))]) at_132 rfl rfl ?_
            refine own_aload X10 (pc' := 136) at_134 rfl rfl rfl ?_
            refine own_callV X10 (W := 0) (a := ad5) (argsL := []) (rest := []) (S' := [(.int (own_hit (0 : Int32) ((ex + ofr) - ex) v3))]) (pc' := 139) (rm5 l Z a0 hw n0 ad5 h6 X10.size made hor ex v3 (ex + ofr) (0 : Int32) (0 : Int32) ⟨Ex7, F7_madeNanos, F7_horizonNanos, F7_expectedNanos, F7_spreadNanos, F7_arrivedNanos, F7_hasInterval, F7_errorKept⟩) Ex7 (hw _ (List.mem_of_getElem? (i := 34) rfl)) (hw _ (List.mem_of_getElem? (i := 35) rfl)) (hw _ (List.mem_of_getElem? (i := 37) rfl)) (hw _ (List.mem_of_getElem? (i := 36) rfl)) (hw _ (List.mem_of_getElem? (i := 3) rfl)) (hw _ (List.mem_of_getElem? (i := 38) rfl)) (by decide) (by decide) (by decide) rfl rfl (by decide) (by decide) (lenOf pd_2 rfl) rfl (by first | decide | exact Nat.le_of_eq rfl) rfl at_136 rfl rfl ?_
            intro T12 h12 X12 qq12
            rw [show h12 = h6 from qq12] at X12
            refine own_iload X12 (pc' := 141) at_139 rfl rfl ?_
            refine own_if_eq X12 (pct := 153) (pc' := 144) at_141 rfl (by decide) (by decide) (fun _ => ?_) (fun hc => absurd hc (by decide))
            refine own_iconst X12 (v := (0 : Int32)) (pc' := 154) at_153 rfl (by decide) ?_
            refine own_icmp_ne X12 (pct := 161) (pc' := 157) at_154 rfl (by decide) (by decide) (fun hc => absurd hc (fun q => q (own_h0 _ _ _))) (fun _ => ?_)
            refine own_iconst X12 (v := (1 : Int32)) (pc' := 158) at_157 rfl (by decide) ?_
            refine own_goto X12 (pc' := 162) at_158 (by decide) (by decide) ?_
            subst hΦ
            exact own_retZ X12 at_162 (by decide) (by decide) (by decide) rfl trivial
          · refine own_iconst X10 (v := (1 : Int32)) (pc' := 128) at_127 rfl (by decide) ?_
            refine own_goto X10 (pc' := 132) at_128 (by decide) (by decide) ?_
            refine own_istore X10 (pc' := 134) (Ls' := #[.val (.long made), .second, .val (.long hor), .second, .val (.long ex), .second, .val (.long spr), .second, .val (.long ofr), .second, .val (.int flags), .val (.int (0 : Int32)), .val (.int (0 : Int32)), .val (.long v3), .second, .val (.long ofr), .second, .val (.long (ex + ofr)), .second, .val (.ref ad5), .val (.int (1 : Int32))]) at_132 rfl rfl ?_
            refine own_aload X10 (pc' := 136) at_134 rfl rfl rfl ?_
            refine own_callV X10 (W := 0) (a := ad5) (argsL := []) (rest := []) (S' := [(.int (own_hit (0 : Int32) ((ex + ofr) - ex) v3))]) (pc' := 139) (rm5 l Z a0 hw n0 ad5 h6 X10.size made hor ex v3 (ex + ofr) (0 : Int32) (0 : Int32) ⟨Ex7, F7_madeNanos, F7_horizonNanos, F7_expectedNanos, F7_spreadNanos, F7_arrivedNanos, F7_hasInterval, F7_errorKept⟩) Ex7 (hw _ (List.mem_of_getElem? (i := 34) rfl)) (hw _ (List.mem_of_getElem? (i := 35) rfl)) (hw _ (List.mem_of_getElem? (i := 37) rfl)) (hw _ (List.mem_of_getElem? (i := 36) rfl)) (hw _ (List.mem_of_getElem? (i := 3) rfl)) (hw _ (List.mem_of_getElem? (i := 38) rfl)) (by decide) (by decide) (by decide) rfl rfl (by decide) (by decide) (lenOf pd_2 rfl) rfl (by first | decide | exact Nat.le_of_eq rfl) rfl at_136 rfl rfl ?_
            intro T13 h13 X13 qq13
            rw [show h13 = h6 from qq13] at X13
            refine own_iload X13 (pc' := 141) at_139 rfl rfl ?_
            refine own_if_eq X13 (pct := 153) (pc' := 144) at_141 rfl (by decide) (by decide) (fun _ => ?_) (fun hc => absurd hc (by decide))
            refine own_iconst X13 (v := (0 : Int32)) (pc' := 154) at_153 rfl (by decide) ?_
            refine own_icmp_ne X13 (pct := 161) (pc' := 157) at_154 rfl (by decide) (by decide) (fun hc => absurd hc (fun q => q (own_h0 _ _ _))) (fun _ => ?_)
            refine own_iconst X13 (v := (1 : Int32)) (pc' := 158) at_157 rfl (by decide) ?_
            refine own_goto X13 (pc' := 162) at_158 (by decide) (by decide) ?_
            subst hΦ
            exact own_retZ X13 at_162 (by decide) (by decide) (by decide) rfl trivial
      · refine own_iload X (pc' := 49) at_47 rfl rfl ?_
        refine own_bipush X (v := (8 : Int32)) (pc' := 51) at_49 rfl (by decide) ?_
        refine own_iand X (r := (flags &&& (8 : Int32))) (pc' := 52) at_51 rfl rfl ?_
        refine own_if_eq X (pct := 60) (pc' := 55) at_52 rfl (by decide) (by decide) (fun hc52_14 => ?_) (fun hc52_14 => ?_)
        · refine own_lload X (pc' := 62) at_60 rfl rfl ?_
          refine own_lneg X (r := (-v3)) (pc' := 63) at_62 rfl rfl ?_
          refine own_lstore X (pc' := 65) (Ls' := #[.val (.long made), .second, .val (.long hor), .second, .val (.long ex), .second, .val (.long spr), .second, .val (.long ofr), .second, .val (.int flags), .val (.int (0 : Int32)), .val (.int (0 : Int32)), .val (.long v3), .second, .val (.long ofr), .second, .val (.long (-v3)), .second, .unset, .unset]) at_63 rfl rfl ?_
          refine own_lload X (pc' := 67) at_65 rfl rfl ?_
          refine own_iload X (pc' := 69) at_67 rfl rfl ?_
          refine own_iconst X (v := (4 : Int32)) (pc' := 70) at_69 rfl (by decide) ?_
          refine own_iushr X (r := ((flags.toUInt32 >>> ((4 : Int32) &&& 31).toUInt32).toInt32)) (pc' := 71) at_70 rfl rfl ?_
          refine own_iconst X (v := (3 : Int32)) (pc' := 72) at_71 rfl (by decide) ?_
          refine own_iand X (r := (((flags.toUInt32 >>> ((4 : Int32) &&& 31).toUInt32).toInt32) &&& (3 : Int32))) (pc' := 73) at_72 rfl rfl ?_
          refine own_iconst X (v := (1 : Int32)) (pc' := 74) at_73 rfl (by decide) ?_
          refine own_isub X (r := ((((flags.toUInt32 >>> ((4 : Int32) &&& 31).toUInt32).toInt32) &&& (3 : Int32)) - (1 : Int32))) (pc' := 75) at_74 rfl rfl ?_
          refine own_i2l X (r := (((((flags.toUInt32 >>> ((4 : Int32) &&& 31).toUInt32).toInt32) &&& (3 : Int32)) - (1 : Int32)).toInt64)) (pc' := 76) at_75 rfl rfl ?_
          refine own_ladd X (r := ((-v3) + (((((flags.toUInt32 >>> ((4 : Int32) &&& 31).toUInt32).toInt32) &&& (3 : Int32)) - (1 : Int32)).toInt64))) (pc' := 77) at_76 rfl rfl ?_
          refine own_lstore X (pc' := 79) (Ls' := #[.val (.long made), .second, .val (.long hor), .second, .val (.long ex), .second, .val (.long spr), .second, .val (.long ofr), .second, .val (.int flags), .val (.int (0 : Int32)), .val (.int (0 : Int32)), .val (.long v3), .second, .val (.long ((-v3) + (((((flags.toUInt32 >>> ((4 : Int32) &&& 31).toUInt32).toInt32) &&& (3 : Int32)) - (1 : Int32)).toInt64))), .second, .val (.long (-v3)), .second, .unset, .unset]) at_77 rfl rfl ?_
          generalize e15 : ((-v3) + (((((flags.toUInt32 >>> ((4 : Int32) &&& 31).toUInt32).toInt32) &&& (3 : Int32)) - (1 : Int32)).toInt64)) = v15
          refine own_lload X (pc' := 81) at_79 rfl rfl ?_
          refine own_lload X (pc' := 83) at_81 rfl rfl ?_
          refine own_ladd X (r := (ex + v15)) (pc' := 84) at_83 rfl rfl ?_
          refine own_lstore X (pc' := 86) (Ls' := #[.val (.long made), .second, .val (.long hor), .second, .val (.long ex), .second, .val (.long spr), .second, .val (.long ofr), .second, .val (.int flags), .val (.int (0 : Int32)), .val (.int (0 : Int32)), .val (.long v3), .second, .val (.long v15), .second, .val (.long (ex + v15)), .second, .unset, .unset]) at_84 rfl rfl ?_
          refine own_new X (pc' := 89) (hw _ (List.mem_of_getElem? (i := 1) rfl)) (hw _ (List.mem_of_getElem? (i := 2) rfl)) (hw _ (List.mem_of_getElem? (i := 3) rfl)) at_86 rfl (by decide) (by decide) ?_
          intro T16 h16 ad16 X16 ge_ad16 g_ad16 E16 Ex16 D16
          have F16_madeNanos : Fld Z h16 ad16 "dev/tidemark/engine/Estimate" "madeNanos" "J" (.long (0 : Int64)) := D16 (Or.inr (hw _ (List.mem_of_getElem? (i := 16) rfl))) (ty := .long) (by decide)
          have F16_horizonNanos : Fld Z h16 ad16 "dev/tidemark/engine/Estimate" "horizonNanos" "J" (.long (0 : Int64)) := D16 (Or.inr (hw _ (List.mem_of_getElem? (i := 18) rfl))) (ty := .long) (by decide)
          have F16_expectedNanos : Fld Z h16 ad16 "dev/tidemark/engine/Estimate" "expectedNanos" "J" (.long (0 : Int64)) := D16 (Or.inr (hw _ (List.mem_of_getElem? (i := 20) rfl))) (ty := .long) (by decide)
          have F16_spreadNanos : Fld Z h16 ad16 "dev/tidemark/engine/Estimate" "spreadNanos" "J" (.long (0 : Int64)) := D16 (Or.inr (hw _ (List.mem_of_getElem? (i := 22) rfl))) (ty := .long) (by decide)
          have F16_arrivedNanos : Fld Z h16 ad16 "dev/tidemark/engine/Estimate" "arrivedNanos" "J" (.long (0 : Int64)) := D16 (Or.inr (hw _ (List.mem_of_getElem? (i := 24) rfl))) (ty := .long) (by decide)
          have F16_hasInterval : Fld Z h16 ad16 "dev/tidemark/engine/Estimate" "hasInterval" "Z" (.int (0 : Int32)) := D16 (Or.inr (hw _ (List.mem_of_getElem? (i := 26) rfl))) (ty := .boolean) (by decide)
          have F16_errorKept : Fld Z h16 ad16 "dev/tidemark/engine/Estimate" "errorKept" "Z" (.int (0 : Int32)) := D16 (Or.inr (hw _ (List.mem_of_getElem? (i := 28) rfl))) (ty := .boolean) (by decide)
          refine own_dup X16 (pc' := 90) at_89 rfl rfl ?_
          refine own_lloadN X16 (pc' := 91) at_90 rfl rfl ?_
          refine own_lloadN X16 (pc' := 92) at_91 rfl rfl ?_
          refine own_lload X16 (pc' := 94) at_92 rfl rfl ?_
          refine own_lload X16 (pc' := 96) at_94 rfl rfl ?_
          refine own_lload X16 (pc' := 98) at_96 rfl rfl ?_
          refine own_iload X16 (pc' := 100) at_98 rfl rfl ?_
          refine own_iload X16 (pc' := 102) at_100 rfl rfl ?_
          refine own_callI X16 (W := 1) (a := ad16) (argsL := [(.long made), (.long hor), (.long ex), (.long v3), (.long (ex + v15)), (.int (0 : Int32)), (.int (0 : Int32))]) (rest := [(.ref ad16)]) (S' := [(.ref ad16)]) (pc' := 105) (rm1_00 l Z a0 hw n0 ad16 made hor ex v3 (ex + v15) h16 X16.size ⟨Ex16, F16_madeNanos, F16_horizonNanos, F16_expectedNanos, F16_spreadNanos, F16_arrivedNanos, F16_hasInterval, F16_errorKept⟩ ge_ad16) rfl (hw _ (List.mem_of_getElem? (i := 4) rfl)) (hw _ (List.mem_of_getElem? (i := 5) rfl)) (hw _ (List.mem_of_getElem? (i := 3) rfl)) (hw _ (List.mem_of_getElem? (i := 6) rfl)) (by decide) (by decide) (by decide) rfl rfl (by decide) (by decide) (lenOf pd_1 rfl) rfl (by first | decide | exact Nat.le_of_eq rfl) rfl at_102 rfl rfl ?_
          intro T17 h17 X17 qq17
          obtain ⟨⟨Ex18, F18_madeNanos, F18_horizonNanos, F18_expectedNanos, F18_spreadNanos, F18_arrivedNanos, F18_hasInterval, F18_errorKept⟩, K18⟩ := qq17
          refine own_astore X17 (pc' := 107) (Ls' := #[.val (.long made), .second, .val (.long hor), .second, .val (.long ex), .second, .val (.long spr), .second, .val (.long ofr), .second, .val (.int flags), .val (.int (0 : Int32)), .val (.int (0 : Int32)), .val (.long v3), .second, .val (.long v15), .second, .val (.long (ex + v15)), .second, .val (.ref ad16), .unset]) at_105 rfl rfl rfl ?_
          refine own_lload X17 (pc' := 109) at_107 rfl rfl ?_
          refine own_ldc2 X17 (pc' := 112) (hw _ (List.mem_of_getElem? (i := 29) rfl)) at_109 rfl ?_
          refine own_lcmp X17 (pc' := 113) at_112 rfl ?_
          refine own_ifl_eq X17 (pct := 131) (pc' := 116) at_113 rfl (by decide) (by decide) (fun hc113_19 => ?_) (fun hc113_19 => ?_)
          · refine own_iconst X17 (v := (0 : Int32)) (pc' := 132) at_131 rfl (by decide) ?_
            refine own_istore X17 (pc' := 134) (Ls' := #[.val (.long made), .second, .val (.long hor), .second, .val (.long ex), .second, .val (.long spr), .second, .val (.long ofr), .second, .val (.int flags), .val (.int (0 : Int32)), .val (.int (0 : Int32)), .val (.long v3), .second, .val (.long v15), .second, .val (.long (ex + v15)), .second, .val (.ref ad16), .val (.int (0 : Int32))]) at_132 rfl rfl ?_
            refine own_aload X17 (pc' := 136) at_134 rfl rfl rfl ?_
            refine own_callV X17 (W := 0) (a := ad16) (argsL := []) (rest := []) (S' := [(.int (own_hit (0 : Int32) ((ex + v15) - ex) v3))]) (pc' := 139) (rm5 l Z a0 hw n0 ad16 h17 X17.size made hor ex v3 (ex + v15) (0 : Int32) (0 : Int32) ⟨Ex18, F18_madeNanos, F18_horizonNanos, F18_expectedNanos, F18_spreadNanos, F18_arrivedNanos, F18_hasInterval, F18_errorKept⟩) Ex18 (hw _ (List.mem_of_getElem? (i := 34) rfl)) (hw _ (List.mem_of_getElem? (i := 35) rfl)) (hw _ (List.mem_of_getElem? (i := 37) rfl)) (hw _ (List.mem_of_getElem? (i := 36) rfl)) (hw _ (List.mem_of_getElem? (i := 3) rfl)) (hw _ (List.mem_of_getElem? (i := 38) rfl)) (by decide) (by decide) (by decide) rfl rfl (by decide) (by decide) (lenOf pd_2 rfl) rfl (by first | decide | exact Nat.le_of_eq rfl) rfl at_136 rfl rfl ?_
            intro T20 h20 X20 qq20
            rw [show h20 = h17 from qq20] at X20
            refine own_iload X20 (pc' := 141) at_139 rfl rfl ?_
            refine own_if_eq X20 (pct := 153) (pc' := 144) at_141 rfl (by decide) (by decide) (fun _ => ?_) (fun hc => absurd hc (by decide))
            refine own_iconst X20 (v := (0 : Int32)) (pc' := 154) at_153 rfl (by decide) ?_
            refine own_icmp_ne X20 (pct := 161) (pc' := 157) at_154 rfl (by decide) (by decide) (fun hc => absurd hc (fun q => q (own_h0 _ _ _))) (fun _ => ?_)
            refine own_iconst X20 (v := (1 : Int32)) (pc' := 158) at_157 rfl (by decide) ?_
            refine own_goto X20 (pc' := 162) at_158 (by decide) (by decide) ?_
            subst hΦ
            exact own_retZ X20 at_162 (by decide) (by decide) (by decide) rfl trivial
          · refine own_lload X17 (pc' := 118) at_116 rfl rfl ?_
            refine own_callS X17 (W := 0) (argsL := [(.long v15)]) (rest := []) (S' := [(.long (own_abs v15))]) (pc' := 121) (rm4 l Z a0 hw n0 v15 h17 X17.size) (hw _ (List.mem_of_getElem? (i := 30) rfl)) (hw _ (List.mem_of_getElem? (i := 31) rfl)) (hw _ (List.mem_of_getElem? (i := 32) rfl)) (hw _ (List.mem_of_getElem? (i := 33) rfl)) (by decide) (by decide) (by decide) rfl rfl (by decide) (by decide) (lenOf pd_3 rfl) rfl (by first | decide | exact Nat.le_of_eq rfl) rfl at_118 rfl rfl ?_
            intro T21 h21 X21 qq21
            rw [show h21 = h17 from qq21] at X21
            refine own_lload X21 (pc' := 123) at_121 rfl rfl ?_
            refine own_lcmp X21 (pc' := 124) at_123 rfl ?_
            refine own_ifl_gt X21 (pct := 131) (pc' := 127) at_124 rfl (by decide) (by decide) (fun hc124_22 => ?_) (fun hc124_22 => ?_)
            · refine own_iconst X21 (v := (0 : Int32)) (pc' := 132) at_131 rfl (by decide) ?_
              refine own_istore X21 (pc' := 134) (Ls' := #[.val (.long made), .second, .val (.long hor), .second, .val (.long ex), .second, .val (.long spr), .second, .val (.long ofr), .second, .val (.int flags), .val (.int (0 : Int32)), .val (.int (0 : Int32)), .val (.long v3), .second, .val (.long v15), .second, .val (.long (ex + v15)), .second, .val (.ref ad16), .val (.int (0 : Int32))]) at_132 rfl rfl ?_
              refine own_aload X21 (pc' := 136) at_134 rfl rfl rfl ?_
              refine own_callV X21 (W := 0) (a := ad16) (argsL := []) (rest := []) (S' := [(.int (own_hit (0 : Int32) ((ex + v15) - ex) v3))]) (pc' := 139) (rm5 l Z a0 hw n0 ad16 h17 X21.size made hor ex v3 (ex + v15) (0 : Int32) (0 : Int32) ⟨Ex18, F18_madeNanos, F18_horizonNanos, F18_expectedNanos, F18_spreadNanos, F18_arrivedNanos, F18_hasInterval, F18_errorKept⟩) Ex18 (hw _ (List.mem_of_getElem? (i := 34) rfl)) (hw _ (List.mem_of_getElem? (i := 35) rfl)) (hw _ (List.mem_of_getElem? (i := 37) rfl)) (hw _ (List.mem_of_getElem? (i := 36) rfl)) (hw _ (List.mem_of_getElem? (i := 3) rfl)) (hw _ (List.mem_of_getElem? (i := 38) rfl)) (by decide) (by decide) (by decide) rfl rfl (by decide) (by decide) (lenOf pd_2 rfl) rfl (by first | decide | exact Nat.le_of_eq rfl) rfl at_136 rfl rfl ?_
              intro T23 h23 X23 qq23
              rw [show h23 = h17 from qq23] at X23
              refine own_iload X23 (pc' := 141) at_139 rfl rfl ?_
              refine own_if_eq X23 (pct := 153) (pc' := 144) at_141 rfl (by decide) (by decide) (fun _ => ?_) (fun hc => absurd hc (by decide))
              refine own_iconst X23 (v := (0 : Int32)) (pc' := 154) at_153 rfl (by decide) ?_
              refine own_icmp_ne X23 (pct := 161) (pc' := 157) at_154 rfl (by decide) (by decide) (fun hc => absurd hc (fun q => q (own_h0 _ _ _))) (fun _ => ?_)
              refine own_iconst X23 (v := (1 : Int32)) (pc' := 158) at_157 rfl (by decide) ?_
              refine own_goto X23 (pc' := 162) at_158 (by decide) (by decide) ?_
              subst hΦ
              exact own_retZ X23 at_162 (by decide) (by decide) (by decide) rfl trivial
            · refine own_iconst X21 (v := (1 : Int32)) (pc' := 128) at_127 rfl (by decide) ?_
              refine own_goto X21 (pc' := 132) at_128 (by decide) (by decide) ?_
              refine own_istore X21 (pc' := 134) (Ls' := #[.val (.long made), .second, .val (.long hor), .second, .val (.long ex), .second, .val (.long spr), .second, .val (.long ofr), .second, .val (.int flags), .val (.int (0 : Int32)), .val (.int (0 : Int32)), .val (.long v3), .second, .val (.long v15), .second, .val (.long (ex + v15)), .second, .val (.ref ad16), .val (.int (1 : Int32))]) at_132 rfl rfl ?_
              refine own_aload X21 (pc' := 136) at_134 rfl rfl rfl ?_
              refine own_callV X21 (W := 0) (a := ad16) (argsL := []) (rest := []) (S' := [(.int (own_hit (0 : Int32) ((ex + v15) - ex) v3))]) (pc' := 139) (rm5 l Z a0 hw n0 ad16 h17 X21.size made hor ex v3 (ex + v15) (0 : Int32) (0 : Int32) ⟨Ex18, F18_madeNanos, F18_horizonNanos, F18_expectedNanos, F18_spreadNanos, F18_arrivedNanos, F18_hasInterval, F18_errorKept⟩) Ex18 (hw _ (List.mem_of_getElem? (i := 34) rfl)) (hw _ (List.mem_of_getElem? (i := 35) rfl)) (hw _ (List.mem_of_getElem? (i := 37) rfl)) (hw _ (List.mem_of_getElem? (i := 36) rfl)) (hw _ (List.mem_of_getElem? (i := 3) rfl)) (hw _ (List.mem_of_getElem? (i := 38) rfl)) (by decide) (by decide) (by decide) rfl rfl (by decide) (by decide) (lenOf pd_2 rfl) rfl (by first | decide | exact Nat.le_of_eq rfl) rfl at_136 rfl rfl ?_
              intro T24 h24 X24 qq24
              rw [show h24 = h17 from qq24] at X24
              refine own_iload X24 (pc' := 141) at_139 rfl rfl ?_
              refine own_if_eq X24 (pct := 153) (pc' := 144) at_141 rfl (by decide) (by decide) (fun _ => ?_) (fun hc => absurd hc (by decide))
              refine own_iconst X24 (v := (0 : Int32)) (pc' := 154) at_153 rfl (by decide) ?_
              refine own_icmp_ne X24 (pct := 161) (pc' := 157) at_154 rfl (by decide) (by decide) (fun hc => absurd hc (fun q => q (own_h0 _ _ _))) (fun _ => ?_)
              refine own_iconst X24 (v := (1 : Int32)) (pc' := 158) at_157 rfl (by decide) ?_
              refine own_goto X24 (pc' := 162) at_158 (by decide) (by decide) ?_
              subst hΦ
              exact own_retZ X24 at_162 (by decide) (by decide) (by decide) rfl trivial
        · refine own_lload X (pc' := 57) at_55 rfl rfl ?_
          refine own_goto X (pc' := 63) at_57 (by decide) (by decide) ?_
          refine own_lstore X (pc' := 65) (Ls' := #[.val (.long made), .second, .val (.long hor), .second, .val (.long ex), .second, .val (.long spr), .second, .val (.long ofr), .second, .val (.int flags), .val (.int (0 : Int32)), .val (.int (0 : Int32)), .val (.long v3), .second, .val (.long ofr), .second, .val (.long v3), .second, .unset, .unset]) at_63 rfl rfl ?_
          refine own_lload X (pc' := 67) at_65 rfl rfl ?_
          refine own_iload X (pc' := 69) at_67 rfl rfl ?_
          refine own_iconst X (v := (4 : Int32)) (pc' := 70) at_69 rfl (by decide) ?_
          refine own_iushr X (r := ((flags.toUInt32 >>> ((4 : Int32) &&& 31).toUInt32).toInt32)) (pc' := 71) at_70 rfl rfl ?_
          refine own_iconst X (v := (3 : Int32)) (pc' := 72) at_71 rfl (by decide) ?_
          refine own_iand X (r := (((flags.toUInt32 >>> ((4 : Int32) &&& 31).toUInt32).toInt32) &&& (3 : Int32))) (pc' := 73) at_72 rfl rfl ?_
          refine own_iconst X (v := (1 : Int32)) (pc' := 74) at_73 rfl (by decide) ?_
          refine own_isub X (r := ((((flags.toUInt32 >>> ((4 : Int32) &&& 31).toUInt32).toInt32) &&& (3 : Int32)) - (1 : Int32))) (pc' := 75) at_74 rfl rfl ?_
          refine own_i2l X (r := (((((flags.toUInt32 >>> ((4 : Int32) &&& 31).toUInt32).toInt32) &&& (3 : Int32)) - (1 : Int32)).toInt64)) (pc' := 76) at_75 rfl rfl ?_
          refine own_ladd X (r := (v3 + (((((flags.toUInt32 >>> ((4 : Int32) &&& 31).toUInt32).toInt32) &&& (3 : Int32)) - (1 : Int32)).toInt64))) (pc' := 77) at_76 rfl rfl ?_
          refine own_lstore X (pc' := 79) (Ls' := #[.val (.long made), .second, .val (.long hor), .second, .val (.long ex), .second, .val (.long spr), .second, .val (.long ofr), .second, .val (.int flags), .val (.int (0 : Int32)), .val (.int (0 : Int32)), .val (.long v3), .second, .val (.long (v3 + (((((flags.toUInt32 >>> ((4 : Int32) &&& 31).toUInt32).toInt32) &&& (3 : Int32)) - (1 : Int32)).toInt64))), .second, .val (.long v3), .second, .unset, .unset]) at_77 rfl rfl ?_
          generalize e25 : (v3 + (((((flags.toUInt32 >>> ((4 : Int32) &&& 31).toUInt32).toInt32) &&& (3 : Int32)) - (1 : Int32)).toInt64)) = v25
          refine own_lload X (pc' := 81) at_79 rfl rfl ?_
          refine own_lload X (pc' := 83) at_81 rfl rfl ?_
          refine own_ladd X (r := (ex + v25)) (pc' := 84) at_83 rfl rfl ?_
          refine own_lstore X (pc' := 86) (Ls' := #[.val (.long made), .second, .val (.long hor), .second, .val (.long ex), .second, .val (.long spr), .second, .val (.long ofr), .second, .val (.int flags), .val (.int (0 : Int32)), .val (.int (0 : Int32)), .val (.long v3), .second, .val (.long v25), .second, .val (.long (ex + v25)), .second, .unset, .unset]) at_84 rfl rfl ?_
          refine own_new X (pc' := 89) (hw _ (List.mem_of_getElem? (i := 1) rfl)) (hw _ (List.mem_of_getElem? (i := 2) rfl)) (hw _ (List.mem_of_getElem? (i := 3) rfl)) at_86 rfl (by decide) (by decide) ?_
          intro T26 h26 ad26 X26 ge_ad26 g_ad26 E26 Ex26 D26
          have F26_madeNanos : Fld Z h26 ad26 "dev/tidemark/engine/Estimate" "madeNanos" "J" (.long (0 : Int64)) := D26 (Or.inr (hw _ (List.mem_of_getElem? (i := 16) rfl))) (ty := .long) (by decide)
          have F26_horizonNanos : Fld Z h26 ad26 "dev/tidemark/engine/Estimate" "horizonNanos" "J" (.long (0 : Int64)) := D26 (Or.inr (hw _ (List.mem_of_getElem? (i := 18) rfl))) (ty := .long) (by decide)
          have F26_expectedNanos : Fld Z h26 ad26 "dev/tidemark/engine/Estimate" "expectedNanos" "J" (.long (0 : Int64)) := D26 (Or.inr (hw _ (List.mem_of_getElem? (i := 20) rfl))) (ty := .long) (by decide)
          have F26_spreadNanos : Fld Z h26 ad26 "dev/tidemark/engine/Estimate" "spreadNanos" "J" (.long (0 : Int64)) := D26 (Or.inr (hw _ (List.mem_of_getElem? (i := 22) rfl))) (ty := .long) (by decide)
          have F26_arrivedNanos : Fld Z h26 ad26 "dev/tidemark/engine/Estimate" "arrivedNanos" "J" (.long (0 : Int64)) := D26 (Or.inr (hw _ (List.mem_of_getElem? (i := 24) rfl))) (ty := .long) (by decide)
          have F26_hasInterval : Fld Z h26 ad26 "dev/tidemark/engine/Estimate" "hasInterval" "Z" (.int (0 : Int32)) := D26 (Or.inr (hw _ (List.mem_of_getElem? (i := 26) rfl))) (ty := .boolean) (by decide)
          have F26_errorKept : Fld Z h26 ad26 "dev/tidemark/engine/Estimate" "errorKept" "Z" (.int (0 : Int32)) := D26 (Or.inr (hw _ (List.mem_of_getElem? (i := 28) rfl))) (ty := .boolean) (by decide)
          refine own_dup X26 (pc' := 90) at_89 rfl rfl ?_
          refine own_lloadN X26 (pc' := 91) at_90 rfl rfl ?_
          refine own_lloadN X26 (pc' := 92) at_91 rfl rfl ?_
          refine own_lload X26 (pc' := 94) at_92 rfl rfl ?_
          refine own_lload X26 (pc' := 96) at_94 rfl rfl ?_
          refine own_lload X26 (pc' := 98) at_96 rfl rfl ?_
          refine own_iload X26 (pc' := 100) at_98 rfl rfl ?_
          refine own_iload X26 (pc' := 102) at_100 rfl rfl ?_
          refine own_callI X26 (W := 1) (a := ad26) (argsL := [(.long made), (.long hor), (.long ex), (.long v3), (.long (ex + v25)), (.int (0 : Int32)), (.int (0 : Int32))]) (rest := [(.ref ad26)]) (S' := [(.ref ad26)]) (pc' := 105) (rm1_00 l Z a0 hw n0 ad26 made hor ex v3 (ex + v25) h26 X26.size ⟨Ex26, F26_madeNanos, F26_horizonNanos, F26_expectedNanos, F26_spreadNanos, F26_arrivedNanos, F26_hasInterval, F26_errorKept⟩ ge_ad26) rfl (hw _ (List.mem_of_getElem? (i := 4) rfl)) (hw _ (List.mem_of_getElem? (i := 5) rfl)) (hw _ (List.mem_of_getElem? (i := 3) rfl)) (hw _ (List.mem_of_getElem? (i := 6) rfl)) (by decide) (by decide) (by decide) rfl rfl (by decide) (by decide) (lenOf pd_1 rfl) rfl (by first | decide | exact Nat.le_of_eq rfl) rfl at_102 rfl rfl ?_
          intro T27 h27 X27 qq27
          obtain ⟨⟨Ex28, F28_madeNanos, F28_horizonNanos, F28_expectedNanos, F28_spreadNanos, F28_arrivedNanos, F28_hasInterval, F28_errorKept⟩, K28⟩ := qq27
          refine own_astore X27 (pc' := 107) (Ls' := #[.val (.long made), .second, .val (.long hor), .second, .val (.long ex), .second, .val (.long spr), .second, .val (.long ofr), .second, .val (.int flags), .val (.int (0 : Int32)), .val (.int (0 : Int32)), .val (.long v3), .second, .val (.long v25), .second, .val (.long (ex + v25)), .second, .val (.ref ad26), .unset]) at_105 rfl rfl rfl ?_
          refine own_lload X27 (pc' := 109) at_107 rfl rfl ?_
          refine own_ldc2 X27 (pc' := 112) (hw _ (List.mem_of_getElem? (i := 29) rfl)) at_109 rfl ?_
          refine own_lcmp X27 (pc' := 113) at_112 rfl ?_
          refine own_ifl_eq X27 (pct := 131) (pc' := 116) at_113 rfl (by decide) (by decide) (fun hc113_29 => ?_) (fun hc113_29 => ?_)
          · refine own_iconst X27 (v := (0 : Int32)) (pc' := 132) at_131 rfl (by decide) ?_
            refine own_istore X27 (pc' := 134) (Ls' := #[.val (.long made), .second, .val (.long hor), .second, .val (.long ex), .second, .val (.long spr), .second, .val (.long ofr), .second, .val (.int flags), .val (.int (0 : Int32)), .val (.int (0 : Int32)), .val (.long v3), .second, .val (.long v25), .second, .val (.long (ex + v25)), .second, .val (.ref ad26), .val (.int (0 : Int32))]) at_132 rfl rfl ?_
            refine own_aload X27 (pc' := 136) at_134 rfl rfl rfl ?_
            refine own_callV X27 (W := 0) (a := ad26) (argsL := []) (rest := []) (S' := [(.int (own_hit (0 : Int32) ((ex + v25) - ex) v3))]) (pc' := 139) (rm5 l Z a0 hw n0 ad26 h27 X27.size made hor ex v3 (ex + v25) (0 : Int32) (0 : Int32) ⟨Ex28, F28_madeNanos, F28_horizonNanos, F28_expectedNanos, F28_spreadNanos, F28_arrivedNanos, F28_hasInterval, F28_errorKept⟩) Ex28 (hw _ (List.mem_of_getElem? (i := 34) rfl)) (hw _ (List.mem_of_getElem? (i := 35) rfl)) (hw _ (List.mem_of_getElem? (i := 37) rfl)) (hw _ (List.mem_of_getElem? (i := 36) rfl)) (hw _ (List.mem_of_getElem? (i := 3) rfl)) (hw _ (List.mem_of_getElem? (i := 38) rfl)) (by decide) (by decide) (by decide) rfl rfl (by decide) (by decide) (lenOf pd_2 rfl) rfl (by first | decide | exact Nat.le_of_eq rfl) rfl at_136 rfl rfl ?_
            intro T30 h30 X30 qq30
            rw [show h30 = h27 from qq30] at X30
            refine own_iload X30 (pc' := 141) at_139 rfl rfl ?_
            refine own_if_eq X30 (pct := 153) (pc' := 144) at_141 rfl (by decide) (by decide) (fun _ => ?_) (fun hc => absurd hc (by decide))
            refine own_iconst X30 (v := (0 : Int32)) (pc' := 154) at_153 rfl (by decide) ?_
            refine own_icmp_ne X30 (pct := 161) (pc' := 157) at_154 rfl (by decide) (by decide) (fun hc => absurd hc (fun q => q (own_h0 _ _ _))) (fun _ => ?_)
            refine own_iconst X30 (v := (1 : Int32)) (pc' := 158) at_157 rfl (by decide) ?_
            refine own_goto X30 (pc' := 162) at_158 (by decide) (by decide) ?_
            subst hΦ
            exact own_retZ X30 at_162 (by decide) (by decide) (by decide) rfl trivial
          · refine own_lload X27 (pc' := 118) at_116 rfl rfl ?_
            refine own_callS X27 (W := 0) (argsL := [(.long v25)]) (rest := []) (S' := [(.long (own_abs v25))]) (pc' := 121) (rm4 l Z a0 hw n0 v25 h27 X27.size) (hw _ (List.mem_of_getElem? (i := 30) rfl)) (hw _ (List.mem_of_getElem? (i := 31) rfl)) (hw _ (List.mem_of_getElem? (i := 32) rfl)) (hw _ (List.mem_of_getElem? (i := 33) rfl)) (by decide) (by decide) (by decide) rfl rfl (by decide) (by decide) (lenOf pd_3 rfl) rfl (by first | decide | exact Nat.le_of_eq rfl) rfl at_118 rfl rfl ?_
            intro T31 h31 X31 qq31
            rw [show h31 = h27 from qq31] at X31
            refine own_lload X31 (pc' := 123) at_121 rfl rfl ?_
            refine own_lcmp X31 (pc' := 124) at_123 rfl ?_
            refine own_ifl_gt X31 (pct := 131) (pc' := 127) at_124 rfl (by decide) (by decide) (fun hc124_32 => ?_) (fun hc124_32 => ?_)
            · refine own_iconst X31 (v := (0 : Int32)) (pc' := 132) at_131 rfl (by decide) ?_
              refine own_istore X31 (pc' := 134) (Ls' := #[.val (.long made), .second, .val (.long hor), .second, .val (.long ex), .second, .val (.long spr), .second, .val (.long ofr), .second, .val (.int flags), .val (.int (0 : Int32)), .val (.int (0 : Int32)), .val (.long v3), .second, .val (.long v25), .second, .val (.long (ex + v25)), .second, .val (.ref ad26), .val (.int (0 : Int32))]) at_132 rfl rfl ?_
              refine own_aload X31 (pc' := 136) at_134 rfl rfl rfl ?_
              refine own_callV X31 (W := 0) (a := ad26) (argsL := []) (rest := []) (S' := [(.int (own_hit (0 : Int32) ((ex + v25) - ex) v3))]) (pc' := 139) (rm5 l Z a0 hw n0 ad26 h27 X31.size made hor ex v3 (ex + v25) (0 : Int32) (0 : Int32) ⟨Ex28, F28_madeNanos, F28_horizonNanos, F28_expectedNanos, F28_spreadNanos, F28_arrivedNanos, F28_hasInterval, F28_errorKept⟩) Ex28 (hw _ (List.mem_of_getElem? (i := 34) rfl)) (hw _ (List.mem_of_getElem? (i := 35) rfl)) (hw _ (List.mem_of_getElem? (i := 37) rfl)) (hw _ (List.mem_of_getElem? (i := 36) rfl)) (hw _ (List.mem_of_getElem? (i := 3) rfl)) (hw _ (List.mem_of_getElem? (i := 38) rfl)) (by decide) (by decide) (by decide) rfl rfl (by decide) (by decide) (lenOf pd_2 rfl) rfl (by first | decide | exact Nat.le_of_eq rfl) rfl at_136 rfl rfl ?_
              intro T33 h33 X33 qq33
              rw [show h33 = h27 from qq33] at X33
              refine own_iload X33 (pc' := 141) at_139 rfl rfl ?_
              refine own_if_eq X33 (pct := 153) (pc' := 144) at_141 rfl (by decide) (by decide) (fun _ => ?_) (fun hc => absurd hc (by decide))
              refine own_iconst X33 (v := (0 : Int32)) (pc' := 154) at_153 rfl (by decide) ?_
              refine own_icmp_ne X33 (pct := 161) (pc' := 157) at_154 rfl (by decide) (by decide) (fun hc => absurd hc (fun q => q (own_h0 _ _ _))) (fun _ => ?_)
              refine own_iconst X33 (v := (1 : Int32)) (pc' := 158) at_157 rfl (by decide) ?_
              refine own_goto X33 (pc' := 162) at_158 (by decide) (by decide) ?_
              subst hΦ
              exact own_retZ X33 at_162 (by decide) (by decide) (by decide) rfl trivial
            · refine own_iconst X31 (v := (1 : Int32)) (pc' := 128) at_127 rfl (by decide) ?_
              refine own_goto X31 (pc' := 132) at_128 (by decide) (by decide) ?_
              refine own_istore X31 (pc' := 134) (Ls' := #[.val (.long made), .second, .val (.long hor), .second, .val (.long ex), .second, .val (.long spr), .second, .val (.long ofr), .second, .val (.int flags), .val (.int (0 : Int32)), .val (.int (0 : Int32)), .val (.long v3), .second, .val (.long v25), .second, .val (.long (ex + v25)), .second, .val (.ref ad26), .val (.int (1 : Int32))]) at_132 rfl rfl ?_
              refine own_aload X31 (pc' := 136) at_134 rfl rfl rfl ?_
              refine own_callV X31 (W := 0) (a := ad26) (argsL := []) (rest := []) (S' := [(.int (own_hit (0 : Int32) ((ex + v25) - ex) v3))]) (pc' := 139) (rm5 l Z a0 hw n0 ad26 h27 X31.size made hor ex v3 (ex + v25) (0 : Int32) (0 : Int32) ⟨Ex28, F28_madeNanos, F28_horizonNanos, F28_expectedNanos, F28_spreadNanos, F28_arrivedNanos, F28_hasInterval, F28_errorKept⟩) Ex28 (hw _ (List.mem_of_getElem? (i := 34) rfl)) (hw _ (List.mem_of_getElem? (i := 35) rfl)) (hw _ (List.mem_of_getElem? (i := 37) rfl)) (hw _ (List.mem_of_getElem? (i := 36) rfl)) (hw _ (List.mem_of_getElem? (i := 3) rfl)) (hw _ (List.mem_of_getElem? (i := 38) rfl)) (by decide) (by decide) (by decide) rfl rfl (by decide) (by decide) (lenOf pd_2 rfl) rfl (by first | decide | exact Nat.le_of_eq rfl) rfl at_136 rfl rfl ?_
              intro T34 h34 X34 qq34
              rw [show h34 = h27 from qq34] at X34
              refine own_iload X34 (pc' := 141) at_139 rfl rfl ?_
              refine own_if_eq X34 (pct := 153) (pc' := 144) at_141 rfl (by decide) (by decide) (fun _ => ?_) (fun hc => absurd hc (by decide))
              refine own_iconst X34 (v := (0 : Int32)) (pc' := 154) at_153 rfl (by decide) ?_
              refine own_icmp_ne X34 (pct := 161) (pc' := 157) at_154 rfl (by decide) (by decide) (fun hc => absurd hc (fun q => q (own_h0 _ _ _))) (fun _ => ?_)
              refine own_iconst X34 (v := (1 : Int32)) (pc' := 158) at_157 rfl (by decide) ?_
              refine own_goto X34 (pc' := 162) at_158 (by decide) (by decide) ?_
              subst hΦ
              exact own_retZ X34 at_162 (by decide) (by decide) (by decide) rfl trivial
    · refine own_iconst X (v := (1 : Int32)) (pc' := 22) at_21 rfl (by decide) ?_
      refine own_goto X (pc' := 26) at_22 (by decide) (by decide) ?_
      refine own_istore X (pc' := 28) (Ls' := #[.val (.long made), .second, .val (.long hor), .second, .val (.long ex), .second, .val (.long spr), .second, .val (.long ofr), .second, .val (.int flags), .val (.int (0 : Int32)), .val (.int (1 : Int32)), .unset, .unset, .unset, .unset, .unset, .unset, .unset, .unset]) at_26 rfl rfl ?_
      refine own_lload X (pc' := 30) at_28 rfl rfl ?_
      refine own_ldc2 X (pc' := 33) (hw _ (List.mem_of_getElem? (i := 0) rfl)) at_30 rfl ?_
      refine own_land X (r := (spr &&& (9223372036854775807 : Int64))) (pc' := 34) at_33 rfl rfl ?_
      refine own_lstore X (pc' := 36) (Ls' := #[.val (.long made), .second, .val (.long hor), .second, .val (.long ex), .second, .val (.long spr), .second, .val (.long ofr), .second, .val (.int flags), .val (.int (0 : Int32)), .val (.int (1 : Int32)), .val (.long (spr &&& (9223372036854775807 : Int64))), .second, .unset, .unset, .unset, .unset, .unset, .unset]) at_34 rfl rfl ?_
      generalize e35 : (spr &&& (9223372036854775807 : Int64)) = v35
      have hs : 0 ≤ v35.toInt := by rw [← e35]; exact own_sp _
      refine own_lload X (pc' := 38) at_36 rfl rfl ?_
      refine own_lstore X (pc' := 40) (Ls' := #[.val (.long made), .second, .val (.long hor), .second, .val (.long ex), .second, .val (.long spr), .second, .val (.long ofr), .second, .val (.int flags), .val (.int (0 : Int32)), .val (.int (1 : Int32)), .val (.long v35), .second, .val (.long ofr), .second, .unset, .unset, .unset, .unset]) at_38 rfl rfl ?_
      refine own_iload X (pc' := 42) at_40 rfl rfl ?_
      refine own_iconst X (v := (4 : Int32)) (pc' := 43) at_42 rfl (by decide) ?_
      refine own_iand X (r := (flags &&& (4 : Int32))) (pc' := 44) at_43 rfl rfl ?_
      refine own_if_eq X (pct := 79) (pc' := 47) at_44 rfl (by decide) (by decide) (fun hc44_36 => ?_) (fun hc44_36 => ?_)
      · refine own_lload X (pc' := 81) at_79 rfl rfl ?_
        refine own_lload X (pc' := 83) at_81 rfl rfl ?_
        refine own_ladd X (r := (ex + ofr)) (pc' := 84) at_83 rfl rfl ?_
        refine own_lstore X (pc' := 86) (Ls' := #[.val (.long made), .second, .val (.long hor), .second, .val (.long ex), .second, .val (.long spr), .second, .val (.long ofr), .second, .val (.int flags), .val (.int (0 : Int32)), .val (.int (1 : Int32)), .val (.long v35), .second, .val (.long ofr), .second, .val (.long (ex + ofr)), .second, .unset, .unset]) at_84 rfl rfl ?_
        refine own_new X (pc' := 89) (hw _ (List.mem_of_getElem? (i := 1) rfl)) (hw _ (List.mem_of_getElem? (i := 2) rfl)) (hw _ (List.mem_of_getElem? (i := 3) rfl)) at_86 rfl (by decide) (by decide) ?_
        intro T37 h37 ad37 X37 ge_ad37 g_ad37 E37 Ex37 D37
        have F37_madeNanos : Fld Z h37 ad37 "dev/tidemark/engine/Estimate" "madeNanos" "J" (.long (0 : Int64)) := D37 (Or.inr (hw _ (List.mem_of_getElem? (i := 16) rfl))) (ty := .long) (by decide)
        have F37_horizonNanos : Fld Z h37 ad37 "dev/tidemark/engine/Estimate" "horizonNanos" "J" (.long (0 : Int64)) := D37 (Or.inr (hw _ (List.mem_of_getElem? (i := 18) rfl))) (ty := .long) (by decide)
        have F37_expectedNanos : Fld Z h37 ad37 "dev/tidemark/engine/Estimate" "expectedNanos" "J" (.long (0 : Int64)) := D37 (Or.inr (hw _ (List.mem_of_getElem? (i := 20) rfl))) (ty := .long) (by decide)
        have F37_spreadNanos : Fld Z h37 ad37 "dev/tidemark/engine/Estimate" "spreadNanos" "J" (.long (0 : Int64)) := D37 (Or.inr (hw _ (List.mem_of_getElem? (i := 22) rfl))) (ty := .long) (by decide)
        have F37_arrivedNanos : Fld Z h37 ad37 "dev/tidemark/engine/Estimate" "arrivedNanos" "J" (.long (0 : Int64)) := D37 (Or.inr (hw _ (List.mem_of_getElem? (i := 24) rfl))) (ty := .long) (by decide)
        have F37_hasInterval : Fld Z h37 ad37 "dev/tidemark/engine/Estimate" "hasInterval" "Z" (.int (0 : Int32)) := D37 (Or.inr (hw _ (List.mem_of_getElem? (i := 26) rfl))) (ty := .boolean) (by decide)
        have F37_errorKept : Fld Z h37 ad37 "dev/tidemark/engine/Estimate" "errorKept" "Z" (.int (0 : Int32)) := D37 (Or.inr (hw _ (List.mem_of_getElem? (i := 28) rfl))) (ty := .boolean) (by decide)
        refine own_dup X37 (pc' := 90) at_89 rfl rfl ?_
        refine own_lloadN X37 (pc' := 91) at_90 rfl rfl ?_
        refine own_lloadN X37 (pc' := 92) at_91 rfl rfl ?_
        refine own_lload X37 (pc' := 94) at_92 rfl rfl ?_
        refine own_lload X37 (pc' := 96) at_94 rfl rfl ?_
        refine own_lload X37 (pc' := 98) at_96 rfl rfl ?_
        refine own_iload X37 (pc' := 100) at_98 rfl rfl ?_
        refine own_iload X37 (pc' := 102) at_100 rfl rfl ?_
        refine own_callI X37 (W := 1) (a := ad37) (argsL := [(.long made), (.long hor), (.long ex), (.long v35), (.long (ex + ofr)), (.int (0 : Int32)), (.int (1 : Int32))]) (rest := [(.ref ad37)]) (S' := [(.ref ad37)]) (pc' := 105) (rm1_01 l Z a0 hw n0 ad37 made hor ex v35 (ex + ofr) h37 X37.size ⟨Ex37, F37_madeNanos, F37_horizonNanos, F37_expectedNanos, F37_spreadNanos, F37_arrivedNanos, F37_hasInterval, F37_errorKept⟩ ge_ad37) rfl (hw _ (List.mem_of_getElem? (i := 4) rfl)) (hw _ (List.mem_of_getElem? (i := 5) rfl)) (hw _ (List.mem_of_getElem? (i := 3) rfl)) (hw _ (List.mem_of_getElem? (i := 6) rfl)) (by decide) (by decide) (by decide) rfl rfl (by decide) (by decide) (lenOf pd_1 rfl) rfl (by first | decide | exact Nat.le_of_eq rfl) rfl at_102 rfl rfl ?_
        intro T38 h38 X38 qq38
        obtain ⟨⟨Ex39, F39_madeNanos, F39_horizonNanos, F39_expectedNanos, F39_spreadNanos, F39_arrivedNanos, F39_hasInterval, F39_errorKept⟩, K39⟩ := qq38
        refine own_astore X38 (pc' := 107) (Ls' := #[.val (.long made), .second, .val (.long hor), .second, .val (.long ex), .second, .val (.long spr), .second, .val (.long ofr), .second, .val (.int flags), .val (.int (0 : Int32)), .val (.int (1 : Int32)), .val (.long v35), .second, .val (.long ofr), .second, .val (.long (ex + ofr)), .second, .val (.ref ad37), .unset]) at_105 rfl rfl rfl ?_
        refine own_lload X38 (pc' := 109) at_107 rfl rfl ?_
        refine own_ldc2 X38 (pc' := 112) (hw _ (List.mem_of_getElem? (i := 29) rfl)) at_109 rfl ?_
        refine own_lcmp X38 (pc' := 113) at_112 rfl ?_
        refine own_ifl_eq X38 (pct := 131) (pc' := 116) at_113 rfl (by decide) (by decide) (fun hc113_40 => ?_) (fun hc113_40 => ?_)
        · refine own_iconst X38 (v := (0 : Int32)) (pc' := 132) at_131 rfl (by decide) ?_
          refine own_istore X38 (pc' := 134) (Ls' := #[.val (.long made), .second, .val (.long hor), .second, .val (.long ex), .second, .val (.long spr), .second, .val (.long ofr), .second, .val (.int flags), .val (.int (0 : Int32)), .val (.int (1 : Int32)), .val (.long v35), .second, .val (.long ofr), .second, .val (.long (ex + ofr)), .second, .val (.ref ad37), .val (.int (0 : Int32))]) at_132 rfl rfl ?_
          refine own_aload X38 (pc' := 136) at_134 rfl rfl rfl ?_
          refine own_callV X38 (W := 0) (a := ad37) (argsL := []) (rest := []) (S' := [(.int (own_hit (0 : Int32) ((ex + ofr) - ex) v35))]) (pc' := 139) (rm5 l Z a0 hw n0 ad37 h38 X38.size made hor ex v35 (ex + ofr) (0 : Int32) (1 : Int32) ⟨Ex39, F39_madeNanos, F39_horizonNanos, F39_expectedNanos, F39_spreadNanos, F39_arrivedNanos, F39_hasInterval, F39_errorKept⟩) Ex39 (hw _ (List.mem_of_getElem? (i := 34) rfl)) (hw _ (List.mem_of_getElem? (i := 35) rfl)) (hw _ (List.mem_of_getElem? (i := 37) rfl)) (hw _ (List.mem_of_getElem? (i := 36) rfl)) (hw _ (List.mem_of_getElem? (i := 3) rfl)) (hw _ (List.mem_of_getElem? (i := 38) rfl)) (by decide) (by decide) (by decide) rfl rfl (by decide) (by decide) (lenOf pd_2 rfl) rfl (by first | decide | exact Nat.le_of_eq rfl) rfl at_136 rfl rfl ?_
          intro T41 h41 X41 qq41
          rw [show h41 = h38 from qq41] at X41
          refine own_iload X41 (pc' := 141) at_139 rfl rfl ?_
          refine own_if_eq X41 (pct := 153) (pc' := 144) at_141 rfl (by decide) (by decide) (fun _ => ?_) (fun hc => absurd hc (by decide))
          refine own_iconst X41 (v := (0 : Int32)) (pc' := 154) at_153 rfl (by decide) ?_
          refine own_icmp_ne X41 (pct := 161) (pc' := 157) at_154 rfl (by decide) (by decide) (fun hc => absurd hc (fun q => q (own_h0 _ _ _))) (fun _ => ?_)
          refine own_iconst X41 (v := (1 : Int32)) (pc' := 158) at_157 rfl (by decide) ?_
          refine own_goto X41 (pc' := 162) at_158 (by decide) (by decide) ?_
          subst hΦ
          exact own_retZ X41 at_162 (by decide) (by decide) (by decide) rfl trivial
        · refine own_lload X38 (pc' := 118) at_116 rfl rfl ?_
          refine own_callS X38 (W := 0) (argsL := [(.long ofr)]) (rest := []) (S' := [(.long (own_abs ofr))]) (pc' := 121) (rm4 l Z a0 hw n0 ofr h38 X38.size) (hw _ (List.mem_of_getElem? (i := 30) rfl)) (hw _ (List.mem_of_getElem? (i := 31) rfl)) (hw _ (List.mem_of_getElem? (i := 32) rfl)) (hw _ (List.mem_of_getElem? (i := 33) rfl)) (by decide) (by decide) (by decide) rfl rfl (by decide) (by decide) (lenOf pd_3 rfl) rfl (by first | decide | exact Nat.le_of_eq rfl) rfl at_118 rfl rfl ?_
          intro T42 h42 X42 qq42
          rw [show h42 = h38 from qq42] at X42
          refine own_lload X42 (pc' := 123) at_121 rfl rfl ?_
          refine own_lcmp X42 (pc' := 124) at_123 rfl ?_
          refine own_ifl_gt X42 (pct := 131) (pc' := 127) at_124 rfl (by decide) (by decide) (fun hc124_43 => ?_) (fun hc124_43 => ?_)
          · refine own_iconst X42 (v := (0 : Int32)) (pc' := 132) at_131 rfl (by decide) ?_
            refine own_istore X42 (pc' := 134) (Ls' := #[.val (.long made), .second, .val (.long hor), .second, .val (.long ex), .second, .val (.long spr), .second, .val (.long ofr), .second, .val (.int flags), .val (.int (0 : Int32)), .val (.int (1 : Int32)), .val (.long v35), .second, .val (.long ofr), .second, .val (.long (ex + ofr)), .second, .val (.ref ad37), .val (.int (0 : Int32))]) at_132 rfl rfl ?_
            refine own_aload X42 (pc' := 136) at_134 rfl rfl rfl ?_
            refine own_callV X42 (W := 0) (a := ad37) (argsL := []) (rest := []) (S' := [(.int (own_hit (0 : Int32) ((ex + ofr) - ex) v35))]) (pc' := 139) (rm5 l Z a0 hw n0 ad37 h38 X42.size made hor ex v35 (ex + ofr) (0 : Int32) (1 : Int32) ⟨Ex39, F39_madeNanos, F39_horizonNanos, F39_expectedNanos, F39_spreadNanos, F39_arrivedNanos, F39_hasInterval, F39_errorKept⟩) Ex39 (hw _ (List.mem_of_getElem? (i := 34) rfl)) (hw _ (List.mem_of_getElem? (i := 35) rfl)) (hw _ (List.mem_of_getElem? (i := 37) rfl)) (hw _ (List.mem_of_getElem? (i := 36) rfl)) (hw _ (List.mem_of_getElem? (i := 3) rfl)) (hw _ (List.mem_of_getElem? (i := 38) rfl)) (by decide) (by decide) (by decide) rfl rfl (by decide) (by decide) (lenOf pd_2 rfl) rfl (by first | decide | exact Nat.le_of_eq rfl) rfl at_136 rfl rfl ?_
            intro T44 h44 X44 qq44
            rw [show h44 = h38 from qq44] at X44
            refine own_iload X44 (pc' := 141) at_139 rfl rfl ?_
            refine own_if_eq X44 (pct := 153) (pc' := 144) at_141 rfl (by decide) (by decide) (fun _ => ?_) (fun hc => absurd hc (by decide))
            refine own_iconst X44 (v := (0 : Int32)) (pc' := 154) at_153 rfl (by decide) ?_
            refine own_icmp_ne X44 (pct := 161) (pc' := 157) at_154 rfl (by decide) (by decide) (fun hc => absurd hc (fun q => q (own_h0 _ _ _))) (fun _ => ?_)
            refine own_iconst X44 (v := (1 : Int32)) (pc' := 158) at_157 rfl (by decide) ?_
            refine own_goto X44 (pc' := 162) at_158 (by decide) (by decide) ?_
            subst hΦ
            exact own_retZ X44 at_162 (by decide) (by decide) (by decide) rfl trivial
          · refine own_iconst X42 (v := (1 : Int32)) (pc' := 128) at_127 rfl (by decide) ?_
            refine own_goto X42 (pc' := 132) at_128 (by decide) (by decide) ?_
            refine own_istore X42 (pc' := 134) (Ls' := #[.val (.long made), .second, .val (.long hor), .second, .val (.long ex), .second, .val (.long spr), .second, .val (.long ofr), .second, .val (.int flags), .val (.int (0 : Int32)), .val (.int (1 : Int32)), .val (.long v35), .second, .val (.long ofr), .second, .val (.long (ex + ofr)), .second, .val (.ref ad37), .val (.int (1 : Int32))]) at_132 rfl rfl ?_
            refine own_aload X42 (pc' := 136) at_134 rfl rfl rfl ?_
            refine own_callV X42 (W := 0) (a := ad37) (argsL := []) (rest := []) (S' := [(.int (own_hit (0 : Int32) ((ex + ofr) - ex) v35))]) (pc' := 139) (rm5 l Z a0 hw n0 ad37 h38 X42.size made hor ex v35 (ex + ofr) (0 : Int32) (1 : Int32) ⟨Ex39, F39_madeNanos, F39_horizonNanos, F39_expectedNanos, F39_spreadNanos, F39_arrivedNanos, F39_hasInterval, F39_errorKept⟩) Ex39 (hw _ (List.mem_of_getElem? (i := 34) rfl)) (hw _ (List.mem_of_getElem? (i := 35) rfl)) (hw _ (List.mem_of_getElem? (i := 37) rfl)) (hw _ (List.mem_of_getElem? (i := 36) rfl)) (hw _ (List.mem_of_getElem? (i := 3) rfl)) (hw _ (List.mem_of_getElem? (i := 38) rfl)) (by decide) (by decide) (by decide) rfl rfl (by decide) (by decide) (lenOf pd_2 rfl) rfl (by first | decide | exact Nat.le_of_eq rfl) rfl at_136 rfl rfl ?_
            intro T45 h45 X45 qq45
            rw [show h45 = h38 from qq45] at X45
            refine own_iload X45 (pc' := 141) at_139 rfl rfl ?_
            refine own_if_eq X45 (pct := 153) (pc' := 144) at_141 rfl (by decide) (by decide) (fun _ => ?_) (fun hc => absurd hc (by decide))
            refine own_iconst X45 (v := (0 : Int32)) (pc' := 154) at_153 rfl (by decide) ?_
            refine own_icmp_ne X45 (pct := 161) (pc' := 157) at_154 rfl (by decide) (by decide) (fun hc => absurd hc (fun q => q (own_h0 _ _ _))) (fun _ => ?_)
            refine own_iconst X45 (v := (1 : Int32)) (pc' := 158) at_157 rfl (by decide) ?_
            refine own_goto X45 (pc' := 162) at_158 (by decide) (by decide) ?_
            subst hΦ
            exact own_retZ X45 at_162 (by decide) (by decide) (by decide) rfl trivial
      · refine own_iload X (pc' := 49) at_47 rfl rfl ?_
        refine own_bipush X (v := (8 : Int32)) (pc' := 51) at_49 rfl (by decide) ?_
        refine own_iand X (r := (flags &&& (8 : Int32))) (pc' := 52) at_51 rfl rfl ?_
        refine own_if_eq X (pct := 60) (pc' := 55) at_52 rfl (by decide) (by decide) (fun hc52_46 => ?_) (fun hc52_46 => ?_)
        · refine own_lload X (pc' := 62) at_60 rfl rfl ?_
          refine own_lneg X (r := (-v35)) (pc' := 63) at_62 rfl rfl ?_
          refine own_lstore X (pc' := 65) (Ls' := #[.val (.long made), .second, .val (.long hor), .second, .val (.long ex), .second, .val (.long spr), .second, .val (.long ofr), .second, .val (.int flags), .val (.int (0 : Int32)), .val (.int (1 : Int32)), .val (.long v35), .second, .val (.long ofr), .second, .val (.long (-v35)), .second, .unset, .unset]) at_63 rfl rfl ?_
          refine own_lload X (pc' := 67) at_65 rfl rfl ?_
          refine own_iload X (pc' := 69) at_67 rfl rfl ?_
          refine own_iconst X (v := (4 : Int32)) (pc' := 70) at_69 rfl (by decide) ?_
          refine own_iushr X (r := ((flags.toUInt32 >>> ((4 : Int32) &&& 31).toUInt32).toInt32)) (pc' := 71) at_70 rfl rfl ?_
          refine own_iconst X (v := (3 : Int32)) (pc' := 72) at_71 rfl (by decide) ?_
          refine own_iand X (r := (((flags.toUInt32 >>> ((4 : Int32) &&& 31).toUInt32).toInt32) &&& (3 : Int32))) (pc' := 73) at_72 rfl rfl ?_
          refine own_iconst X (v := (1 : Int32)) (pc' := 74) at_73 rfl (by decide) ?_
          refine own_isub X (r := ((((flags.toUInt32 >>> ((4 : Int32) &&& 31).toUInt32).toInt32) &&& (3 : Int32)) - (1 : Int32))) (pc' := 75) at_74 rfl rfl ?_
          refine own_i2l X (r := (((((flags.toUInt32 >>> ((4 : Int32) &&& 31).toUInt32).toInt32) &&& (3 : Int32)) - (1 : Int32)).toInt64)) (pc' := 76) at_75 rfl rfl ?_
          refine own_ladd X (r := ((-v35) + (((((flags.toUInt32 >>> ((4 : Int32) &&& 31).toUInt32).toInt32) &&& (3 : Int32)) - (1 : Int32)).toInt64))) (pc' := 77) at_76 rfl rfl ?_
          refine own_lstore X (pc' := 79) (Ls' := #[.val (.long made), .second, .val (.long hor), .second, .val (.long ex), .second, .val (.long spr), .second, .val (.long ofr), .second, .val (.int flags), .val (.int (0 : Int32)), .val (.int (1 : Int32)), .val (.long v35), .second, .val (.long ((-v35) + (((((flags.toUInt32 >>> ((4 : Int32) &&& 31).toUInt32).toInt32) &&& (3 : Int32)) - (1 : Int32)).toInt64))), .second, .val (.long (-v35)), .second, .unset, .unset]) at_77 rfl rfl ?_
          generalize e47 : ((-v35) + (((((flags.toUInt32 >>> ((4 : Int32) &&& 31).toUInt32).toInt32) &&& (3 : Int32)) - (1 : Int32)).toInt64)) = v47
          refine own_lload X (pc' := 81) at_79 rfl rfl ?_
          refine own_lload X (pc' := 83) at_81 rfl rfl ?_
          refine own_ladd X (r := (ex + v47)) (pc' := 84) at_83 rfl rfl ?_
          refine own_lstore X (pc' := 86) (Ls' := #[.val (.long made), .second, .val (.long hor), .second, .val (.long ex), .second, .val (.long spr), .second, .val (.long ofr), .second, .val (.int flags), .val (.int (0 : Int32)), .val (.int (1 : Int32)), .val (.long v35), .second, .val (.long v47), .second, .val (.long (ex + v47)), .second, .unset, .unset]) at_84 rfl rfl ?_
          refine own_new X (pc' := 89) (hw _ (List.mem_of_getElem? (i := 1) rfl)) (hw _ (List.mem_of_getElem? (i := 2) rfl)) (hw _ (List.mem_of_getElem? (i := 3) rfl)) at_86 rfl (by decide) (by decide) ?_
          intro T48 h48 ad48 X48 ge_ad48 g_ad48 E48 Ex48 D48
          have F48_madeNanos : Fld Z h48 ad48 "dev/tidemark/engine/Estimate" "madeNanos" "J" (.long (0 : Int64)) := D48 (Or.inr (hw _ (List.mem_of_getElem? (i := 16) rfl))) (ty := .long) (by decide)
          have F48_horizonNanos : Fld Z h48 ad48 "dev/tidemark/engine/Estimate" "horizonNanos" "J" (.long (0 : Int64)) := D48 (Or.inr (hw _ (List.mem_of_getElem? (i := 18) rfl))) (ty := .long) (by decide)
          have F48_expectedNanos : Fld Z h48 ad48 "dev/tidemark/engine/Estimate" "expectedNanos" "J" (.long (0 : Int64)) := D48 (Or.inr (hw _ (List.mem_of_getElem? (i := 20) rfl))) (ty := .long) (by decide)
          have F48_spreadNanos : Fld Z h48 ad48 "dev/tidemark/engine/Estimate" "spreadNanos" "J" (.long (0 : Int64)) := D48 (Or.inr (hw _ (List.mem_of_getElem? (i := 22) rfl))) (ty := .long) (by decide)
          have F48_arrivedNanos : Fld Z h48 ad48 "dev/tidemark/engine/Estimate" "arrivedNanos" "J" (.long (0 : Int64)) := D48 (Or.inr (hw _ (List.mem_of_getElem? (i := 24) rfl))) (ty := .long) (by decide)
          have F48_hasInterval : Fld Z h48 ad48 "dev/tidemark/engine/Estimate" "hasInterval" "Z" (.int (0 : Int32)) := D48 (Or.inr (hw _ (List.mem_of_getElem? (i := 26) rfl))) (ty := .boolean) (by decide)
          have F48_errorKept : Fld Z h48 ad48 "dev/tidemark/engine/Estimate" "errorKept" "Z" (.int (0 : Int32)) := D48 (Or.inr (hw _ (List.mem_of_getElem? (i := 28) rfl))) (ty := .boolean) (by decide)
          refine own_dup X48 (pc' := 90) at_89 rfl rfl ?_
          refine own_lloadN X48 (pc' := 91) at_90 rfl rfl ?_
          refine own_lloadN X48 (pc' := 92) at_91 rfl rfl ?_
          refine own_lload X48 (pc' := 94) at_92 rfl rfl ?_
          refine own_lload X48 (pc' := 96) at_94 rfl rfl ?_
          refine own_lload X48 (pc' := 98) at_96 rfl rfl ?_
          refine own_iload X48 (pc' := 100) at_98 rfl rfl ?_
          refine own_iload X48 (pc' := 102) at_100 rfl rfl ?_
          refine own_callI X48 (W := 1) (a := ad48) (argsL := [(.long made), (.long hor), (.long ex), (.long v35), (.long (ex + v47)), (.int (0 : Int32)), (.int (1 : Int32))]) (rest := [(.ref ad48)]) (S' := [(.ref ad48)]) (pc' := 105) (rm1_01 l Z a0 hw n0 ad48 made hor ex v35 (ex + v47) h48 X48.size ⟨Ex48, F48_madeNanos, F48_horizonNanos, F48_expectedNanos, F48_spreadNanos, F48_arrivedNanos, F48_hasInterval, F48_errorKept⟩ ge_ad48) rfl (hw _ (List.mem_of_getElem? (i := 4) rfl)) (hw _ (List.mem_of_getElem? (i := 5) rfl)) (hw _ (List.mem_of_getElem? (i := 3) rfl)) (hw _ (List.mem_of_getElem? (i := 6) rfl)) (by decide) (by decide) (by decide) rfl rfl (by decide) (by decide) (lenOf pd_1 rfl) rfl (by first | decide | exact Nat.le_of_eq rfl) rfl at_102 rfl rfl ?_
          intro T49 h49 X49 qq49
          obtain ⟨⟨Ex50, F50_madeNanos, F50_horizonNanos, F50_expectedNanos, F50_spreadNanos, F50_arrivedNanos, F50_hasInterval, F50_errorKept⟩, K50⟩ := qq49
          refine own_astore X49 (pc' := 107) (Ls' := #[.val (.long made), .second, .val (.long hor), .second, .val (.long ex), .second, .val (.long spr), .second, .val (.long ofr), .second, .val (.int flags), .val (.int (0 : Int32)), .val (.int (1 : Int32)), .val (.long v35), .second, .val (.long v47), .second, .val (.long (ex + v47)), .second, .val (.ref ad48), .unset]) at_105 rfl rfl rfl ?_
          refine own_lload X49 (pc' := 109) at_107 rfl rfl ?_
          refine own_ldc2 X49 (pc' := 112) (hw _ (List.mem_of_getElem? (i := 29) rfl)) at_109 rfl ?_
          refine own_lcmp X49 (pc' := 113) at_112 rfl ?_
          refine own_ifl_eq X49 (pct := 131) (pc' := 116) at_113 rfl (by decide) (by decide) (fun hc113_51 => ?_) (fun hc113_51 => ?_)
          · refine own_iconst X49 (v := (0 : Int32)) (pc' := 132) at_131 rfl (by decide) ?_
            refine own_istore X49 (pc' := 134) (Ls' := #[.val (.long made), .second, .val (.long hor), .second, .val (.long ex), .second, .val (.long spr), .second, .val (.long ofr), .second, .val (.int flags), .val (.int (0 : Int32)), .val (.int (1 : Int32)), .val (.long v35), .second, .val (.long v47), .second, .val (.long (ex + v47)), .second, .val (.ref ad48), .val (.int (0 : Int32))]) at_132 rfl rfl ?_
            refine own_aload X49 (pc' := 136) at_134 rfl rfl rfl ?_
            refine own_callV X49 (W := 0) (a := ad48) (argsL := []) (rest := []) (S' := [(.int (own_hit (0 : Int32) ((ex + v47) - ex) v35))]) (pc' := 139) (rm5 l Z a0 hw n0 ad48 h49 X49.size made hor ex v35 (ex + v47) (0 : Int32) (1 : Int32) ⟨Ex50, F50_madeNanos, F50_horizonNanos, F50_expectedNanos, F50_spreadNanos, F50_arrivedNanos, F50_hasInterval, F50_errorKept⟩) Ex50 (hw _ (List.mem_of_getElem? (i := 34) rfl)) (hw _ (List.mem_of_getElem? (i := 35) rfl)) (hw _ (List.mem_of_getElem? (i := 37) rfl)) (hw _ (List.mem_of_getElem? (i := 36) rfl)) (hw _ (List.mem_of_getElem? (i := 3) rfl)) (hw _ (List.mem_of_getElem? (i := 38) rfl)) (by decide) (by decide) (by decide) rfl rfl (by decide) (by decide) (lenOf pd_2 rfl) rfl (by first | decide | exact Nat.le_of_eq rfl) rfl at_136 rfl rfl ?_
            intro T52 h52 X52 qq52
            rw [show h52 = h49 from qq52] at X52
            refine own_iload X52 (pc' := 141) at_139 rfl rfl ?_
            refine own_if_eq X52 (pct := 153) (pc' := 144) at_141 rfl (by decide) (by decide) (fun _ => ?_) (fun hc => absurd hc (by decide))
            refine own_iconst X52 (v := (0 : Int32)) (pc' := 154) at_153 rfl (by decide) ?_
            refine own_icmp_ne X52 (pct := 161) (pc' := 157) at_154 rfl (by decide) (by decide) (fun hc => absurd hc (fun q => q (own_h0 _ _ _))) (fun _ => ?_)
            refine own_iconst X52 (v := (1 : Int32)) (pc' := 158) at_157 rfl (by decide) ?_
            refine own_goto X52 (pc' := 162) at_158 (by decide) (by decide) ?_
            subst hΦ
            exact own_retZ X52 at_162 (by decide) (by decide) (by decide) rfl trivial
          · refine own_lload X49 (pc' := 118) at_116 rfl rfl ?_
            refine own_callS X49 (W := 0) (argsL := [(.long v47)]) (rest := []) (S' := [(.long (own_abs v47))]) (pc' := 121) (rm4 l Z a0 hw n0 v47 h49 X49.size) (hw _ (List.mem_of_getElem? (i := 30) rfl)) (hw _ (List.mem_of_getElem? (i := 31) rfl)) (hw _ (List.mem_of_getElem? (i := 32) rfl)) (hw _ (List.mem_of_getElem? (i := 33) rfl)) (by decide) (by decide) (by decide) rfl rfl (by decide) (by decide) (lenOf pd_3 rfl) rfl (by first | decide | exact Nat.le_of_eq rfl) rfl at_118 rfl rfl ?_
            intro T53 h53 X53 qq53
            rw [show h53 = h49 from qq53] at X53
            refine own_lload X53 (pc' := 123) at_121 rfl rfl ?_
            refine own_lcmp X53 (pc' := 124) at_123 rfl ?_
            refine own_ifl_gt X53 (pct := 131) (pc' := 127) at_124 rfl (by decide) (by decide) (fun hc124_54 => ?_) (fun hc124_54 => ?_)
            · refine own_iconst X53 (v := (0 : Int32)) (pc' := 132) at_131 rfl (by decide) ?_
              refine own_istore X53 (pc' := 134) (Ls' := #[.val (.long made), .second, .val (.long hor), .second, .val (.long ex), .second, .val (.long spr), .second, .val (.long ofr), .second, .val (.int flags), .val (.int (0 : Int32)), .val (.int (1 : Int32)), .val (.long v35), .second, .val (.long v47), .second, .val (.long (ex + v47)), .second, .val (.ref ad48), .val (.int (0 : Int32))]) at_132 rfl rfl ?_
              refine own_aload X53 (pc' := 136) at_134 rfl rfl rfl ?_
              refine own_callV X53 (W := 0) (a := ad48) (argsL := []) (rest := []) (S' := [(.int (own_hit (0 : Int32) ((ex + v47) - ex) v35))]) (pc' := 139) (rm5 l Z a0 hw n0 ad48 h49 X53.size made hor ex v35 (ex + v47) (0 : Int32) (1 : Int32) ⟨Ex50, F50_madeNanos, F50_horizonNanos, F50_expectedNanos, F50_spreadNanos, F50_arrivedNanos, F50_hasInterval, F50_errorKept⟩) Ex50 (hw _ (List.mem_of_getElem? (i := 34) rfl)) (hw _ (List.mem_of_getElem? (i := 35) rfl)) (hw _ (List.mem_of_getElem? (i := 37) rfl)) (hw _ (List.mem_of_getElem? (i := 36) rfl)) (hw _ (List.mem_of_getElem? (i := 3) rfl)) (hw _ (List.mem_of_getElem? (i := 38) rfl)) (by decide) (by decide) (by decide) rfl rfl (by decide) (by decide) (lenOf pd_2 rfl) rfl (by first | decide | exact Nat.le_of_eq rfl) rfl at_136 rfl rfl ?_
              intro T55 h55 X55 qq55
              rw [show h55 = h49 from qq55] at X55
              refine own_iload X55 (pc' := 141) at_139 rfl rfl ?_
              refine own_if_eq X55 (pct := 153) (pc' := 144) at_141 rfl (by decide) (by decide) (fun _ => ?_) (fun hc => absurd hc (by decide))
              refine own_iconst X55 (v := (0 : Int32)) (pc' := 154) at_153 rfl (by decide) ?_
              refine own_icmp_ne X55 (pct := 161) (pc' := 157) at_154 rfl (by decide) (by decide) (fun hc => absurd hc (fun q => q (own_h0 _ _ _))) (fun _ => ?_)
              refine own_iconst X55 (v := (1 : Int32)) (pc' := 158) at_157 rfl (by decide) ?_
              refine own_goto X55 (pc' := 162) at_158 (by decide) (by decide) ?_
              subst hΦ
              exact own_retZ X55 at_162 (by decide) (by decide) (by decide) rfl trivial
            · refine own_iconst X53 (v := (1 : Int32)) (pc' := 128) at_127 rfl (by decide) ?_
              refine own_goto X53 (pc' := 132) at_128 (by decide) (by decide) ?_
              refine own_istore X53 (pc' := 134) (Ls' := #[.val (.long made), .second, .val (.long hor), .second, .val (.long ex), .second, .val (.long spr), .second, .val (.long ofr), .second, .val (.int flags), .val (.int (0 : Int32)), .val (.int (1 : Int32)), .val (.long v35), .second, .val (.long v47), .second, .val (.long (ex + v47)), .second, .val (.ref ad48), .val (.int (1 : Int32))]) at_132 rfl rfl ?_
              refine own_aload X53 (pc' := 136) at_134 rfl rfl rfl ?_
              refine own_callV X53 (W := 0) (a := ad48) (argsL := []) (rest := []) (S' := [(.int (own_hit (0 : Int32) ((ex + v47) - ex) v35))]) (pc' := 139) (rm5 l Z a0 hw n0 ad48 h49 X53.size made hor ex v35 (ex + v47) (0 : Int32) (1 : Int32) ⟨Ex50, F50_madeNanos, F50_horizonNanos, F50_expectedNanos, F50_spreadNanos, F50_arrivedNanos, F50_hasInterval, F50_errorKept⟩) Ex50 (hw _ (List.mem_of_getElem? (i := 34) rfl)) (hw _ (List.mem_of_getElem? (i := 35) rfl)) (hw _ (List.mem_of_getElem? (i := 37) rfl)) (hw _ (List.mem_of_getElem? (i := 36) rfl)) (hw _ (List.mem_of_getElem? (i := 3) rfl)) (hw _ (List.mem_of_getElem? (i := 38) rfl)) (by decide) (by decide) (by decide) rfl rfl (by decide) (by decide) (lenOf pd_2 rfl) rfl (by first | decide | exact Nat.le_of_eq rfl) rfl at_136 rfl rfl ?_
              intro T56 h56 X56 qq56
              rw [show h56 = h49 from qq56] at X56
              refine own_iload X56 (pc' := 141) at_139 rfl rfl ?_
              refine own_if_eq X56 (pct := 153) (pc' := 144) at_141 rfl (by decide) (by decide) (fun _ => ?_) (fun hc => absurd hc (by decide))
              refine own_iconst X56 (v := (0 : Int32)) (pc' := 154) at_153 rfl (by decide) ?_
              refine own_icmp_ne X56 (pct := 161) (pc' := 157) at_154 rfl (by decide) (by decide) (fun hc => absurd hc (fun q => q (own_h0 _ _ _))) (fun _ => ?_)
              refine own_iconst X56 (v := (1 : Int32)) (pc' := 158) at_157 rfl (by decide) ?_
              refine own_goto X56 (pc' := 162) at_158 (by decide) (by decide) ?_
              subst hΦ
              exact own_retZ X56 at_162 (by decide) (by decide) (by decide) rfl trivial
        · refine own_lload X (pc' := 57) at_55 rfl rfl ?_
          refine own_goto X (pc' := 63) at_57 (by decide) (by decide) ?_
          refine own_lstore X (pc' := 65) (Ls' := #[.val (.long made), .second, .val (.long hor), .second, .val (.long ex), .second, .val (.long spr), .second, .val (.long ofr), .second, .val (.int flags), .val (.int (0 : Int32)), .val (.int (1 : Int32)), .val (.long v35), .second, .val (.long ofr), .second, .val (.long v35), .second, .unset, .unset]) at_63 rfl rfl ?_
          refine own_lload X (pc' := 67) at_65 rfl rfl ?_
          refine own_iload X (pc' := 69) at_67 rfl rfl ?_
          refine own_iconst X (v := (4 : Int32)) (pc' := 70) at_69 rfl (by decide) ?_
          refine own_iushr X (r := ((flags.toUInt32 >>> ((4 : Int32) &&& 31).toUInt32).toInt32)) (pc' := 71) at_70 rfl rfl ?_
          refine own_iconst X (v := (3 : Int32)) (pc' := 72) at_71 rfl (by decide) ?_
          refine own_iand X (r := (((flags.toUInt32 >>> ((4 : Int32) &&& 31).toUInt32).toInt32) &&& (3 : Int32))) (pc' := 73) at_72 rfl rfl ?_
          refine own_iconst X (v := (1 : Int32)) (pc' := 74) at_73 rfl (by decide) ?_
          refine own_isub X (r := ((((flags.toUInt32 >>> ((4 : Int32) &&& 31).toUInt32).toInt32) &&& (3 : Int32)) - (1 : Int32))) (pc' := 75) at_74 rfl rfl ?_
          refine own_i2l X (r := (((((flags.toUInt32 >>> ((4 : Int32) &&& 31).toUInt32).toInt32) &&& (3 : Int32)) - (1 : Int32)).toInt64)) (pc' := 76) at_75 rfl rfl ?_
          refine own_ladd X (r := (v35 + (((((flags.toUInt32 >>> ((4 : Int32) &&& 31).toUInt32).toInt32) &&& (3 : Int32)) - (1 : Int32)).toInt64))) (pc' := 77) at_76 rfl rfl ?_
          refine own_lstore X (pc' := 79) (Ls' := #[.val (.long made), .second, .val (.long hor), .second, .val (.long ex), .second, .val (.long spr), .second, .val (.long ofr), .second, .val (.int flags), .val (.int (0 : Int32)), .val (.int (1 : Int32)), .val (.long v35), .second, .val (.long (v35 + (((((flags.toUInt32 >>> ((4 : Int32) &&& 31).toUInt32).toInt32) &&& (3 : Int32)) - (1 : Int32)).toInt64))), .second, .val (.long v35), .second, .unset, .unset]) at_77 rfl rfl ?_
          generalize e57 : (v35 + (((((flags.toUInt32 >>> ((4 : Int32) &&& 31).toUInt32).toInt32) &&& (3 : Int32)) - (1 : Int32)).toInt64)) = v57
          refine own_lload X (pc' := 81) at_79 rfl rfl ?_
          refine own_lload X (pc' := 83) at_81 rfl rfl ?_
          refine own_ladd X (r := (ex + v57)) (pc' := 84) at_83 rfl rfl ?_
          refine own_lstore X (pc' := 86) (Ls' := #[.val (.long made), .second, .val (.long hor), .second, .val (.long ex), .second, .val (.long spr), .second, .val (.long ofr), .second, .val (.int flags), .val (.int (0 : Int32)), .val (.int (1 : Int32)), .val (.long v35), .second, .val (.long v57), .second, .val (.long (ex + v57)), .second, .unset, .unset]) at_84 rfl rfl ?_
          refine own_new X (pc' := 89) (hw _ (List.mem_of_getElem? (i := 1) rfl)) (hw _ (List.mem_of_getElem? (i := 2) rfl)) (hw _ (List.mem_of_getElem? (i := 3) rfl)) at_86 rfl (by decide) (by decide) ?_
          intro T58 h58 ad58 X58 ge_ad58 g_ad58 E58 Ex58 D58
          have F58_madeNanos : Fld Z h58 ad58 "dev/tidemark/engine/Estimate" "madeNanos" "J" (.long (0 : Int64)) := D58 (Or.inr (hw _ (List.mem_of_getElem? (i := 16) rfl))) (ty := .long) (by decide)
          have F58_horizonNanos : Fld Z h58 ad58 "dev/tidemark/engine/Estimate" "horizonNanos" "J" (.long (0 : Int64)) := D58 (Or.inr (hw _ (List.mem_of_getElem? (i := 18) rfl))) (ty := .long) (by decide)
          have F58_expectedNanos : Fld Z h58 ad58 "dev/tidemark/engine/Estimate" "expectedNanos" "J" (.long (0 : Int64)) := D58 (Or.inr (hw _ (List.mem_of_getElem? (i := 20) rfl))) (ty := .long) (by decide)
          have F58_spreadNanos : Fld Z h58 ad58 "dev/tidemark/engine/Estimate" "spreadNanos" "J" (.long (0 : Int64)) := D58 (Or.inr (hw _ (List.mem_of_getElem? (i := 22) rfl))) (ty := .long) (by decide)
          have F58_arrivedNanos : Fld Z h58 ad58 "dev/tidemark/engine/Estimate" "arrivedNanos" "J" (.long (0 : Int64)) := D58 (Or.inr (hw _ (List.mem_of_getElem? (i := 24) rfl))) (ty := .long) (by decide)
          have F58_hasInterval : Fld Z h58 ad58 "dev/tidemark/engine/Estimate" "hasInterval" "Z" (.int (0 : Int32)) := D58 (Or.inr (hw _ (List.mem_of_getElem? (i := 26) rfl))) (ty := .boolean) (by decide)
          have F58_errorKept : Fld Z h58 ad58 "dev/tidemark/engine/Estimate" "errorKept" "Z" (.int (0 : Int32)) := D58 (Or.inr (hw _ (List.mem_of_getElem? (i := 28) rfl))) (ty := .boolean) (by decide)
          refine own_dup X58 (pc' := 90) at_89 rfl rfl ?_
          refine own_lloadN X58 (pc' := 91) at_90 rfl rfl ?_
          refine own_lloadN X58 (pc' := 92) at_91 rfl rfl ?_
          refine own_lload X58 (pc' := 94) at_92 rfl rfl ?_
          refine own_lload X58 (pc' := 96) at_94 rfl rfl ?_
          refine own_lload X58 (pc' := 98) at_96 rfl rfl ?_
          refine own_iload X58 (pc' := 100) at_98 rfl rfl ?_
          refine own_iload X58 (pc' := 102) at_100 rfl rfl ?_
          refine own_callI X58 (W := 1) (a := ad58) (argsL := [(.long made), (.long hor), (.long ex), (.long v35), (.long (ex + v57)), (.int (0 : Int32)), (.int (1 : Int32))]) (rest := [(.ref ad58)]) (S' := [(.ref ad58)]) (pc' := 105) (rm1_01 l Z a0 hw n0 ad58 made hor ex v35 (ex + v57) h58 X58.size ⟨Ex58, F58_madeNanos, F58_horizonNanos, F58_expectedNanos, F58_spreadNanos, F58_arrivedNanos, F58_hasInterval, F58_errorKept⟩ ge_ad58) rfl (hw _ (List.mem_of_getElem? (i := 4) rfl)) (hw _ (List.mem_of_getElem? (i := 5) rfl)) (hw _ (List.mem_of_getElem? (i := 3) rfl)) (hw _ (List.mem_of_getElem? (i := 6) rfl)) (by decide) (by decide) (by decide) rfl rfl (by decide) (by decide) (lenOf pd_1 rfl) rfl (by first | decide | exact Nat.le_of_eq rfl) rfl at_102 rfl rfl ?_
          intro T59 h59 X59 qq59
          obtain ⟨⟨Ex60, F60_madeNanos, F60_horizonNanos, F60_expectedNanos, F60_spreadNanos, F60_arrivedNanos, F60_hasInterval, F60_errorKept⟩, K60⟩ := qq59
          refine own_astore X59 (pc' := 107) (Ls' := #[.val (.long made), .second, .val (.long hor), .second, .val (.long ex), .second, .val (.long spr), .second, .val (.long ofr), .second, .val (.int flags), .val (.int (0 : Int32)), .val (.int (1 : Int32)), .val (.long v35), .second, .val (.long v57), .second, .val (.long (ex + v57)), .second, .val (.ref ad58), .unset]) at_105 rfl rfl rfl ?_
          refine own_lload X59 (pc' := 109) at_107 rfl rfl ?_
          refine own_ldc2 X59 (pc' := 112) (hw _ (List.mem_of_getElem? (i := 29) rfl)) at_109 rfl ?_
          refine own_lcmp X59 (pc' := 113) at_112 rfl ?_
          refine own_ifl_eq X59 (pct := 131) (pc' := 116) at_113 rfl (by decide) (by decide) (fun hc113_61 => ?_) (fun hc113_61 => ?_)
          · refine own_iconst X59 (v := (0 : Int32)) (pc' := 132) at_131 rfl (by decide) ?_
            refine own_istore X59 (pc' := 134) (Ls' := #[.val (.long made), .second, .val (.long hor), .second, .val (.long ex), .second, .val (.long spr), .second, .val (.long ofr), .second, .val (.int flags), .val (.int (0 : Int32)), .val (.int (1 : Int32)), .val (.long v35), .second, .val (.long v57), .second, .val (.long (ex + v57)), .second, .val (.ref ad58), .val (.int (0 : Int32))]) at_132 rfl rfl ?_
            refine own_aload X59 (pc' := 136) at_134 rfl rfl rfl ?_
            refine own_callV X59 (W := 0) (a := ad58) (argsL := []) (rest := []) (S' := [(.int (own_hit (0 : Int32) ((ex + v57) - ex) v35))]) (pc' := 139) (rm5 l Z a0 hw n0 ad58 h59 X59.size made hor ex v35 (ex + v57) (0 : Int32) (1 : Int32) ⟨Ex60, F60_madeNanos, F60_horizonNanos, F60_expectedNanos, F60_spreadNanos, F60_arrivedNanos, F60_hasInterval, F60_errorKept⟩) Ex60 (hw _ (List.mem_of_getElem? (i := 34) rfl)) (hw _ (List.mem_of_getElem? (i := 35) rfl)) (hw _ (List.mem_of_getElem? (i := 37) rfl)) (hw _ (List.mem_of_getElem? (i := 36) rfl)) (hw _ (List.mem_of_getElem? (i := 3) rfl)) (hw _ (List.mem_of_getElem? (i := 38) rfl)) (by decide) (by decide) (by decide) rfl rfl (by decide) (by decide) (lenOf pd_2 rfl) rfl (by first | decide | exact Nat.le_of_eq rfl) rfl at_136 rfl rfl ?_
            intro T62 h62 X62 qq62
            rw [show h62 = h59 from qq62] at X62
            refine own_iload X62 (pc' := 141) at_139 rfl rfl ?_
            refine own_if_eq X62 (pct := 153) (pc' := 144) at_141 rfl (by decide) (by decide) (fun _ => ?_) (fun hc => absurd hc (by decide))
            refine own_iconst X62 (v := (0 : Int32)) (pc' := 154) at_153 rfl (by decide) ?_
            refine own_icmp_ne X62 (pct := 161) (pc' := 157) at_154 rfl (by decide) (by decide) (fun hc => absurd hc (fun q => q (own_h0 _ _ _))) (fun _ => ?_)
            refine own_iconst X62 (v := (1 : Int32)) (pc' := 158) at_157 rfl (by decide) ?_
            refine own_goto X62 (pc' := 162) at_158 (by decide) (by decide) ?_
            subst hΦ
            exact own_retZ X62 at_162 (by decide) (by decide) (by decide) rfl trivial
          · refine own_lload X59 (pc' := 118) at_116 rfl rfl ?_
            refine own_callS X59 (W := 0) (argsL := [(.long v57)]) (rest := []) (S' := [(.long (own_abs v57))]) (pc' := 121) (rm4 l Z a0 hw n0 v57 h59 X59.size) (hw _ (List.mem_of_getElem? (i := 30) rfl)) (hw _ (List.mem_of_getElem? (i := 31) rfl)) (hw _ (List.mem_of_getElem? (i := 32) rfl)) (hw _ (List.mem_of_getElem? (i := 33) rfl)) (by decide) (by decide) (by decide) rfl rfl (by decide) (by decide) (lenOf pd_3 rfl) rfl (by first | decide | exact Nat.le_of_eq rfl) rfl at_118 rfl rfl ?_
            intro T63 h63 X63 qq63
            rw [show h63 = h59 from qq63] at X63
            refine own_lload X63 (pc' := 123) at_121 rfl rfl ?_
            refine own_lcmp X63 (pc' := 124) at_123 rfl ?_
            refine own_ifl_gt X63 (pct := 131) (pc' := 127) at_124 rfl (by decide) (by decide) (fun hc124_64 => ?_) (fun hc124_64 => ?_)
            · refine own_iconst X63 (v := (0 : Int32)) (pc' := 132) at_131 rfl (by decide) ?_
              refine own_istore X63 (pc' := 134) (Ls' := #[.val (.long made), .second, .val (.long hor), .second, .val (.long ex), .second, .val (.long spr), .second, .val (.long ofr), .second, .val (.int flags), .val (.int (0 : Int32)), .val (.int (1 : Int32)), .val (.long v35), .second, .val (.long v57), .second, .val (.long (ex + v57)), .second, .val (.ref ad58), .val (.int (0 : Int32))]) at_132 rfl rfl ?_
              refine own_aload X63 (pc' := 136) at_134 rfl rfl rfl ?_
              refine own_callV X63 (W := 0) (a := ad58) (argsL := []) (rest := []) (S' := [(.int (own_hit (0 : Int32) ((ex + v57) - ex) v35))]) (pc' := 139) (rm5 l Z a0 hw n0 ad58 h59 X63.size made hor ex v35 (ex + v57) (0 : Int32) (1 : Int32) ⟨Ex60, F60_madeNanos, F60_horizonNanos, F60_expectedNanos, F60_spreadNanos, F60_arrivedNanos, F60_hasInterval, F60_errorKept⟩) Ex60 (hw _ (List.mem_of_getElem? (i := 34) rfl)) (hw _ (List.mem_of_getElem? (i := 35) rfl)) (hw _ (List.mem_of_getElem? (i := 37) rfl)) (hw _ (List.mem_of_getElem? (i := 36) rfl)) (hw _ (List.mem_of_getElem? (i := 3) rfl)) (hw _ (List.mem_of_getElem? (i := 38) rfl)) (by decide) (by decide) (by decide) rfl rfl (by decide) (by decide) (lenOf pd_2 rfl) rfl (by first | decide | exact Nat.le_of_eq rfl) rfl at_136 rfl rfl ?_
              intro T65 h65 X65 qq65
              rw [show h65 = h59 from qq65] at X65
              refine own_iload X65 (pc' := 141) at_139 rfl rfl ?_
              refine own_if_eq X65 (pct := 153) (pc' := 144) at_141 rfl (by decide) (by decide) (fun _ => ?_) (fun hc => absurd hc (by decide))
              refine own_iconst X65 (v := (0 : Int32)) (pc' := 154) at_153 rfl (by decide) ?_
              refine own_icmp_ne X65 (pct := 161) (pc' := 157) at_154 rfl (by decide) (by decide) (fun hc => absurd hc (fun q => q (own_h0 _ _ _))) (fun _ => ?_)
              refine own_iconst X65 (v := (1 : Int32)) (pc' := 158) at_157 rfl (by decide) ?_
              refine own_goto X65 (pc' := 162) at_158 (by decide) (by decide) ?_
              subst hΦ
              exact own_retZ X65 at_162 (by decide) (by decide) (by decide) rfl trivial
            · refine own_iconst X63 (v := (1 : Int32)) (pc' := 128) at_127 rfl (by decide) ?_
              refine own_goto X63 (pc' := 132) at_128 (by decide) (by decide) ?_
              refine own_istore X63 (pc' := 134) (Ls' := #[.val (.long made), .second, .val (.long hor), .second, .val (.long ex), .second, .val (.long spr), .second, .val (.long ofr), .second, .val (.int flags), .val (.int (0 : Int32)), .val (.int (1 : Int32)), .val (.long v35), .second, .val (.long v57), .second, .val (.long (ex + v57)), .second, .val (.ref ad58), .val (.int (1 : Int32))]) at_132 rfl rfl ?_
              refine own_aload X63 (pc' := 136) at_134 rfl rfl rfl ?_
              refine own_callV X63 (W := 0) (a := ad58) (argsL := []) (rest := []) (S' := [(.int (own_hit (0 : Int32) ((ex + v57) - ex) v35))]) (pc' := 139) (rm5 l Z a0 hw n0 ad58 h59 X63.size made hor ex v35 (ex + v57) (0 : Int32) (1 : Int32) ⟨Ex60, F60_madeNanos, F60_horizonNanos, F60_expectedNanos, F60_spreadNanos, F60_arrivedNanos, F60_hasInterval, F60_errorKept⟩) Ex60 (hw _ (List.mem_of_getElem? (i := 34) rfl)) (hw _ (List.mem_of_getElem? (i := 35) rfl)) (hw _ (List.mem_of_getElem? (i := 37) rfl)) (hw _ (List.mem_of_getElem? (i := 36) rfl)) (hw _ (List.mem_of_getElem? (i := 3) rfl)) (hw _ (List.mem_of_getElem? (i := 38) rfl)) (by decide) (by decide) (by decide) rfl rfl (by decide) (by decide) (lenOf pd_2 rfl) rfl (by first | decide | exact Nat.le_of_eq rfl) rfl at_136 rfl rfl ?_
              intro T66 h66 X66 qq66
              rw [show h66 = h59 from qq66] at X66
              refine own_iload X66 (pc' := 141) at_139 rfl rfl ?_
              refine own_if_eq X66 (pct := 153) (pc' := 144) at_141 rfl (by decide) (by decide) (fun _ => ?_) (fun hc => absurd hc (by decide))
              refine own_iconst X66 (v := (0 : Int32)) (pc' := 154) at_153 rfl (by decide) ?_
              refine own_icmp_ne X66 (pct := 161) (pc' := 157) at_154 rfl (by decide) (by decide) (fun hc => absurd hc (fun q => q (own_h0 _ _ _))) (fun _ => ?_)
              refine own_iconst X66 (v := (1 : Int32)) (pc' := 158) at_157 rfl (by decide) ?_
              refine own_goto X66 (pc' := 162) at_158 (by decide) (by decide) ?_
              subst hΦ
              exact own_retZ X66 at_162 (by decide) (by decide) (by decide) rfl trivial
  · refine own_iconst X (v := (1 : Int32)) (pc' := 8) at_7 rfl (by decide) ?_
    refine own_goto X (pc' := 12) at_8 (by decide) (by decide) ?_
    refine own_istore X (pc' := 14) (Ls' := #[.val (.long made), .second, .val (.long hor), .second, .val (.long ex), .second, .val (.long spr), .second, .val (.long ofr), .second, .val (.int flags), .val (.int (1 : Int32)), .unset, .unset, .unset, .unset, .unset, .unset, .unset, .unset, .unset]) at_12 rfl rfl ?_
    refine own_iload X (pc' := 16) at_14 rfl rfl ?_
    refine own_iconst X (v := (2 : Int32)) (pc' := 17) at_16 rfl (by decide) ?_
    refine own_iand X (r := (flags &&& (2 : Int32))) (pc' := 18) at_17 rfl rfl ?_
    refine own_if_eq X (pct := 25) (pc' := 21) at_18 rfl (by decide) (by decide) (fun hc18_67 => ?_) (fun hc18_67 => ?_)
    · refine own_iconst X (v := (0 : Int32)) (pc' := 26) at_25 rfl (by decide) ?_
      refine own_istore X (pc' := 28) (Ls' := #[.val (.long made), .second, .val (.long hor), .second, .val (.long ex), .second, .val (.long spr), .second, .val (.long ofr), .second, .val (.int flags), .val (.int (1 : Int32)), .val (.int (0 : Int32)), .unset, .unset, .unset, .unset, .unset, .unset, .unset, .unset]) at_26 rfl rfl ?_
      refine own_lload X (pc' := 30) at_28 rfl rfl ?_
      refine own_ldc2 X (pc' := 33) (hw _ (List.mem_of_getElem? (i := 0) rfl)) at_30 rfl ?_
      refine own_land X (r := (spr &&& (9223372036854775807 : Int64))) (pc' := 34) at_33 rfl rfl ?_
      refine own_lstore X (pc' := 36) (Ls' := #[.val (.long made), .second, .val (.long hor), .second, .val (.long ex), .second, .val (.long spr), .second, .val (.long ofr), .second, .val (.int flags), .val (.int (1 : Int32)), .val (.int (0 : Int32)), .val (.long (spr &&& (9223372036854775807 : Int64))), .second, .unset, .unset, .unset, .unset, .unset, .unset]) at_34 rfl rfl ?_
      generalize e68 : (spr &&& (9223372036854775807 : Int64)) = v68
      have hs : 0 ≤ v68.toInt := by rw [← e68]; exact own_sp _
      refine own_lload X (pc' := 38) at_36 rfl rfl ?_
      refine own_lstore X (pc' := 40) (Ls' := #[.val (.long made), .second, .val (.long hor), .second, .val (.long ex), .second, .val (.long spr), .second, .val (.long ofr), .second, .val (.int flags), .val (.int (1 : Int32)), .val (.int (0 : Int32)), .val (.long v68), .second, .val (.long ofr), .second, .unset, .unset, .unset, .unset]) at_38 rfl rfl ?_
      refine own_iload X (pc' := 42) at_40 rfl rfl ?_
      refine own_iconst X (v := (4 : Int32)) (pc' := 43) at_42 rfl (by decide) ?_
      refine own_iand X (r := (flags &&& (4 : Int32))) (pc' := 44) at_43 rfl rfl ?_
      refine own_if_eq X (pct := 79) (pc' := 47) at_44 rfl (by decide) (by decide) (fun hc44_69 => ?_) (fun hc44_69 => ?_)
      · refine own_lload X (pc' := 81) at_79 rfl rfl ?_
        refine own_lload X (pc' := 83) at_81 rfl rfl ?_
        refine own_ladd X (r := (ex + ofr)) (pc' := 84) at_83 rfl rfl ?_
        refine own_lstore X (pc' := 86) (Ls' := #[.val (.long made), .second, .val (.long hor), .second, .val (.long ex), .second, .val (.long spr), .second, .val (.long ofr), .second, .val (.int flags), .val (.int (1 : Int32)), .val (.int (0 : Int32)), .val (.long v68), .second, .val (.long ofr), .second, .val (.long (ex + ofr)), .second, .unset, .unset]) at_84 rfl rfl ?_
        refine own_new X (pc' := 89) (hw _ (List.mem_of_getElem? (i := 1) rfl)) (hw _ (List.mem_of_getElem? (i := 2) rfl)) (hw _ (List.mem_of_getElem? (i := 3) rfl)) at_86 rfl (by decide) (by decide) ?_
        intro T70 h70 ad70 X70 ge_ad70 g_ad70 E70 Ex70 D70
        have F70_madeNanos : Fld Z h70 ad70 "dev/tidemark/engine/Estimate" "madeNanos" "J" (.long (0 : Int64)) := D70 (Or.inr (hw _ (List.mem_of_getElem? (i := 16) rfl))) (ty := .long) (by decide)
        have F70_horizonNanos : Fld Z h70 ad70 "dev/tidemark/engine/Estimate" "horizonNanos" "J" (.long (0 : Int64)) := D70 (Or.inr (hw _ (List.mem_of_getElem? (i := 18) rfl))) (ty := .long) (by decide)
        have F70_expectedNanos : Fld Z h70 ad70 "dev/tidemark/engine/Estimate" "expectedNanos" "J" (.long (0 : Int64)) := D70 (Or.inr (hw _ (List.mem_of_getElem? (i := 20) rfl))) (ty := .long) (by decide)
        have F70_spreadNanos : Fld Z h70 ad70 "dev/tidemark/engine/Estimate" "spreadNanos" "J" (.long (0 : Int64)) := D70 (Or.inr (hw _ (List.mem_of_getElem? (i := 22) rfl))) (ty := .long) (by decide)
        have F70_arrivedNanos : Fld Z h70 ad70 "dev/tidemark/engine/Estimate" "arrivedNanos" "J" (.long (0 : Int64)) := D70 (Or.inr (hw _ (List.mem_of_getElem? (i := 24) rfl))) (ty := .long) (by decide)
        have F70_hasInterval : Fld Z h70 ad70 "dev/tidemark/engine/Estimate" "hasInterval" "Z" (.int (0 : Int32)) := D70 (Or.inr (hw _ (List.mem_of_getElem? (i := 26) rfl))) (ty := .boolean) (by decide)
        have F70_errorKept : Fld Z h70 ad70 "dev/tidemark/engine/Estimate" "errorKept" "Z" (.int (0 : Int32)) := D70 (Or.inr (hw _ (List.mem_of_getElem? (i := 28) rfl))) (ty := .boolean) (by decide)
        refine own_dup X70 (pc' := 90) at_89 rfl rfl ?_
        refine own_lloadN X70 (pc' := 91) at_90 rfl rfl ?_
        refine own_lloadN X70 (pc' := 92) at_91 rfl rfl ?_
        refine own_lload X70 (pc' := 94) at_92 rfl rfl ?_
        refine own_lload X70 (pc' := 96) at_94 rfl rfl ?_
        refine own_lload X70 (pc' := 98) at_96 rfl rfl ?_
        refine own_iload X70 (pc' := 100) at_98 rfl rfl ?_
        refine own_iload X70 (pc' := 102) at_100 rfl rfl ?_
        refine own_callI X70 (W := 1) (a := ad70) (argsL := [(.long made), (.long hor), (.long ex), (.long v68), (.long (ex + ofr)), (.int (1 : Int32)), (.int (0 : Int32))]) (rest := [(.ref ad70)]) (S' := [(.ref ad70)]) (pc' := 105) (rm1_10 l Z a0 hw n0 ad70 made hor ex v68 (ex + ofr) h70 X70.size ⟨Ex70, F70_madeNanos, F70_horizonNanos, F70_expectedNanos, F70_spreadNanos, F70_arrivedNanos, F70_hasInterval, F70_errorKept⟩ ge_ad70) rfl (hw _ (List.mem_of_getElem? (i := 4) rfl)) (hw _ (List.mem_of_getElem? (i := 5) rfl)) (hw _ (List.mem_of_getElem? (i := 3) rfl)) (hw _ (List.mem_of_getElem? (i := 6) rfl)) (by decide) (by decide) (by decide) rfl rfl (by decide) (by decide) (lenOf pd_1 rfl) rfl (by first | decide | exact Nat.le_of_eq rfl) rfl at_102 rfl rfl ?_
        intro T71 h71 X71 qq71
        obtain ⟨⟨Ex72, F72_madeNanos, F72_horizonNanos, F72_expectedNanos, F72_spreadNanos, F72_arrivedNanos, F72_hasInterval, F72_errorKept⟩, K72⟩ := qq71
        refine own_astore X71 (pc' := 107) (Ls' := #[.val (.long made), .second, .val (.long hor), .second, .val (.long ex), .second, .val (.long spr), .second, .val (.long ofr), .second, .val (.int flags), .val (.int (1 : Int32)), .val (.int (0 : Int32)), .val (.long v68), .second, .val (.long ofr), .second, .val (.long (ex + ofr)), .second, .val (.ref ad70), .unset]) at_105 rfl rfl rfl ?_
        refine own_lload X71 (pc' := 109) at_107 rfl rfl ?_
        refine own_ldc2 X71 (pc' := 112) (hw _ (List.mem_of_getElem? (i := 29) rfl)) at_109 rfl ?_
        refine own_lcmp X71 (pc' := 113) at_112 rfl ?_
        refine own_ifl_eq X71 (pct := 131) (pc' := 116) at_113 rfl (by decide) (by decide) (fun hc113_73 => ?_) (fun hc113_73 => ?_)
        · refine own_iconst X71 (v := (0 : Int32)) (pc' := 132) at_131 rfl (by decide) ?_
          refine own_istore X71 (pc' := 134) (Ls' := #[.val (.long made), .second, .val (.long hor), .second, .val (.long ex), .second, .val (.long spr), .second, .val (.long ofr), .second, .val (.int flags), .val (.int (1 : Int32)), .val (.int (0 : Int32)), .val (.long v68), .second, .val (.long ofr), .second, .val (.long (ex + ofr)), .second, .val (.ref ad70), .val (.int (0 : Int32))]) at_132 rfl rfl ?_
          refine own_aload X71 (pc' := 136) at_134 rfl rfl rfl ?_
          refine own_callV X71 (W := 0) (a := ad70) (argsL := []) (rest := []) (S' := [(.int (own_hit (1 : Int32) ((ex + ofr) - ex) v68))]) (pc' := 139) (rm5 l Z a0 hw n0 ad70 h71 X71.size made hor ex v68 (ex + ofr) (1 : Int32) (0 : Int32) ⟨Ex72, F72_madeNanos, F72_horizonNanos, F72_expectedNanos, F72_spreadNanos, F72_arrivedNanos, F72_hasInterval, F72_errorKept⟩) Ex72 (hw _ (List.mem_of_getElem? (i := 34) rfl)) (hw _ (List.mem_of_getElem? (i := 35) rfl)) (hw _ (List.mem_of_getElem? (i := 37) rfl)) (hw _ (List.mem_of_getElem? (i := 36) rfl)) (hw _ (List.mem_of_getElem? (i := 3) rfl)) (hw _ (List.mem_of_getElem? (i := 38) rfl)) (by decide) (by decide) (by decide) rfl rfl (by decide) (by decide) (lenOf pd_2 rfl) rfl (by first | decide | exact Nat.le_of_eq rfl) rfl at_136 rfl rfl ?_
          intro T74 h74 X74 qq74
          rw [show h74 = h71 from qq74] at X74
          refine own_iload X74 (pc' := 141) at_139 rfl rfl ?_
          refine own_if_eq X74 (pct := 153) (pc' := 144) at_141 rfl (by decide) (by decide) (fun hc => absurd hc (by decide)) (fun _ => ?_)
          refine own_iload X74 (pc' := 146) at_144 rfl rfl ?_
          refine own_if_eq X74 (pct := 153) (pc' := 149) at_146 rfl (by decide) (by decide) (fun _ => ?_) (fun hc => absurd hc (by decide))
          refine own_iconst X74 (v := (0 : Int32)) (pc' := 154) at_153 rfl (by decide) ?_
          refine own_icmp_ne X74 (pct := 161) (pc' := 157) at_154 rfl (by decide) (by decide) (fun hc => absurd hc (fun q => q (own_hmin _ _ _ hs hc113_73))) (fun _ => ?_)
          refine own_iconst X74 (v := (1 : Int32)) (pc' := 158) at_157 rfl (by decide) ?_
          refine own_goto X74 (pc' := 162) at_158 (by decide) (by decide) ?_
          subst hΦ
          exact own_retZ X74 at_162 (by decide) (by decide) (by decide) rfl trivial
        · refine own_lload X71 (pc' := 118) at_116 rfl rfl ?_
          refine own_callS X71 (W := 0) (argsL := [(.long ofr)]) (rest := []) (S' := [(.long (own_abs ofr))]) (pc' := 121) (rm4 l Z a0 hw n0 ofr h71 X71.size) (hw _ (List.mem_of_getElem? (i := 30) rfl)) (hw _ (List.mem_of_getElem? (i := 31) rfl)) (hw _ (List.mem_of_getElem? (i := 32) rfl)) (hw _ (List.mem_of_getElem? (i := 33) rfl)) (by decide) (by decide) (by decide) rfl rfl (by decide) (by decide) (lenOf pd_3 rfl) rfl (by first | decide | exact Nat.le_of_eq rfl) rfl at_118 rfl rfl ?_
          intro T75 h75 X75 qq75
          rw [show h75 = h71 from qq75] at X75
          refine own_lload X75 (pc' := 123) at_121 rfl rfl ?_
          refine own_lcmp X75 (pc' := 124) at_123 rfl ?_
          refine own_ifl_gt X75 (pct := 131) (pc' := 127) at_124 rfl (by decide) (by decide) (fun hc124_76 => ?_) (fun hc124_76 => ?_)
          · refine own_iconst X75 (v := (0 : Int32)) (pc' := 132) at_131 rfl (by decide) ?_
            refine own_istore X75 (pc' := 134) (Ls' := #[.val (.long made), .second, .val (.long hor), .second, .val (.long ex), .second, .val (.long spr), .second, .val (.long ofr), .second, .val (.int flags), .val (.int (1 : Int32)), .val (.int (0 : Int32)), .val (.long v68), .second, .val (.long ofr), .second, .val (.long (ex + ofr)), .second, .val (.ref ad70), .val (.int (0 : Int32))]) at_132 rfl rfl ?_
            refine own_aload X75 (pc' := 136) at_134 rfl rfl rfl ?_
            refine own_callV X75 (W := 0) (a := ad70) (argsL := []) (rest := []) (S' := [(.int (own_hit (1 : Int32) ((ex + ofr) - ex) v68))]) (pc' := 139) (rm5 l Z a0 hw n0 ad70 h71 X75.size made hor ex v68 (ex + ofr) (1 : Int32) (0 : Int32) ⟨Ex72, F72_madeNanos, F72_horizonNanos, F72_expectedNanos, F72_spreadNanos, F72_arrivedNanos, F72_hasInterval, F72_errorKept⟩) Ex72 (hw _ (List.mem_of_getElem? (i := 34) rfl)) (hw _ (List.mem_of_getElem? (i := 35) rfl)) (hw _ (List.mem_of_getElem? (i := 37) rfl)) (hw _ (List.mem_of_getElem? (i := 36) rfl)) (hw _ (List.mem_of_getElem? (i := 3) rfl)) (hw _ (List.mem_of_getElem? (i := 38) rfl)) (by decide) (by decide) (by decide) rfl rfl (by decide) (by decide) (lenOf pd_2 rfl) rfl (by first | decide | exact Nat.le_of_eq rfl) rfl at_136 rfl rfl ?_
            intro T77 h77 X77 qq77
            rw [show h77 = h71 from qq77] at X77
            refine own_iload X77 (pc' := 141) at_139 rfl rfl ?_
            refine own_if_eq X77 (pct := 153) (pc' := 144) at_141 rfl (by decide) (by decide) (fun hc => absurd hc (by decide)) (fun _ => ?_)
            refine own_iload X77 (pc' := 146) at_144 rfl rfl ?_
            refine own_if_eq X77 (pct := 153) (pc' := 149) at_146 rfl (by decide) (by decide) (fun _ => ?_) (fun hc => absurd hc (by decide))
            refine own_iconst X77 (v := (0 : Int32)) (pc' := 154) at_153 rfl (by decide) ?_
            refine own_icmp_ne X77 (pct := 161) (pc' := 157) at_154 rfl (by decide) (by decide) (fun hc => absurd hc (fun q => q (own_hgt _ _ _ hs hc124_76 hc113_73))) (fun _ => ?_)
            refine own_iconst X77 (v := (1 : Int32)) (pc' := 158) at_157 rfl (by decide) ?_
            refine own_goto X77 (pc' := 162) at_158 (by decide) (by decide) ?_
            subst hΦ
            exact own_retZ X77 at_162 (by decide) (by decide) (by decide) rfl trivial
          · refine own_iconst X75 (v := (1 : Int32)) (pc' := 128) at_127 rfl (by decide) ?_
            refine own_goto X75 (pc' := 132) at_128 (by decide) (by decide) ?_
            refine own_istore X75 (pc' := 134) (Ls' := #[.val (.long made), .second, .val (.long hor), .second, .val (.long ex), .second, .val (.long spr), .second, .val (.long ofr), .second, .val (.int flags), .val (.int (1 : Int32)), .val (.int (0 : Int32)), .val (.long v68), .second, .val (.long ofr), .second, .val (.long (ex + ofr)), .second, .val (.ref ad70), .val (.int (1 : Int32))]) at_132 rfl rfl ?_
            refine own_aload X75 (pc' := 136) at_134 rfl rfl rfl ?_
            refine own_callV X75 (W := 0) (a := ad70) (argsL := []) (rest := []) (S' := [(.int (own_hit (1 : Int32) ((ex + ofr) - ex) v68))]) (pc' := 139) (rm5 l Z a0 hw n0 ad70 h71 X75.size made hor ex v68 (ex + ofr) (1 : Int32) (0 : Int32) ⟨Ex72, F72_madeNanos, F72_horizonNanos, F72_expectedNanos, F72_spreadNanos, F72_arrivedNanos, F72_hasInterval, F72_errorKept⟩) Ex72 (hw _ (List.mem_of_getElem? (i := 34) rfl)) (hw _ (List.mem_of_getElem? (i := 35) rfl)) (hw _ (List.mem_of_getElem? (i := 37) rfl)) (hw _ (List.mem_of_getElem? (i := 36) rfl)) (hw _ (List.mem_of_getElem? (i := 3) rfl)) (hw _ (List.mem_of_getElem? (i := 38) rfl)) (by decide) (by decide) (by decide) rfl rfl (by decide) (by decide) (lenOf pd_2 rfl) rfl (by first | decide | exact Nat.le_of_eq rfl) rfl at_136 rfl rfl ?_
            intro T78 h78 X78 qq78
            rw [show h78 = h71 from qq78] at X78
            refine own_iload X78 (pc' := 141) at_139 rfl rfl ?_
            refine own_if_eq X78 (pct := 153) (pc' := 144) at_141 rfl (by decide) (by decide) (fun hc => absurd hc (by decide)) (fun _ => ?_)
            refine own_iload X78 (pc' := 146) at_144 rfl rfl ?_
            refine own_if_eq X78 (pct := 153) (pc' := 149) at_146 rfl (by decide) (by decide) (fun hc => absurd hc (by decide)) (fun _ => ?_)
            refine own_iconst X78 (v := (1 : Int32)) (pc' := 150) at_149 rfl (by decide) ?_
            refine own_goto X78 (pc' := 154) at_150 (by decide) (by decide) ?_
            refine own_icmp_ne X78 (pct := 161) (pc' := 157) at_154 rfl (by decide) (by decide) (fun hc => absurd hc (fun q => q (own_hin _ _ _ hs hc124_76 hc113_73))) (fun _ => ?_)
            refine own_iconst X78 (v := (1 : Int32)) (pc' := 158) at_157 rfl (by decide) ?_
            refine own_goto X78 (pc' := 162) at_158 (by decide) (by decide) ?_
            subst hΦ
            exact own_retZ X78 at_162 (by decide) (by decide) (by decide) rfl trivial
      · refine own_iload X (pc' := 49) at_47 rfl rfl ?_
        refine own_bipush X (v := (8 : Int32)) (pc' := 51) at_49 rfl (by decide) ?_
        refine own_iand X (r := (flags &&& (8 : Int32))) (pc' := 52) at_51 rfl rfl ?_
        refine own_if_eq X (pct := 60) (pc' := 55) at_52 rfl (by decide) (by decide) (fun hc52_79 => ?_) (fun hc52_79 => ?_)
        · refine own_lload X (pc' := 62) at_60 rfl rfl ?_
          refine own_lneg X (r := (-v68)) (pc' := 63) at_62 rfl rfl ?_
          refine own_lstore X (pc' := 65) (Ls' := #[.val (.long made), .second, .val (.long hor), .second, .val (.long ex), .second, .val (.long spr), .second, .val (.long ofr), .second, .val (.int flags), .val (.int (1 : Int32)), .val (.int (0 : Int32)), .val (.long v68), .second, .val (.long ofr), .second, .val (.long (-v68)), .second, .unset, .unset]) at_63 rfl rfl ?_
          refine own_lload X (pc' := 67) at_65 rfl rfl ?_
          refine own_iload X (pc' := 69) at_67 rfl rfl ?_
          refine own_iconst X (v := (4 : Int32)) (pc' := 70) at_69 rfl (by decide) ?_
          refine own_iushr X (r := ((flags.toUInt32 >>> ((4 : Int32) &&& 31).toUInt32).toInt32)) (pc' := 71) at_70 rfl rfl ?_
          refine own_iconst X (v := (3 : Int32)) (pc' := 72) at_71 rfl (by decide) ?_
          refine own_iand X (r := (((flags.toUInt32 >>> ((4 : Int32) &&& 31).toUInt32).toInt32) &&& (3 : Int32))) (pc' := 73) at_72 rfl rfl ?_
          refine own_iconst X (v := (1 : Int32)) (pc' := 74) at_73 rfl (by decide) ?_
          refine own_isub X (r := ((((flags.toUInt32 >>> ((4 : Int32) &&& 31).toUInt32).toInt32) &&& (3 : Int32)) - (1 : Int32))) (pc' := 75) at_74 rfl rfl ?_
          refine own_i2l X (r := (((((flags.toUInt32 >>> ((4 : Int32) &&& 31).toUInt32).toInt32) &&& (3 : Int32)) - (1 : Int32)).toInt64)) (pc' := 76) at_75 rfl rfl ?_
          refine own_ladd X (r := ((-v68) + (((((flags.toUInt32 >>> ((4 : Int32) &&& 31).toUInt32).toInt32) &&& (3 : Int32)) - (1 : Int32)).toInt64))) (pc' := 77) at_76 rfl rfl ?_
          refine own_lstore X (pc' := 79) (Ls' := #[.val (.long made), .second, .val (.long hor), .second, .val (.long ex), .second, .val (.long spr), .second, .val (.long ofr), .second, .val (.int flags), .val (.int (1 : Int32)), .val (.int (0 : Int32)), .val (.long v68), .second, .val (.long ((-v68) + (((((flags.toUInt32 >>> ((4 : Int32) &&& 31).toUInt32).toInt32) &&& (3 : Int32)) - (1 : Int32)).toInt64))), .second, .val (.long (-v68)), .second, .unset, .unset]) at_77 rfl rfl ?_
          generalize e80 : ((-v68) + (((((flags.toUInt32 >>> ((4 : Int32) &&& 31).toUInt32).toInt32) &&& (3 : Int32)) - (1 : Int32)).toInt64)) = v80
          refine own_lload X (pc' := 81) at_79 rfl rfl ?_
          refine own_lload X (pc' := 83) at_81 rfl rfl ?_
          refine own_ladd X (r := (ex + v80)) (pc' := 84) at_83 rfl rfl ?_
          refine own_lstore X (pc' := 86) (Ls' := #[.val (.long made), .second, .val (.long hor), .second, .val (.long ex), .second, .val (.long spr), .second, .val (.long ofr), .second, .val (.int flags), .val (.int (1 : Int32)), .val (.int (0 : Int32)), .val (.long v68), .second, .val (.long v80), .second, .val (.long (ex + v80)), .second, .unset, .unset]) at_84 rfl rfl ?_
          refine own_new X (pc' := 89) (hw _ (List.mem_of_getElem? (i := 1) rfl)) (hw _ (List.mem_of_getElem? (i := 2) rfl)) (hw _ (List.mem_of_getElem? (i := 3) rfl)) at_86 rfl (by decide) (by decide) ?_
          intro T81 h81 ad81 X81 ge_ad81 g_ad81 E81 Ex81 D81
          have F81_madeNanos : Fld Z h81 ad81 "dev/tidemark/engine/Estimate" "madeNanos" "J" (.long (0 : Int64)) := D81 (Or.inr (hw _ (List.mem_of_getElem? (i := 16) rfl))) (ty := .long) (by decide)
          have F81_horizonNanos : Fld Z h81 ad81 "dev/tidemark/engine/Estimate" "horizonNanos" "J" (.long (0 : Int64)) := D81 (Or.inr (hw _ (List.mem_of_getElem? (i := 18) rfl))) (ty := .long) (by decide)
          have F81_expectedNanos : Fld Z h81 ad81 "dev/tidemark/engine/Estimate" "expectedNanos" "J" (.long (0 : Int64)) := D81 (Or.inr (hw _ (List.mem_of_getElem? (i := 20) rfl))) (ty := .long) (by decide)
          have F81_spreadNanos : Fld Z h81 ad81 "dev/tidemark/engine/Estimate" "spreadNanos" "J" (.long (0 : Int64)) := D81 (Or.inr (hw _ (List.mem_of_getElem? (i := 22) rfl))) (ty := .long) (by decide)
          have F81_arrivedNanos : Fld Z h81 ad81 "dev/tidemark/engine/Estimate" "arrivedNanos" "J" (.long (0 : Int64)) := D81 (Or.inr (hw _ (List.mem_of_getElem? (i := 24) rfl))) (ty := .long) (by decide)
          have F81_hasInterval : Fld Z h81 ad81 "dev/tidemark/engine/Estimate" "hasInterval" "Z" (.int (0 : Int32)) := D81 (Or.inr (hw _ (List.mem_of_getElem? (i := 26) rfl))) (ty := .boolean) (by decide)
          have F81_errorKept : Fld Z h81 ad81 "dev/tidemark/engine/Estimate" "errorKept" "Z" (.int (0 : Int32)) := D81 (Or.inr (hw _ (List.mem_of_getElem? (i := 28) rfl))) (ty := .boolean) (by decide)
          refine own_dup X81 (pc' := 90) at_89 rfl rfl ?_
          refine own_lloadN X81 (pc' := 91) at_90 rfl rfl ?_
          refine own_lloadN X81 (pc' := 92) at_91 rfl rfl ?_
          refine own_lload X81 (pc' := 94) at_92 rfl rfl ?_
          refine own_lload X81 (pc' := 96) at_94 rfl rfl ?_
          refine own_lload X81 (pc' := 98) at_96 rfl rfl ?_
          refine own_iload X81 (pc' := 100) at_98 rfl rfl ?_
          refine own_iload X81 (pc' := 102) at_100 rfl rfl ?_
          refine own_callI X81 (W := 1) (a := ad81) (argsL := [(.long made), (.long hor), (.long ex), (.long v68), (.long (ex + v80)), (.int (1 : Int32)), (.int (0 : Int32))]) (rest := [(.ref ad81)]) (S' := [(.ref ad81)]) (pc' := 105) (rm1_10 l Z a0 hw n0 ad81 made hor ex v68 (ex + v80) h81 X81.size ⟨Ex81, F81_madeNanos, F81_horizonNanos, F81_expectedNanos, F81_spreadNanos, F81_arrivedNanos, F81_hasInterval, F81_errorKept⟩ ge_ad81) rfl (hw _ (List.mem_of_getElem? (i := 4) rfl)) (hw _ (List.mem_of_getElem? (i := 5) rfl)) (hw _ (List.mem_of_getElem? (i := 3) rfl)) (hw _ (List.mem_of_getElem? (i := 6) rfl)) (by decide) (by decide) (by decide) rfl rfl (by decide) (by decide) (lenOf pd_1 rfl) rfl (by first | decide | exact Nat.le_of_eq rfl) rfl at_102 rfl rfl ?_
          intro T82 h82 X82 qq82
          obtain ⟨⟨Ex83, F83_madeNanos, F83_horizonNanos, F83_expectedNanos, F83_spreadNanos, F83_arrivedNanos, F83_hasInterval, F83_errorKept⟩, K83⟩ := qq82
          refine own_astore X82 (pc' := 107) (Ls' := #[.val (.long made), .second, .val (.long hor), .second, .val (.long ex), .second, .val (.long spr), .second, .val (.long ofr), .second, .val (.int flags), .val (.int (1 : Int32)), .val (.int (0 : Int32)), .val (.long v68), .second, .val (.long v80), .second, .val (.long (ex + v80)), .second, .val (.ref ad81), .unset]) at_105 rfl rfl rfl ?_
          refine own_lload X82 (pc' := 109) at_107 rfl rfl ?_
          refine own_ldc2 X82 (pc' := 112) (hw _ (List.mem_of_getElem? (i := 29) rfl)) at_109 rfl ?_
          refine own_lcmp X82 (pc' := 113) at_112 rfl ?_
          refine own_ifl_eq X82 (pct := 131) (pc' := 116) at_113 rfl (by decide) (by decide) (fun hc113_84 => ?_) (fun hc113_84 => ?_)
          · refine own_iconst X82 (v := (0 : Int32)) (pc' := 132) at_131 rfl (by decide) ?_
            refine own_istore X82 (pc' := 134) (Ls' := #[.val (.long made), .second, .val (.long hor), .second, .val (.long ex), .second, .val (.long spr), .second, .val (.long ofr), .second, .val (.int flags), .val (.int (1 : Int32)), .val (.int (0 : Int32)), .val (.long v68), .second, .val (.long v80), .second, .val (.long (ex + v80)), .second, .val (.ref ad81), .val (.int (0 : Int32))]) at_132 rfl rfl ?_
            refine own_aload X82 (pc' := 136) at_134 rfl rfl rfl ?_
            refine own_callV X82 (W := 0) (a := ad81) (argsL := []) (rest := []) (S' := [(.int (own_hit (1 : Int32) ((ex + v80) - ex) v68))]) (pc' := 139) (rm5 l Z a0 hw n0 ad81 h82 X82.size made hor ex v68 (ex + v80) (1 : Int32) (0 : Int32) ⟨Ex83, F83_madeNanos, F83_horizonNanos, F83_expectedNanos, F83_spreadNanos, F83_arrivedNanos, F83_hasInterval, F83_errorKept⟩) Ex83 (hw _ (List.mem_of_getElem? (i := 34) rfl)) (hw _ (List.mem_of_getElem? (i := 35) rfl)) (hw _ (List.mem_of_getElem? (i := 37) rfl)) (hw _ (List.mem_of_getElem? (i := 36) rfl)) (hw _ (List.mem_of_getElem? (i := 3) rfl)) (hw _ (List.mem_of_getElem? (i := 38) rfl)) (by decide) (by decide) (by decide) rfl rfl (by decide) (by decide) (lenOf pd_2 rfl) rfl (by first | decide | exact Nat.le_of_eq rfl) rfl at_136 rfl rfl ?_
            intro T85 h85 X85 qq85
            rw [show h85 = h82 from qq85] at X85
            refine own_iload X85 (pc' := 141) at_139 rfl rfl ?_
            refine own_if_eq X85 (pct := 153) (pc' := 144) at_141 rfl (by decide) (by decide) (fun hc => absurd hc (by decide)) (fun _ => ?_)
            refine own_iload X85 (pc' := 146) at_144 rfl rfl ?_
            refine own_if_eq X85 (pct := 153) (pc' := 149) at_146 rfl (by decide) (by decide) (fun _ => ?_) (fun hc => absurd hc (by decide))
            refine own_iconst X85 (v := (0 : Int32)) (pc' := 154) at_153 rfl (by decide) ?_
            refine own_icmp_ne X85 (pct := 161) (pc' := 157) at_154 rfl (by decide) (by decide) (fun hc => absurd hc (fun q => q (own_hmin _ _ _ hs hc113_84))) (fun _ => ?_)
            refine own_iconst X85 (v := (1 : Int32)) (pc' := 158) at_157 rfl (by decide) ?_
            refine own_goto X85 (pc' := 162) at_158 (by decide) (by decide) ?_
            subst hΦ
            exact own_retZ X85 at_162 (by decide) (by decide) (by decide) rfl trivial
          · refine own_lload X82 (pc' := 118) at_116 rfl rfl ?_
            refine own_callS X82 (W := 0) (argsL := [(.long v80)]) (rest := []) (S' := [(.long (own_abs v80))]) (pc' := 121) (rm4 l Z a0 hw n0 v80 h82 X82.size) (hw _ (List.mem_of_getElem? (i := 30) rfl)) (hw _ (List.mem_of_getElem? (i := 31) rfl)) (hw _ (List.mem_of_getElem? (i := 32) rfl)) (hw _ (List.mem_of_getElem? (i := 33) rfl)) (by decide) (by decide) (by decide) rfl rfl (by decide) (by decide) (lenOf pd_3 rfl) rfl (by first | decide | exact Nat.le_of_eq rfl) rfl at_118 rfl rfl ?_
            intro T86 h86 X86 qq86
            rw [show h86 = h82 from qq86] at X86
            refine own_lload X86 (pc' := 123) at_121 rfl rfl ?_
            refine own_lcmp X86 (pc' := 124) at_123 rfl ?_
            refine own_ifl_gt X86 (pct := 131) (pc' := 127) at_124 rfl (by decide) (by decide) (fun hc124_87 => ?_) (fun hc124_87 => ?_)
            · refine own_iconst X86 (v := (0 : Int32)) (pc' := 132) at_131 rfl (by decide) ?_
              refine own_istore X86 (pc' := 134) (Ls' := #[.val (.long made), .second, .val (.long hor), .second, .val (.long ex), .second, .val (.long spr), .second, .val (.long ofr), .second, .val (.int flags), .val (.int (1 : Int32)), .val (.int (0 : Int32)), .val (.long v68), .second, .val (.long v80), .second, .val (.long (ex + v80)), .second, .val (.ref ad81), .val (.int (0 : Int32))]) at_132 rfl rfl ?_
              refine own_aload X86 (pc' := 136) at_134 rfl rfl rfl ?_
              refine own_callV X86 (W := 0) (a := ad81) (argsL := []) (rest := []) (S' := [(.int (own_hit (1 : Int32) ((ex + v80) - ex) v68))]) (pc' := 139) (rm5 l Z a0 hw n0 ad81 h82 X86.size made hor ex v68 (ex + v80) (1 : Int32) (0 : Int32) ⟨Ex83, F83_madeNanos, F83_horizonNanos, F83_expectedNanos, F83_spreadNanos, F83_arrivedNanos, F83_hasInterval, F83_errorKept⟩) Ex83 (hw _ (List.mem_of_getElem? (i := 34) rfl)) (hw _ (List.mem_of_getElem? (i := 35) rfl)) (hw _ (List.mem_of_getElem? (i := 37) rfl)) (hw _ (List.mem_of_getElem? (i := 36) rfl)) (hw _ (List.mem_of_getElem? (i := 3) rfl)) (hw _ (List.mem_of_getElem? (i := 38) rfl)) (by decide) (by decide) (by decide) rfl rfl (by decide) (by decide) (lenOf pd_2 rfl) rfl (by first | decide | exact Nat.le_of_eq rfl) rfl at_136 rfl rfl ?_
              intro T88 h88 X88 qq88
              rw [show h88 = h82 from qq88] at X88
              refine own_iload X88 (pc' := 141) at_139 rfl rfl ?_
              refine own_if_eq X88 (pct := 153) (pc' := 144) at_141 rfl (by decide) (by decide) (fun hc => absurd hc (by decide)) (fun _ => ?_)
              refine own_iload X88 (pc' := 146) at_144 rfl rfl ?_
              refine own_if_eq X88 (pct := 153) (pc' := 149) at_146 rfl (by decide) (by decide) (fun _ => ?_) (fun hc => absurd hc (by decide))
              refine own_iconst X88 (v := (0 : Int32)) (pc' := 154) at_153 rfl (by decide) ?_
              refine own_icmp_ne X88 (pct := 161) (pc' := 157) at_154 rfl (by decide) (by decide) (fun hc => absurd hc (fun q => q (own_hgt _ _ _ hs hc124_87 hc113_84))) (fun _ => ?_)
              refine own_iconst X88 (v := (1 : Int32)) (pc' := 158) at_157 rfl (by decide) ?_
              refine own_goto X88 (pc' := 162) at_158 (by decide) (by decide) ?_
              subst hΦ
              exact own_retZ X88 at_162 (by decide) (by decide) (by decide) rfl trivial
            · refine own_iconst X86 (v := (1 : Int32)) (pc' := 128) at_127 rfl (by decide) ?_
              refine own_goto X86 (pc' := 132) at_128 (by decide) (by decide) ?_
              refine own_istore X86 (pc' := 134) (Ls' := #[.val (.long made), .second, .val (.long hor), .second, .val (.long ex), .second, .val (.long spr), .second, .val (.long ofr), .second, .val (.int flags), .val (.int (1 : Int32)), .val (.int (0 : Int32)), .val (.long v68), .second, .val (.long v80), .second, .val (.long (ex + v80)), .second, .val (.ref ad81), .val (.int (1 : Int32))]) at_132 rfl rfl ?_
              refine own_aload X86 (pc' := 136) at_134 rfl rfl rfl ?_
              refine own_callV X86 (W := 0) (a := ad81) (argsL := []) (rest := []) (S' := [(.int (own_hit (1 : Int32) ((ex + v80) - ex) v68))]) (pc' := 139) (rm5 l Z a0 hw n0 ad81 h82 X86.size made hor ex v68 (ex + v80) (1 : Int32) (0 : Int32) ⟨Ex83, F83_madeNanos, F83_horizonNanos, F83_expectedNanos, F83_spreadNanos, F83_arrivedNanos, F83_hasInterval, F83_errorKept⟩) Ex83 (hw _ (List.mem_of_getElem? (i := 34) rfl)) (hw _ (List.mem_of_getElem? (i := 35) rfl)) (hw _ (List.mem_of_getElem? (i := 37) rfl)) (hw _ (List.mem_of_getElem? (i := 36) rfl)) (hw _ (List.mem_of_getElem? (i := 3) rfl)) (hw _ (List.mem_of_getElem? (i := 38) rfl)) (by decide) (by decide) (by decide) rfl rfl (by decide) (by decide) (lenOf pd_2 rfl) rfl (by first | decide | exact Nat.le_of_eq rfl) rfl at_136 rfl rfl ?_
              intro T89 h89 X89 qq89
              rw [show h89 = h82 from qq89] at X89
              refine own_iload X89 (pc' := 141) at_139 rfl rfl ?_
              refine own_if_eq X89 (pct := 153) (pc' := 144) at_141 rfl (by decide) (by decide) (fun hc => absurd hc (by decide)) (fun _ => ?_)
              refine own_iload X89 (pc' := 146) at_144 rfl rfl ?_
              refine own_if_eq X89 (pct := 153) (pc' := 149) at_146 rfl (by decide) (by decide) (fun hc => absurd hc (by decide)) (fun _ => ?_)
              refine own_iconst X89 (v := (1 : Int32)) (pc' := 150) at_149 rfl (by decide) ?_
              refine own_goto X89 (pc' := 154) at_150 (by decide) (by decide) ?_
              refine own_icmp_ne X89 (pct := 161) (pc' := 157) at_154 rfl (by decide) (by decide) (fun hc => absurd hc (fun q => q (own_hin _ _ _ hs hc124_87 hc113_84))) (fun _ => ?_)
              refine own_iconst X89 (v := (1 : Int32)) (pc' := 158) at_157 rfl (by decide) ?_
              refine own_goto X89 (pc' := 162) at_158 (by decide) (by decide) ?_
              subst hΦ
              exact own_retZ X89 at_162 (by decide) (by decide) (by decide) rfl trivial
        · refine own_lload X (pc' := 57) at_55 rfl rfl ?_
          refine own_goto X (pc' := 63) at_57 (by decide) (by decide) ?_
          refine own_lstore X (pc' := 65) (Ls' := #[.val (.long made), .second, .val (.long hor), .second, .val (.long ex), .second, .val (.long spr), .second, .val (.long ofr), .second, .val (.int flags), .val (.int (1 : Int32)), .val (.int (0 : Int32)), .val (.long v68), .second, .val (.long ofr), .second, .val (.long v68), .second, .unset, .unset]) at_63 rfl rfl ?_
          refine own_lload X (pc' := 67) at_65 rfl rfl ?_
          refine own_iload X (pc' := 69) at_67 rfl rfl ?_
          refine own_iconst X (v := (4 : Int32)) (pc' := 70) at_69 rfl (by decide) ?_
          refine own_iushr X (r := ((flags.toUInt32 >>> ((4 : Int32) &&& 31).toUInt32).toInt32)) (pc' := 71) at_70 rfl rfl ?_
          refine own_iconst X (v := (3 : Int32)) (pc' := 72) at_71 rfl (by decide) ?_
          refine own_iand X (r := (((flags.toUInt32 >>> ((4 : Int32) &&& 31).toUInt32).toInt32) &&& (3 : Int32))) (pc' := 73) at_72 rfl rfl ?_
          refine own_iconst X (v := (1 : Int32)) (pc' := 74) at_73 rfl (by decide) ?_
          refine own_isub X (r := ((((flags.toUInt32 >>> ((4 : Int32) &&& 31).toUInt32).toInt32) &&& (3 : Int32)) - (1 : Int32))) (pc' := 75) at_74 rfl rfl ?_
          refine own_i2l X (r := (((((flags.toUInt32 >>> ((4 : Int32) &&& 31).toUInt32).toInt32) &&& (3 : Int32)) - (1 : Int32)).toInt64)) (pc' := 76) at_75 rfl rfl ?_
          refine own_ladd X (r := (v68 + (((((flags.toUInt32 >>> ((4 : Int32) &&& 31).toUInt32).toInt32) &&& (3 : Int32)) - (1 : Int32)).toInt64))) (pc' := 77) at_76 rfl rfl ?_
          refine own_lstore X (pc' := 79) (Ls' := #[.val (.long made), .second, .val (.long hor), .second, .val (.long ex), .second, .val (.long spr), .second, .val (.long ofr), .second, .val (.int flags), .val (.int (1 : Int32)), .val (.int (0 : Int32)), .val (.long v68), .second, .val (.long (v68 + (((((flags.toUInt32 >>> ((4 : Int32) &&& 31).toUInt32).toInt32) &&& (3 : Int32)) - (1 : Int32)).toInt64))), .second, .val (.long v68), .second, .unset, .unset]) at_77 rfl rfl ?_
          generalize e90 : (v68 + (((((flags.toUInt32 >>> ((4 : Int32) &&& 31).toUInt32).toInt32) &&& (3 : Int32)) - (1 : Int32)).toInt64)) = v90
          refine own_lload X (pc' := 81) at_79 rfl rfl ?_
          refine own_lload X (pc' := 83) at_81 rfl rfl ?_
          refine own_ladd X (r := (ex + v90)) (pc' := 84) at_83 rfl rfl ?_
          refine own_lstore X (pc' := 86) (Ls' := #[.val (.long made), .second, .val (.long hor), .second, .val (.long ex), .second, .val (.long spr), .second, .val (.long ofr), .second, .val (.int flags), .val (.int (1 : Int32)), .val (.int (0 : Int32)), .val (.long v68), .second, .val (.long v90), .second, .val (.long (ex + v90)), .second, .unset, .unset]) at_84 rfl rfl ?_
          refine own_new X (pc' := 89) (hw _ (List.mem_of_getElem? (i := 1) rfl)) (hw _ (List.mem_of_getElem? (i := 2) rfl)) (hw _ (List.mem_of_getElem? (i := 3) rfl)) at_86 rfl (by decide) (by decide) ?_
          intro T91 h91 ad91 X91 ge_ad91 g_ad91 E91 Ex91 D91
          have F91_madeNanos : Fld Z h91 ad91 "dev/tidemark/engine/Estimate" "madeNanos" "J" (.long (0 : Int64)) := D91 (Or.inr (hw _ (List.mem_of_getElem? (i := 16) rfl))) (ty := .long) (by decide)
          have F91_horizonNanos : Fld Z h91 ad91 "dev/tidemark/engine/Estimate" "horizonNanos" "J" (.long (0 : Int64)) := D91 (Or.inr (hw _ (List.mem_of_getElem? (i := 18) rfl))) (ty := .long) (by decide)
          have F91_expectedNanos : Fld Z h91 ad91 "dev/tidemark/engine/Estimate" "expectedNanos" "J" (.long (0 : Int64)) := D91 (Or.inr (hw _ (List.mem_of_getElem? (i := 20) rfl))) (ty := .long) (by decide)
          have F91_spreadNanos : Fld Z h91 ad91 "dev/tidemark/engine/Estimate" "spreadNanos" "J" (.long (0 : Int64)) := D91 (Or.inr (hw _ (List.mem_of_getElem? (i := 22) rfl))) (ty := .long) (by decide)
          have F91_arrivedNanos : Fld Z h91 ad91 "dev/tidemark/engine/Estimate" "arrivedNanos" "J" (.long (0 : Int64)) := D91 (Or.inr (hw _ (List.mem_of_getElem? (i := 24) rfl))) (ty := .long) (by decide)
          have F91_hasInterval : Fld Z h91 ad91 "dev/tidemark/engine/Estimate" "hasInterval" "Z" (.int (0 : Int32)) := D91 (Or.inr (hw _ (List.mem_of_getElem? (i := 26) rfl))) (ty := .boolean) (by decide)
          have F91_errorKept : Fld Z h91 ad91 "dev/tidemark/engine/Estimate" "errorKept" "Z" (.int (0 : Int32)) := D91 (Or.inr (hw _ (List.mem_of_getElem? (i := 28) rfl))) (ty := .boolean) (by decide)
          refine own_dup X91 (pc' := 90) at_89 rfl rfl ?_
          refine own_lloadN X91 (pc' := 91) at_90 rfl rfl ?_
          refine own_lloadN X91 (pc' := 92) at_91 rfl rfl ?_
          refine own_lload X91 (pc' := 94) at_92 rfl rfl ?_
          refine own_lload X91 (pc' := 96) at_94 rfl rfl ?_
          refine own_lload X91 (pc' := 98) at_96 rfl rfl ?_
          refine own_iload X91 (pc' := 100) at_98 rfl rfl ?_
          refine own_iload X91 (pc' := 102) at_100 rfl rfl ?_
          refine own_callI X91 (W := 1) (a := ad91) (argsL := [(.long made), (.long hor), (.long ex), (.long v68), (.long (ex + v90)), (.int (1 : Int32)), (.int (0 : Int32))]) (rest := [(.ref ad91)]) (S' := [(.ref ad91)]) (pc' := 105) (rm1_10 l Z a0 hw n0 ad91 made hor ex v68 (ex + v90) h91 X91.size ⟨Ex91, F91_madeNanos, F91_horizonNanos, F91_expectedNanos, F91_spreadNanos, F91_arrivedNanos, F91_hasInterval, F91_errorKept⟩ ge_ad91) rfl (hw _ (List.mem_of_getElem? (i := 4) rfl)) (hw _ (List.mem_of_getElem? (i := 5) rfl)) (hw _ (List.mem_of_getElem? (i := 3) rfl)) (hw _ (List.mem_of_getElem? (i := 6) rfl)) (by decide) (by decide) (by decide) rfl rfl (by decide) (by decide) (lenOf pd_1 rfl) rfl (by first | decide | exact Nat.le_of_eq rfl) rfl at_102 rfl rfl ?_
          intro T92 h92 X92 qq92
          obtain ⟨⟨Ex93, F93_madeNanos, F93_horizonNanos, F93_expectedNanos, F93_spreadNanos, F93_arrivedNanos, F93_hasInterval, F93_errorKept⟩, K93⟩ := qq92
          refine own_astore X92 (pc' := 107) (Ls' := #[.val (.long made), .second, .val (.long hor), .second, .val (.long ex), .second, .val (.long spr), .second, .val (.long ofr), .second, .val (.int flags), .val (.int (1 : Int32)), .val (.int (0 : Int32)), .val (.long v68), .second, .val (.long v90), .second, .val (.long (ex + v90)), .second, .val (.ref ad91), .unset]) at_105 rfl rfl rfl ?_
          refine own_lload X92 (pc' := 109) at_107 rfl rfl ?_
          refine own_ldc2 X92 (pc' := 112) (hw _ (List.mem_of_getElem? (i := 29) rfl)) at_109 rfl ?_
          refine own_lcmp X92 (pc' := 113) at_112 rfl ?_
          refine own_ifl_eq X92 (pct := 131) (pc' := 116) at_113 rfl (by decide) (by decide) (fun hc113_94 => ?_) (fun hc113_94 => ?_)
          · refine own_iconst X92 (v := (0 : Int32)) (pc' := 132) at_131 rfl (by decide) ?_
            refine own_istore X92 (pc' := 134) (Ls' := #[.val (.long made), .second, .val (.long hor), .second, .val (.long ex), .second, .val (.long spr), .second, .val (.long ofr), .second, .val (.int flags), .val (.int (1 : Int32)), .val (.int (0 : Int32)), .val (.long v68), .second, .val (.long v90), .second, .val (.long (ex + v90)), .second, .val (.ref ad91), .val (.int (0 : Int32))]) at_132 rfl rfl ?_
            refine own_aload X92 (pc' := 136) at_134 rfl rfl rfl ?_
            refine own_callV X92 (W := 0) (a := ad91) (argsL := []) (rest := []) (S' := [(.int (own_hit (1 : Int32) ((ex + v90) - ex) v68))]) (pc' := 139) (rm5 l Z a0 hw n0 ad91 h92 X92.size made hor ex v68 (ex + v90) (1 : Int32) (0 : Int32) ⟨Ex93, F93_madeNanos, F93_horizonNanos, F93_expectedNanos, F93_spreadNanos, F93_arrivedNanos, F93_hasInterval, F93_errorKept⟩) Ex93 (hw _ (List.mem_of_getElem? (i := 34) rfl)) (hw _ (List.mem_of_getElem? (i := 35) rfl)) (hw _ (List.mem_of_getElem? (i := 37) rfl)) (hw _ (List.mem_of_getElem? (i := 36) rfl)) (hw _ (List.mem_of_getElem? (i := 3) rfl)) (hw _ (List.mem_of_getElem? (i := 38) rfl)) (by decide) (by decide) (by decide) rfl rfl (by decide) (by decide) (lenOf pd_2 rfl) rfl (by first | decide | exact Nat.le_of_eq rfl) rfl at_136 rfl rfl ?_
            intro T95 h95 X95 qq95
            rw [show h95 = h92 from qq95] at X95
            refine own_iload X95 (pc' := 141) at_139 rfl rfl ?_
            refine own_if_eq X95 (pct := 153) (pc' := 144) at_141 rfl (by decide) (by decide) (fun hc => absurd hc (by decide)) (fun _ => ?_)
            refine own_iload X95 (pc' := 146) at_144 rfl rfl ?_
            refine own_if_eq X95 (pct := 153) (pc' := 149) at_146 rfl (by decide) (by decide) (fun _ => ?_) (fun hc => absurd hc (by decide))
            refine own_iconst X95 (v := (0 : Int32)) (pc' := 154) at_153 rfl (by decide) ?_
            refine own_icmp_ne X95 (pct := 161) (pc' := 157) at_154 rfl (by decide) (by decide) (fun hc => absurd hc (fun q => q (own_hmin _ _ _ hs hc113_94))) (fun _ => ?_)
            refine own_iconst X95 (v := (1 : Int32)) (pc' := 158) at_157 rfl (by decide) ?_
            refine own_goto X95 (pc' := 162) at_158 (by decide) (by decide) ?_
            subst hΦ
            exact own_retZ X95 at_162 (by decide) (by decide) (by decide) rfl trivial
          · refine own_lload X92 (pc' := 118) at_116 rfl rfl ?_
            refine own_callS X92 (W := 0) (argsL := [(.long v90)]) (rest := []) (S' := [(.long (own_abs v90))]) (pc' := 121) (rm4 l Z a0 hw n0 v90 h92 X92.size) (hw _ (List.mem_of_getElem? (i := 30) rfl)) (hw _ (List.mem_of_getElem? (i := 31) rfl)) (hw _ (List.mem_of_getElem? (i := 32) rfl)) (hw _ (List.mem_of_getElem? (i := 33) rfl)) (by decide) (by decide) (by decide) rfl rfl (by decide) (by decide) (lenOf pd_3 rfl) rfl (by first | decide | exact Nat.le_of_eq rfl) rfl at_118 rfl rfl ?_
            intro T96 h96 X96 qq96
            rw [show h96 = h92 from qq96] at X96
            refine own_lload X96 (pc' := 123) at_121 rfl rfl ?_
            refine own_lcmp X96 (pc' := 124) at_123 rfl ?_
            refine own_ifl_gt X96 (pct := 131) (pc' := 127) at_124 rfl (by decide) (by decide) (fun hc124_97 => ?_) (fun hc124_97 => ?_)
            · refine own_iconst X96 (v := (0 : Int32)) (pc' := 132) at_131 rfl (by decide) ?_
              refine own_istore X96 (pc' := 134) (Ls' := #[.val (.long made), .second, .val (.long hor), .second, .val (.long ex), .second, .val (.long spr), .second, .val (.long ofr), .second, .val (.int flags), .val (.int (1 : Int32)), .val (.int (0 : Int32)), .val (.long v68), .second, .val (.long v90), .second, .val (.long (ex + v90)), .second, .val (.ref ad91), .val (.int (0 : Int32))]) at_132 rfl rfl ?_
              refine own_aload X96 (pc' := 136) at_134 rfl rfl rfl ?_
              refine own_callV X96 (W := 0) (a := ad91) (argsL := []) (rest := []) (S' := [(.int (own_hit (1 : Int32) ((ex + v90) - ex) v68))]) (pc' := 139) (rm5 l Z a0 hw n0 ad91 h92 X96.size made hor ex v68 (ex + v90) (1 : Int32) (0 : Int32) ⟨Ex93, F93_madeNanos, F93_horizonNanos, F93_expectedNanos, F93_spreadNanos, F93_arrivedNanos, F93_hasInterval, F93_errorKept⟩) Ex93 (hw _ (List.mem_of_getElem? (i := 34) rfl)) (hw _ (List.mem_of_getElem? (i := 35) rfl)) (hw _ (List.mem_of_getElem? (i := 37) rfl)) (hw _ (List.mem_of_getElem? (i := 36) rfl)) (hw _ (List.mem_of_getElem? (i := 3) rfl)) (hw _ (List.mem_of_getElem? (i := 38) rfl)) (by decide) (by decide) (by decide) rfl rfl (by decide) (by decide) (lenOf pd_2 rfl) rfl (by first | decide | exact Nat.le_of_eq rfl) rfl at_136 rfl rfl ?_
              intro T98 h98 X98 qq98
              rw [show h98 = h92 from qq98] at X98
              refine own_iload X98 (pc' := 141) at_139 rfl rfl ?_
              refine own_if_eq X98 (pct := 153) (pc' := 144) at_141 rfl (by decide) (by decide) (fun hc => absurd hc (by decide)) (fun _ => ?_)
              refine own_iload X98 (pc' := 146) at_144 rfl rfl ?_
              refine own_if_eq X98 (pct := 153) (pc' := 149) at_146 rfl (by decide) (by decide) (fun _ => ?_) (fun hc => absurd hc (by decide))
              refine own_iconst X98 (v := (0 : Int32)) (pc' := 154) at_153 rfl (by decide) ?_
              refine own_icmp_ne X98 (pct := 161) (pc' := 157) at_154 rfl (by decide) (by decide) (fun hc => absurd hc (fun q => q (own_hgt _ _ _ hs hc124_97 hc113_94))) (fun _ => ?_)
              refine own_iconst X98 (v := (1 : Int32)) (pc' := 158) at_157 rfl (by decide) ?_
              refine own_goto X98 (pc' := 162) at_158 (by decide) (by decide) ?_
              subst hΦ
              exact own_retZ X98 at_162 (by decide) (by decide) (by decide) rfl trivial
            · refine own_iconst X96 (v := (1 : Int32)) (pc' := 128) at_127 rfl (by decide) ?_
              refine own_goto X96 (pc' := 132) at_128 (by decide) (by decide) ?_
              refine own_istore X96 (pc' := 134) (Ls' := #[.val (.long made), .second, .val (.long hor), .second, .val (.long ex), .second, .val (.long spr), .second, .val (.long ofr), .second, .val (.int flags), .val (.int (1 : Int32)), .val (.int (0 : Int32)), .val (.long v68), .second, .val (.long v90), .second, .val (.long (ex + v90)), .second, .val (.ref ad91), .val (.int (1 : Int32))]) at_132 rfl rfl ?_
              refine own_aload X96 (pc' := 136) at_134 rfl rfl rfl ?_
              refine own_callV X96 (W := 0) (a := ad91) (argsL := []) (rest := []) (S' := [(.int (own_hit (1 : Int32) ((ex + v90) - ex) v68))]) (pc' := 139) (rm5 l Z a0 hw n0 ad91 h92 X96.size made hor ex v68 (ex + v90) (1 : Int32) (0 : Int32) ⟨Ex93, F93_madeNanos, F93_horizonNanos, F93_expectedNanos, F93_spreadNanos, F93_arrivedNanos, F93_hasInterval, F93_errorKept⟩) Ex93 (hw _ (List.mem_of_getElem? (i := 34) rfl)) (hw _ (List.mem_of_getElem? (i := 35) rfl)) (hw _ (List.mem_of_getElem? (i := 37) rfl)) (hw _ (List.mem_of_getElem? (i := 36) rfl)) (hw _ (List.mem_of_getElem? (i := 3) rfl)) (hw _ (List.mem_of_getElem? (i := 38) rfl)) (by decide) (by decide) (by decide) rfl rfl (by decide) (by decide) (lenOf pd_2 rfl) rfl (by first | decide | exact Nat.le_of_eq rfl) rfl at_136 rfl rfl ?_
              intro T99 h99 X99 qq99
              rw [show h99 = h92 from qq99] at X99
              refine own_iload X99 (pc' := 141) at_139 rfl rfl ?_
              refine own_if_eq X99 (pct := 153) (pc' := 144) at_141 rfl (by decide) (by decide) (fun hc => absurd hc (by decide)) (fun _ => ?_)
              refine own_iload X99 (pc' := 146) at_144 rfl rfl ?_
              refine own_if_eq X99 (pct := 153) (pc' := 149) at_146 rfl (by decide) (by decide) (fun hc => absurd hc (by decide)) (fun _ => ?_)
              refine own_iconst X99 (v := (1 : Int32)) (pc' := 150) at_149 rfl (by decide) ?_
              refine own_goto X99 (pc' := 154) at_150 (by decide) (by decide) ?_
              refine own_icmp_ne X99 (pct := 161) (pc' := 157) at_154 rfl (by decide) (by decide) (fun hc => absurd hc (fun q => q (own_hin _ _ _ hs hc124_97 hc113_94))) (fun _ => ?_)
              refine own_iconst X99 (v := (1 : Int32)) (pc' := 158) at_157 rfl (by decide) ?_
              refine own_goto X99 (pc' := 162) at_158 (by decide) (by decide) ?_
              subst hΦ
              exact own_retZ X99 at_162 (by decide) (by decide) (by decide) rfl trivial
    · refine own_iconst X (v := (1 : Int32)) (pc' := 22) at_21 rfl (by decide) ?_
      refine own_goto X (pc' := 26) at_22 (by decide) (by decide) ?_
      refine own_istore X (pc' := 28) (Ls' := #[.val (.long made), .second, .val (.long hor), .second, .val (.long ex), .second, .val (.long spr), .second, .val (.long ofr), .second, .val (.int flags), .val (.int (1 : Int32)), .val (.int (1 : Int32)), .unset, .unset, .unset, .unset, .unset, .unset, .unset, .unset]) at_26 rfl rfl ?_
      refine own_lload X (pc' := 30) at_28 rfl rfl ?_
      refine own_ldc2 X (pc' := 33) (hw _ (List.mem_of_getElem? (i := 0) rfl)) at_30 rfl ?_
      refine own_land X (r := (spr &&& (9223372036854775807 : Int64))) (pc' := 34) at_33 rfl rfl ?_
      refine own_lstore X (pc' := 36) (Ls' := #[.val (.long made), .second, .val (.long hor), .second, .val (.long ex), .second, .val (.long spr), .second, .val (.long ofr), .second, .val (.int flags), .val (.int (1 : Int32)), .val (.int (1 : Int32)), .val (.long (spr &&& (9223372036854775807 : Int64))), .second, .unset, .unset, .unset, .unset, .unset, .unset]) at_34 rfl rfl ?_
      generalize e100 : (spr &&& (9223372036854775807 : Int64)) = v100
      have hs : 0 ≤ v100.toInt := by rw [← e100]; exact own_sp _
      refine own_lload X (pc' := 38) at_36 rfl rfl ?_
      refine own_lstore X (pc' := 40) (Ls' := #[.val (.long made), .second, .val (.long hor), .second, .val (.long ex), .second, .val (.long spr), .second, .val (.long ofr), .second, .val (.int flags), .val (.int (1 : Int32)), .val (.int (1 : Int32)), .val (.long v100), .second, .val (.long ofr), .second, .unset, .unset, .unset, .unset]) at_38 rfl rfl ?_
      refine own_iload X (pc' := 42) at_40 rfl rfl ?_
      refine own_iconst X (v := (4 : Int32)) (pc' := 43) at_42 rfl (by decide) ?_
      refine own_iand X (r := (flags &&& (4 : Int32))) (pc' := 44) at_43 rfl rfl ?_
      refine own_if_eq X (pct := 79) (pc' := 47) at_44 rfl (by decide) (by decide) (fun hc44_101 => ?_) (fun hc44_101 => ?_)
      · refine own_lload X (pc' := 81) at_79 rfl rfl ?_
        refine own_lload X (pc' := 83) at_81 rfl rfl ?_
        refine own_ladd X (r := (ex + ofr)) (pc' := 84) at_83 rfl rfl ?_
        refine own_lstore X (pc' := 86) (Ls' := #[.val (.long made), .second, .val (.long hor), .second, .val (.long ex), .second, .val (.long spr), .second, .val (.long ofr), .second, .val (.int flags), .val (.int (1 : Int32)), .val (.int (1 : Int32)), .val (.long v100), .second, .val (.long ofr), .second, .val (.long (ex + ofr)), .second, .unset, .unset]) at_84 rfl rfl ?_
        refine own_new X (pc' := 89) (hw _ (List.mem_of_getElem? (i := 1) rfl)) (hw _ (List.mem_of_getElem? (i := 2) rfl)) (hw _ (List.mem_of_getElem? (i := 3) rfl)) at_86 rfl (by decide) (by decide) ?_
        intro T102 h102 ad102 X102 ge_ad102 g_ad102 E102 Ex102 D102
        have F102_madeNanos : Fld Z h102 ad102 "dev/tidemark/engine/Estimate" "madeNanos" "J" (.long (0 : Int64)) := D102 (Or.inr (hw _ (List.mem_of_getElem? (i := 16) rfl))) (ty := .long) (by decide)
        have F102_horizonNanos : Fld Z h102 ad102 "dev/tidemark/engine/Estimate" "horizonNanos" "J" (.long (0 : Int64)) := D102 (Or.inr (hw _ (List.mem_of_getElem? (i := 18) rfl))) (ty := .long) (by decide)
        have F102_expectedNanos : Fld Z h102 ad102 "dev/tidemark/engine/Estimate" "expectedNanos" "J" (.long (0 : Int64)) := D102 (Or.inr (hw _ (List.mem_of_getElem? (i := 20) rfl))) (ty := .long) (by decide)
        have F102_spreadNanos : Fld Z h102 ad102 "dev/tidemark/engine/Estimate" "spreadNanos" "J" (.long (0 : Int64)) := D102 (Or.inr (hw _ (List.mem_of_getElem? (i := 22) rfl))) (ty := .long) (by decide)
        have F102_arrivedNanos : Fld Z h102 ad102 "dev/tidemark/engine/Estimate" "arrivedNanos" "J" (.long (0 : Int64)) := D102 (Or.inr (hw _ (List.mem_of_getElem? (i := 24) rfl))) (ty := .long) (by decide)
        have F102_hasInterval : Fld Z h102 ad102 "dev/tidemark/engine/Estimate" "hasInterval" "Z" (.int (0 : Int32)) := D102 (Or.inr (hw _ (List.mem_of_getElem? (i := 26) rfl))) (ty := .boolean) (by decide)
        have F102_errorKept : Fld Z h102 ad102 "dev/tidemark/engine/Estimate" "errorKept" "Z" (.int (0 : Int32)) := D102 (Or.inr (hw _ (List.mem_of_getElem? (i := 28) rfl))) (ty := .boolean) (by decide)
        refine own_dup X102 (pc' := 90) at_89 rfl rfl ?_
        refine own_lloadN X102 (pc' := 91) at_90 rfl rfl ?_
        refine own_lloadN X102 (pc' := 92) at_91 rfl rfl ?_
        refine own_lload X102 (pc' := 94) at_92 rfl rfl ?_
        refine own_lload X102 (pc' := 96) at_94 rfl rfl ?_
        refine own_lload X102 (pc' := 98) at_96 rfl rfl ?_
        refine own_iload X102 (pc' := 100) at_98 rfl rfl ?_
        refine own_iload X102 (pc' := 102) at_100 rfl rfl ?_
        refine own_callI X102 (W := 1) (a := ad102) (argsL := [(.long made), (.long hor), (.long ex), (.long v100), (.long (ex + ofr)), (.int (1 : Int32)), (.int (1 : Int32))]) (rest := [(.ref ad102)]) (S' := [(.ref ad102)]) (pc' := 105) (rm1_11 l Z a0 hw n0 ad102 made hor ex v100 (ex + ofr) h102 X102.size ⟨Ex102, F102_madeNanos, F102_horizonNanos, F102_expectedNanos, F102_spreadNanos, F102_arrivedNanos, F102_hasInterval, F102_errorKept⟩ ge_ad102) rfl (hw _ (List.mem_of_getElem? (i := 4) rfl)) (hw _ (List.mem_of_getElem? (i := 5) rfl)) (hw _ (List.mem_of_getElem? (i := 3) rfl)) (hw _ (List.mem_of_getElem? (i := 6) rfl)) (by decide) (by decide) (by decide) rfl rfl (by decide) (by decide) (lenOf pd_1 rfl) rfl (by first | decide | exact Nat.le_of_eq rfl) rfl at_102 rfl rfl ?_
        intro T103 h103 X103 qq103
        obtain ⟨⟨Ex104, F104_madeNanos, F104_horizonNanos, F104_expectedNanos, F104_spreadNanos, F104_arrivedNanos, F104_hasInterval, F104_errorKept⟩, K104⟩ := qq103
        refine own_astore X103 (pc' := 107) (Ls' := #[.val (.long made), .second, .val (.long hor), .second, .val (.long ex), .second, .val (.long spr), .second, .val (.long ofr), .second, .val (.int flags), .val (.int (1 : Int32)), .val (.int (1 : Int32)), .val (.long v100), .second, .val (.long ofr), .second, .val (.long (ex + ofr)), .second, .val (.ref ad102), .unset]) at_105 rfl rfl rfl ?_
        refine own_lload X103 (pc' := 109) at_107 rfl rfl ?_
        refine own_ldc2 X103 (pc' := 112) (hw _ (List.mem_of_getElem? (i := 29) rfl)) at_109 rfl ?_
        refine own_lcmp X103 (pc' := 113) at_112 rfl ?_
        refine own_ifl_eq X103 (pct := 131) (pc' := 116) at_113 rfl (by decide) (by decide) (fun hc113_105 => ?_) (fun hc113_105 => ?_)
        · refine own_iconst X103 (v := (0 : Int32)) (pc' := 132) at_131 rfl (by decide) ?_
          refine own_istore X103 (pc' := 134) (Ls' := #[.val (.long made), .second, .val (.long hor), .second, .val (.long ex), .second, .val (.long spr), .second, .val (.long ofr), .second, .val (.int flags), .val (.int (1 : Int32)), .val (.int (1 : Int32)), .val (.long v100), .second, .val (.long ofr), .second, .val (.long (ex + ofr)), .second, .val (.ref ad102), .val (.int (0 : Int32))]) at_132 rfl rfl ?_
          refine own_aload X103 (pc' := 136) at_134 rfl rfl rfl ?_
          refine own_callV X103 (W := 0) (a := ad102) (argsL := []) (rest := []) (S' := [(.int (own_hit (1 : Int32) ((ex + ofr) - ex) v100))]) (pc' := 139) (rm5 l Z a0 hw n0 ad102 h103 X103.size made hor ex v100 (ex + ofr) (1 : Int32) (1 : Int32) ⟨Ex104, F104_madeNanos, F104_horizonNanos, F104_expectedNanos, F104_spreadNanos, F104_arrivedNanos, F104_hasInterval, F104_errorKept⟩) Ex104 (hw _ (List.mem_of_getElem? (i := 34) rfl)) (hw _ (List.mem_of_getElem? (i := 35) rfl)) (hw _ (List.mem_of_getElem? (i := 37) rfl)) (hw _ (List.mem_of_getElem? (i := 36) rfl)) (hw _ (List.mem_of_getElem? (i := 3) rfl)) (hw _ (List.mem_of_getElem? (i := 38) rfl)) (by decide) (by decide) (by decide) rfl rfl (by decide) (by decide) (lenOf pd_2 rfl) rfl (by first | decide | exact Nat.le_of_eq rfl) rfl at_136 rfl rfl ?_
          intro T106 h106 X106 qq106
          rw [show h106 = h103 from qq106] at X106
          refine own_iload X106 (pc' := 141) at_139 rfl rfl ?_
          refine own_if_eq X106 (pct := 153) (pc' := 144) at_141 rfl (by decide) (by decide) (fun hc => absurd hc (by decide)) (fun _ => ?_)
          refine own_iload X106 (pc' := 146) at_144 rfl rfl ?_
          refine own_if_eq X106 (pct := 153) (pc' := 149) at_146 rfl (by decide) (by decide) (fun _ => ?_) (fun hc => absurd hc (by decide))
          refine own_iconst X106 (v := (0 : Int32)) (pc' := 154) at_153 rfl (by decide) ?_
          refine own_icmp_ne X106 (pct := 161) (pc' := 157) at_154 rfl (by decide) (by decide) (fun hc => absurd hc (fun q => q (own_hmin _ _ _ hs hc113_105))) (fun _ => ?_)
          refine own_iconst X106 (v := (1 : Int32)) (pc' := 158) at_157 rfl (by decide) ?_
          refine own_goto X106 (pc' := 162) at_158 (by decide) (by decide) ?_
          subst hΦ
          exact own_retZ X106 at_162 (by decide) (by decide) (by decide) rfl trivial
        · refine own_lload X103 (pc' := 118) at_116 rfl rfl ?_
          refine own_callS X103 (W := 0) (argsL := [(.long ofr)]) (rest := []) (S' := [(.long (own_abs ofr))]) (pc' := 121) (rm4 l Z a0 hw n0 ofr h103 X103.size) (hw _ (List.mem_of_getElem? (i := 30) rfl)) (hw _ (List.mem_of_getElem? (i := 31) rfl)) (hw _ (List.mem_of_getElem? (i := 32) rfl)) (hw _ (List.mem_of_getElem? (i := 33) rfl)) (by decide) (by decide) (by decide) rfl rfl (by decide) (by decide) (lenOf pd_3 rfl) rfl (by first | decide | exact Nat.le_of_eq rfl) rfl at_118 rfl rfl ?_
          intro T107 h107 X107 qq107
          rw [show h107 = h103 from qq107] at X107
          refine own_lload X107 (pc' := 123) at_121 rfl rfl ?_
          refine own_lcmp X107 (pc' := 124) at_123 rfl ?_
          refine own_ifl_gt X107 (pct := 131) (pc' := 127) at_124 rfl (by decide) (by decide) (fun hc124_108 => ?_) (fun hc124_108 => ?_)
          · refine own_iconst X107 (v := (0 : Int32)) (pc' := 132) at_131 rfl (by decide) ?_
            refine own_istore X107 (pc' := 134) (Ls' := #[.val (.long made), .second, .val (.long hor), .second, .val (.long ex), .second, .val (.long spr), .second, .val (.long ofr), .second, .val (.int flags), .val (.int (1 : Int32)), .val (.int (1 : Int32)), .val (.long v100), .second, .val (.long ofr), .second, .val (.long (ex + ofr)), .second, .val (.ref ad102), .val (.int (0 : Int32))]) at_132 rfl rfl ?_
            refine own_aload X107 (pc' := 136) at_134 rfl rfl rfl ?_
            refine own_callV X107 (W := 0) (a := ad102) (argsL := []) (rest := []) (S' := [(.int (own_hit (1 : Int32) ((ex + ofr) - ex) v100))]) (pc' := 139) (rm5 l Z a0 hw n0 ad102 h103 X107.size made hor ex v100 (ex + ofr) (1 : Int32) (1 : Int32) ⟨Ex104, F104_madeNanos, F104_horizonNanos, F104_expectedNanos, F104_spreadNanos, F104_arrivedNanos, F104_hasInterval, F104_errorKept⟩) Ex104 (hw _ (List.mem_of_getElem? (i := 34) rfl)) (hw _ (List.mem_of_getElem? (i := 35) rfl)) (hw _ (List.mem_of_getElem? (i := 37) rfl)) (hw _ (List.mem_of_getElem? (i := 36) rfl)) (hw _ (List.mem_of_getElem? (i := 3) rfl)) (hw _ (List.mem_of_getElem? (i := 38) rfl)) (by decide) (by decide) (by decide) rfl rfl (by decide) (by decide) (lenOf pd_2 rfl) rfl (by first | decide | exact Nat.le_of_eq rfl) rfl at_136 rfl rfl ?_
            intro T109 h109 X109 qq109
            rw [show h109 = h103 from qq109] at X109
            refine own_iload X109 (pc' := 141) at_139 rfl rfl ?_
            refine own_if_eq X109 (pct := 153) (pc' := 144) at_141 rfl (by decide) (by decide) (fun hc => absurd hc (by decide)) (fun _ => ?_)
            refine own_iload X109 (pc' := 146) at_144 rfl rfl ?_
            refine own_if_eq X109 (pct := 153) (pc' := 149) at_146 rfl (by decide) (by decide) (fun _ => ?_) (fun hc => absurd hc (by decide))
            refine own_iconst X109 (v := (0 : Int32)) (pc' := 154) at_153 rfl (by decide) ?_
            refine own_icmp_ne X109 (pct := 161) (pc' := 157) at_154 rfl (by decide) (by decide) (fun hc => absurd hc (fun q => q (own_hgt _ _ _ hs hc124_108 hc113_105))) (fun _ => ?_)
            refine own_iconst X109 (v := (1 : Int32)) (pc' := 158) at_157 rfl (by decide) ?_
            refine own_goto X109 (pc' := 162) at_158 (by decide) (by decide) ?_
            subst hΦ
            exact own_retZ X109 at_162 (by decide) (by decide) (by decide) rfl trivial
          · refine own_iconst X107 (v := (1 : Int32)) (pc' := 128) at_127 rfl (by decide) ?_
            refine own_goto X107 (pc' := 132) at_128 (by decide) (by decide) ?_
            refine own_istore X107 (pc' := 134) (Ls' := #[.val (.long made), .second, .val (.long hor), .second, .val (.long ex), .second, .val (.long spr), .second, .val (.long ofr), .second, .val (.int flags), .val (.int (1 : Int32)), .val (.int (1 : Int32)), .val (.long v100), .second, .val (.long ofr), .second, .val (.long (ex + ofr)), .second, .val (.ref ad102), .val (.int (1 : Int32))]) at_132 rfl rfl ?_
            refine own_aload X107 (pc' := 136) at_134 rfl rfl rfl ?_
            refine own_callV X107 (W := 0) (a := ad102) (argsL := []) (rest := []) (S' := [(.int (own_hit (1 : Int32) ((ex + ofr) - ex) v100))]) (pc' := 139) (rm5 l Z a0 hw n0 ad102 h103 X107.size made hor ex v100 (ex + ofr) (1 : Int32) (1 : Int32) ⟨Ex104, F104_madeNanos, F104_horizonNanos, F104_expectedNanos, F104_spreadNanos, F104_arrivedNanos, F104_hasInterval, F104_errorKept⟩) Ex104 (hw _ (List.mem_of_getElem? (i := 34) rfl)) (hw _ (List.mem_of_getElem? (i := 35) rfl)) (hw _ (List.mem_of_getElem? (i := 37) rfl)) (hw _ (List.mem_of_getElem? (i := 36) rfl)) (hw _ (List.mem_of_getElem? (i := 3) rfl)) (hw _ (List.mem_of_getElem? (i := 38) rfl)) (by decide) (by decide) (by decide) rfl rfl (by decide) (by decide) (lenOf pd_2 rfl) rfl (by first | decide | exact Nat.le_of_eq rfl) rfl at_136 rfl rfl ?_
            intro T110 h110 X110 qq110
            rw [show h110 = h103 from qq110] at X110
            refine own_iload X110 (pc' := 141) at_139 rfl rfl ?_
            refine own_if_eq X110 (pct := 153) (pc' := 144) at_141 rfl (by decide) (by decide) (fun hc => absurd hc (by decide)) (fun _ => ?_)
            refine own_iload X110 (pc' := 146) at_144 rfl rfl ?_
            refine own_if_eq X110 (pct := 153) (pc' := 149) at_146 rfl (by decide) (by decide) (fun hc => absurd hc (by decide)) (fun _ => ?_)
            refine own_iconst X110 (v := (1 : Int32)) (pc' := 150) at_149 rfl (by decide) ?_
            refine own_goto X110 (pc' := 154) at_150 (by decide) (by decide) ?_
            refine own_icmp_ne X110 (pct := 161) (pc' := 157) at_154 rfl (by decide) (by decide) (fun hc => absurd hc (fun q => q (own_hin _ _ _ hs hc124_108 hc113_105))) (fun _ => ?_)
            refine own_iconst X110 (v := (1 : Int32)) (pc' := 158) at_157 rfl (by decide) ?_
            refine own_goto X110 (pc' := 162) at_158 (by decide) (by decide) ?_
            subst hΦ
            exact own_retZ X110 at_162 (by decide) (by decide) (by decide) rfl trivial
      · refine own_iload X (pc' := 49) at_47 rfl rfl ?_
        refine own_bipush X (v := (8 : Int32)) (pc' := 51) at_49 rfl (by decide) ?_
        refine own_iand X (r := (flags &&& (8 : Int32))) (pc' := 52) at_51 rfl rfl ?_
        refine own_if_eq X (pct := 60) (pc' := 55) at_52 rfl (by decide) (by decide) (fun hc52_111 => ?_) (fun hc52_111 => ?_)
        · refine own_lload X (pc' := 62) at_60 rfl rfl ?_
          refine own_lneg X (r := (-v100)) (pc' := 63) at_62 rfl rfl ?_
          refine own_lstore X (pc' := 65) (Ls' := #[.val (.long made), .second, .val (.long hor), .second, .val (.long ex), .second, .val (.long spr), .second, .val (.long ofr), .second, .val (.int flags), .val (.int (1 : Int32)), .val (.int (1 : Int32)), .val (.long v100), .second, .val (.long ofr), .second, .val (.long (-v100)), .second, .unset, .unset]) at_63 rfl rfl ?_
          refine own_lload X (pc' := 67) at_65 rfl rfl ?_
          refine own_iload X (pc' := 69) at_67 rfl rfl ?_
          refine own_iconst X (v := (4 : Int32)) (pc' := 70) at_69 rfl (by decide) ?_
          refine own_iushr X (r := ((flags.toUInt32 >>> ((4 : Int32) &&& 31).toUInt32).toInt32)) (pc' := 71) at_70 rfl rfl ?_
          refine own_iconst X (v := (3 : Int32)) (pc' := 72) at_71 rfl (by decide) ?_
          refine own_iand X (r := (((flags.toUInt32 >>> ((4 : Int32) &&& 31).toUInt32).toInt32) &&& (3 : Int32))) (pc' := 73) at_72 rfl rfl ?_
          refine own_iconst X (v := (1 : Int32)) (pc' := 74) at_73 rfl (by decide) ?_
          refine own_isub X (r := ((((flags.toUInt32 >>> ((4 : Int32) &&& 31).toUInt32).toInt32) &&& (3 : Int32)) - (1 : Int32))) (pc' := 75) at_74 rfl rfl ?_
          refine own_i2l X (r := (((((flags.toUInt32 >>> ((4 : Int32) &&& 31).toUInt32).toInt32) &&& (3 : Int32)) - (1 : Int32)).toInt64)) (pc' := 76) at_75 rfl rfl ?_
          refine own_ladd X (r := ((-v100) + (((((flags.toUInt32 >>> ((4 : Int32) &&& 31).toUInt32).toInt32) &&& (3 : Int32)) - (1 : Int32)).toInt64))) (pc' := 77) at_76 rfl rfl ?_
          refine own_lstore X (pc' := 79) (Ls' := #[.val (.long made), .second, .val (.long hor), .second, .val (.long ex), .second, .val (.long spr), .second, .val (.long ofr), .second, .val (.int flags), .val (.int (1 : Int32)), .val (.int (1 : Int32)), .val (.long v100), .second, .val (.long ((-v100) + (((((flags.toUInt32 >>> ((4 : Int32) &&& 31).toUInt32).toInt32) &&& (3 : Int32)) - (1 : Int32)).toInt64))), .second, .val (.long (-v100)), .second, .unset, .unset]) at_77 rfl rfl ?_
          generalize e112 : ((-v100) + (((((flags.toUInt32 >>> ((4 : Int32) &&& 31).toUInt32).toInt32) &&& (3 : Int32)) - (1 : Int32)).toInt64)) = v112
          refine own_lload X (pc' := 81) at_79 rfl rfl ?_
          refine own_lload X (pc' := 83) at_81 rfl rfl ?_
          refine own_ladd X (r := (ex + v112)) (pc' := 84) at_83 rfl rfl ?_
          refine own_lstore X (pc' := 86) (Ls' := #[.val (.long made), .second, .val (.long hor), .second, .val (.long ex), .second, .val (.long spr), .second, .val (.long ofr), .second, .val (.int flags), .val (.int (1 : Int32)), .val (.int (1 : Int32)), .val (.long v100), .second, .val (.long v112), .second, .val (.long (ex + v112)), .second, .unset, .unset]) at_84 rfl rfl ?_
          refine own_new X (pc' := 89) (hw _ (List.mem_of_getElem? (i := 1) rfl)) (hw _ (List.mem_of_getElem? (i := 2) rfl)) (hw _ (List.mem_of_getElem? (i := 3) rfl)) at_86 rfl (by decide) (by decide) ?_
          intro T113 h113 ad113 X113 ge_ad113 g_ad113 E113 Ex113 D113
          have F113_madeNanos : Fld Z h113 ad113 "dev/tidemark/engine/Estimate" "madeNanos" "J" (.long (0 : Int64)) := D113 (Or.inr (hw _ (List.mem_of_getElem? (i := 16) rfl))) (ty := .long) (by decide)
          have F113_horizonNanos : Fld Z h113 ad113 "dev/tidemark/engine/Estimate" "horizonNanos" "J" (.long (0 : Int64)) := D113 (Or.inr (hw _ (List.mem_of_getElem? (i := 18) rfl))) (ty := .long) (by decide)
          have F113_expectedNanos : Fld Z h113 ad113 "dev/tidemark/engine/Estimate" "expectedNanos" "J" (.long (0 : Int64)) := D113 (Or.inr (hw _ (List.mem_of_getElem? (i := 20) rfl))) (ty := .long) (by decide)
          have F113_spreadNanos : Fld Z h113 ad113 "dev/tidemark/engine/Estimate" "spreadNanos" "J" (.long (0 : Int64)) := D113 (Or.inr (hw _ (List.mem_of_getElem? (i := 22) rfl))) (ty := .long) (by decide)
          have F113_arrivedNanos : Fld Z h113 ad113 "dev/tidemark/engine/Estimate" "arrivedNanos" "J" (.long (0 : Int64)) := D113 (Or.inr (hw _ (List.mem_of_getElem? (i := 24) rfl))) (ty := .long) (by decide)
          have F113_hasInterval : Fld Z h113 ad113 "dev/tidemark/engine/Estimate" "hasInterval" "Z" (.int (0 : Int32)) := D113 (Or.inr (hw _ (List.mem_of_getElem? (i := 26) rfl))) (ty := .boolean) (by decide)
          have F113_errorKept : Fld Z h113 ad113 "dev/tidemark/engine/Estimate" "errorKept" "Z" (.int (0 : Int32)) := D113 (Or.inr (hw _ (List.mem_of_getElem? (i := 28) rfl))) (ty := .boolean) (by decide)
          refine own_dup X113 (pc' := 90) at_89 rfl rfl ?_
          refine own_lloadN X113 (pc' := 91) at_90 rfl rfl ?_
          refine own_lloadN X113 (pc' := 92) at_91 rfl rfl ?_
          refine own_lload X113 (pc' := 94) at_92 rfl rfl ?_
          refine own_lload X113 (pc' := 96) at_94 rfl rfl ?_
          refine own_lload X113 (pc' := 98) at_96 rfl rfl ?_
          refine own_iload X113 (pc' := 100) at_98 rfl rfl ?_
          refine own_iload X113 (pc' := 102) at_100 rfl rfl ?_
          refine own_callI X113 (W := 1) (a := ad113) (argsL := [(.long made), (.long hor), (.long ex), (.long v100), (.long (ex + v112)), (.int (1 : Int32)), (.int (1 : Int32))]) (rest := [(.ref ad113)]) (S' := [(.ref ad113)]) (pc' := 105) (rm1_11 l Z a0 hw n0 ad113 made hor ex v100 (ex + v112) h113 X113.size ⟨Ex113, F113_madeNanos, F113_horizonNanos, F113_expectedNanos, F113_spreadNanos, F113_arrivedNanos, F113_hasInterval, F113_errorKept⟩ ge_ad113) rfl (hw _ (List.mem_of_getElem? (i := 4) rfl)) (hw _ (List.mem_of_getElem? (i := 5) rfl)) (hw _ (List.mem_of_getElem? (i := 3) rfl)) (hw _ (List.mem_of_getElem? (i := 6) rfl)) (by decide) (by decide) (by decide) rfl rfl (by decide) (by decide) (lenOf pd_1 rfl) rfl (by first | decide | exact Nat.le_of_eq rfl) rfl at_102 rfl rfl ?_
          intro T114 h114 X114 qq114
          obtain ⟨⟨Ex115, F115_madeNanos, F115_horizonNanos, F115_expectedNanos, F115_spreadNanos, F115_arrivedNanos, F115_hasInterval, F115_errorKept⟩, K115⟩ := qq114
          refine own_astore X114 (pc' := 107) (Ls' := #[.val (.long made), .second, .val (.long hor), .second, .val (.long ex), .second, .val (.long spr), .second, .val (.long ofr), .second, .val (.int flags), .val (.int (1 : Int32)), .val (.int (1 : Int32)), .val (.long v100), .second, .val (.long v112), .second, .val (.long (ex + v112)), .second, .val (.ref ad113), .unset]) at_105 rfl rfl rfl ?_
          refine own_lload X114 (pc' := 109) at_107 rfl rfl ?_
          refine own_ldc2 X114 (pc' := 112) (hw _ (List.mem_of_getElem? (i := 29) rfl)) at_109 rfl ?_
          refine own_lcmp X114 (pc' := 113) at_112 rfl ?_
          refine own_ifl_eq X114 (pct := 131) (pc' := 116) at_113 rfl (by decide) (by decide) (fun hc113_116 => ?_) (fun hc113_116 => ?_)
          · refine own_iconst X114 (v := (0 : Int32)) (pc' := 132) at_131 rfl (by decide) ?_
            refine own_istore X114 (pc' := 134) (Ls' := #[.val (.long made), .second, .val (.long hor), .second, .val (.long ex), .second, .val (.long spr), .second, .val (.long ofr), .second, .val (.int flags), .val (.int (1 : Int32)), .val (.int (1 : Int32)), .val (.long v100), .second, .val (.long v112), .second, .val (.long (ex + v112)), .second, .val (.ref ad113), .val (.int (0 : Int32))]) at_132 rfl rfl ?_
            refine own_aload X114 (pc' := 136) at_134 rfl rfl rfl ?_
            refine own_callV X114 (W := 0) (a := ad113) (argsL := []) (rest := []) (S' := [(.int (own_hit (1 : Int32) ((ex + v112) - ex) v100))]) (pc' := 139) (rm5 l Z a0 hw n0 ad113 h114 X114.size made hor ex v100 (ex + v112) (1 : Int32) (1 : Int32) ⟨Ex115, F115_madeNanos, F115_horizonNanos, F115_expectedNanos, F115_spreadNanos, F115_arrivedNanos, F115_hasInterval, F115_errorKept⟩) Ex115 (hw _ (List.mem_of_getElem? (i := 34) rfl)) (hw _ (List.mem_of_getElem? (i := 35) rfl)) (hw _ (List.mem_of_getElem? (i := 37) rfl)) (hw _ (List.mem_of_getElem? (i := 36) rfl)) (hw _ (List.mem_of_getElem? (i := 3) rfl)) (hw _ (List.mem_of_getElem? (i := 38) rfl)) (by decide) (by decide) (by decide) rfl rfl (by decide) (by decide) (lenOf pd_2 rfl) rfl (by first | decide | exact Nat.le_of_eq rfl) rfl at_136 rfl rfl ?_
            intro T117 h117 X117 qq117
            rw [show h117 = h114 from qq117] at X117
            refine own_iload X117 (pc' := 141) at_139 rfl rfl ?_
            refine own_if_eq X117 (pct := 153) (pc' := 144) at_141 rfl (by decide) (by decide) (fun hc => absurd hc (by decide)) (fun _ => ?_)
            refine own_iload X117 (pc' := 146) at_144 rfl rfl ?_
            refine own_if_eq X117 (pct := 153) (pc' := 149) at_146 rfl (by decide) (by decide) (fun _ => ?_) (fun hc => absurd hc (by decide))
            refine own_iconst X117 (v := (0 : Int32)) (pc' := 154) at_153 rfl (by decide) ?_
            refine own_icmp_ne X117 (pct := 161) (pc' := 157) at_154 rfl (by decide) (by decide) (fun hc => absurd hc (fun q => q (own_hmin _ _ _ hs hc113_116))) (fun _ => ?_)
            refine own_iconst X117 (v := (1 : Int32)) (pc' := 158) at_157 rfl (by decide) ?_
            refine own_goto X117 (pc' := 162) at_158 (by decide) (by decide) ?_
            subst hΦ
            exact own_retZ X117 at_162 (by decide) (by decide) (by decide) rfl trivial
          · refine own_lload X114 (pc' := 118) at_116 rfl rfl ?_
            refine own_callS X114 (W := 0) (argsL := [(.long v112)]) (rest := []) (S' := [(.long (own_abs v112))]) (pc' := 121) (rm4 l Z a0 hw n0 v112 h114 X114.size) (hw _ (List.mem_of_getElem? (i := 30) rfl)) (hw _ (List.mem_of_getElem? (i := 31) rfl)) (hw _ (List.mem_of_getElem? (i := 32) rfl)) (hw _ (List.mem_of_getElem? (i := 33) rfl)) (by decide) (by decide) (by decide) rfl rfl (by decide) (by decide) (lenOf pd_3 rfl) rfl (by first | decide | exact Nat.le_of_eq rfl) rfl at_118 rfl rfl ?_
            intro T118 h118 X118 qq118
            rw [show h118 = h114 from qq118] at X118
            refine own_lload X118 (pc' := 123) at_121 rfl rfl ?_
            refine own_lcmp X118 (pc' := 124) at_123 rfl ?_
            refine own_ifl_gt X118 (pct := 131) (pc' := 127) at_124 rfl (by decide) (by decide) (fun hc124_119 => ?_) (fun hc124_119 => ?_)
            · refine own_iconst X118 (v := (0 : Int32)) (pc' := 132) at_131 rfl (by decide) ?_
              refine own_istore X118 (pc' := 134) (Ls' := #[.val (.long made), .second, .val (.long hor), .second, .val (.long ex), .second, .val (.long spr), .second, .val (.long ofr), .second, .val (.int flags), .val (.int (1 : Int32)), .val (.int (1 : Int32)), .val (.long v100), .second, .val (.long v112), .second, .val (.long (ex + v112)), .second, .val (.ref ad113), .val (.int (0 : Int32))]) at_132 rfl rfl ?_
              refine own_aload X118 (pc' := 136) at_134 rfl rfl rfl ?_
              refine own_callV X118 (W := 0) (a := ad113) (argsL := []) (rest := []) (S' := [(.int (own_hit (1 : Int32) ((ex + v112) - ex) v100))]) (pc' := 139) (rm5 l Z a0 hw n0 ad113 h114 X118.size made hor ex v100 (ex + v112) (1 : Int32) (1 : Int32) ⟨Ex115, F115_madeNanos, F115_horizonNanos, F115_expectedNanos, F115_spreadNanos, F115_arrivedNanos, F115_hasInterval, F115_errorKept⟩) Ex115 (hw _ (List.mem_of_getElem? (i := 34) rfl)) (hw _ (List.mem_of_getElem? (i := 35) rfl)) (hw _ (List.mem_of_getElem? (i := 37) rfl)) (hw _ (List.mem_of_getElem? (i := 36) rfl)) (hw _ (List.mem_of_getElem? (i := 3) rfl)) (hw _ (List.mem_of_getElem? (i := 38) rfl)) (by decide) (by decide) (by decide) rfl rfl (by decide) (by decide) (lenOf pd_2 rfl) rfl (by first | decide | exact Nat.le_of_eq rfl) rfl at_136 rfl rfl ?_
              intro T120 h120 X120 qq120
              rw [show h120 = h114 from qq120] at X120
              refine own_iload X120 (pc' := 141) at_139 rfl rfl ?_
              refine own_if_eq X120 (pct := 153) (pc' := 144) at_141 rfl (by decide) (by decide) (fun hc => absurd hc (by decide)) (fun _ => ?_)
              refine own_iload X120 (pc' := 146) at_144 rfl rfl ?_
              refine own_if_eq X120 (pct := 153) (pc' := 149) at_146 rfl (by decide) (by decide) (fun _ => ?_) (fun hc => absurd hc (by decide))
              refine own_iconst X120 (v := (0 : Int32)) (pc' := 154) at_153 rfl (by decide) ?_
              refine own_icmp_ne X120 (pct := 161) (pc' := 157) at_154 rfl (by decide) (by decide) (fun hc => absurd hc (fun q => q (own_hgt _ _ _ hs hc124_119 hc113_116))) (fun _ => ?_)
              refine own_iconst X120 (v := (1 : Int32)) (pc' := 158) at_157 rfl (by decide) ?_
              refine own_goto X120 (pc' := 162) at_158 (by decide) (by decide) ?_
              subst hΦ
              exact own_retZ X120 at_162 (by decide) (by decide) (by decide) rfl trivial
            · refine own_iconst X118 (v := (1 : Int32)) (pc' := 128) at_127 rfl (by decide) ?_
              refine own_goto X118 (pc' := 132) at_128 (by decide) (by decide) ?_
              refine own_istore X118 (pc' := 134) (Ls' := #[.val (.long made), .second, .val (.long hor), .second, .val (.long ex), .second, .val (.long spr), .second, .val (.long ofr), .second, .val (.int flags), .val (.int (1 : Int32)), .val (.int (1 : Int32)), .val (.long v100), .second, .val (.long v112), .second, .val (.long (ex + v112)), .second, .val (.ref ad113), .val (.int (1 : Int32))]) at_132 rfl rfl ?_
              refine own_aload X118 (pc' := 136) at_134 rfl rfl rfl ?_
              refine own_callV X118 (W := 0) (a := ad113) (argsL := []) (rest := []) (S' := [(.int (own_hit (1 : Int32) ((ex + v112) - ex) v100))]) (pc' := 139) (rm5 l Z a0 hw n0 ad113 h114 X118.size made hor ex v100 (ex + v112) (1 : Int32) (1 : Int32) ⟨Ex115, F115_madeNanos, F115_horizonNanos, F115_expectedNanos, F115_spreadNanos, F115_arrivedNanos, F115_hasInterval, F115_errorKept⟩) Ex115 (hw _ (List.mem_of_getElem? (i := 34) rfl)) (hw _ (List.mem_of_getElem? (i := 35) rfl)) (hw _ (List.mem_of_getElem? (i := 37) rfl)) (hw _ (List.mem_of_getElem? (i := 36) rfl)) (hw _ (List.mem_of_getElem? (i := 3) rfl)) (hw _ (List.mem_of_getElem? (i := 38) rfl)) (by decide) (by decide) (by decide) rfl rfl (by decide) (by decide) (lenOf pd_2 rfl) rfl (by first | decide | exact Nat.le_of_eq rfl) rfl at_136 rfl rfl ?_
              intro T121 h121 X121 qq121
              rw [show h121 = h114 from qq121] at X121
              refine own_iload X121 (pc' := 141) at_139 rfl rfl ?_
              refine own_if_eq X121 (pct := 153) (pc' := 144) at_141 rfl (by decide) (by decide) (fun hc => absurd hc (by decide)) (fun _ => ?_)
              refine own_iload X121 (pc' := 146) at_144 rfl rfl ?_
              refine own_if_eq X121 (pct := 153) (pc' := 149) at_146 rfl (by decide) (by decide) (fun hc => absurd hc (by decide)) (fun _ => ?_)
              refine own_iconst X121 (v := (1 : Int32)) (pc' := 150) at_149 rfl (by decide) ?_
              refine own_goto X121 (pc' := 154) at_150 (by decide) (by decide) ?_
              refine own_icmp_ne X121 (pct := 161) (pc' := 157) at_154 rfl (by decide) (by decide) (fun hc => absurd hc (fun q => q (own_hin _ _ _ hs hc124_119 hc113_116))) (fun _ => ?_)
              refine own_iconst X121 (v := (1 : Int32)) (pc' := 158) at_157 rfl (by decide) ?_
              refine own_goto X121 (pc' := 162) at_158 (by decide) (by decide) ?_
              subst hΦ
              exact own_retZ X121 at_162 (by decide) (by decide) (by decide) rfl trivial
        · refine own_lload X (pc' := 57) at_55 rfl rfl ?_
          refine own_goto X (pc' := 63) at_57 (by decide) (by decide) ?_
          refine own_lstore X (pc' := 65) (Ls' := #[.val (.long made), .second, .val (.long hor), .second, .val (.long ex), .second, .val (.long spr), .second, .val (.long ofr), .second, .val (.int flags), .val (.int (1 : Int32)), .val (.int (1 : Int32)), .val (.long v100), .second, .val (.long ofr), .second, .val (.long v100), .second, .unset, .unset]) at_63 rfl rfl ?_
          refine own_lload X (pc' := 67) at_65 rfl rfl ?_
          refine own_iload X (pc' := 69) at_67 rfl rfl ?_
          refine own_iconst X (v := (4 : Int32)) (pc' := 70) at_69 rfl (by decide) ?_
          refine own_iushr X (r := ((flags.toUInt32 >>> ((4 : Int32) &&& 31).toUInt32).toInt32)) (pc' := 71) at_70 rfl rfl ?_
          refine own_iconst X (v := (3 : Int32)) (pc' := 72) at_71 rfl (by decide) ?_
          refine own_iand X (r := (((flags.toUInt32 >>> ((4 : Int32) &&& 31).toUInt32).toInt32) &&& (3 : Int32))) (pc' := 73) at_72 rfl rfl ?_
          refine own_iconst X (v := (1 : Int32)) (pc' := 74) at_73 rfl (by decide) ?_
          refine own_isub X (r := ((((flags.toUInt32 >>> ((4 : Int32) &&& 31).toUInt32).toInt32) &&& (3 : Int32)) - (1 : Int32))) (pc' := 75) at_74 rfl rfl ?_
          refine own_i2l X (r := (((((flags.toUInt32 >>> ((4 : Int32) &&& 31).toUInt32).toInt32) &&& (3 : Int32)) - (1 : Int32)).toInt64)) (pc' := 76) at_75 rfl rfl ?_
          refine own_ladd X (r := (v100 + (((((flags.toUInt32 >>> ((4 : Int32) &&& 31).toUInt32).toInt32) &&& (3 : Int32)) - (1 : Int32)).toInt64))) (pc' := 77) at_76 rfl rfl ?_
          refine own_lstore X (pc' := 79) (Ls' := #[.val (.long made), .second, .val (.long hor), .second, .val (.long ex), .second, .val (.long spr), .second, .val (.long ofr), .second, .val (.int flags), .val (.int (1 : Int32)), .val (.int (1 : Int32)), .val (.long v100), .second, .val (.long (v100 + (((((flags.toUInt32 >>> ((4 : Int32) &&& 31).toUInt32).toInt32) &&& (3 : Int32)) - (1 : Int32)).toInt64))), .second, .val (.long v100), .second, .unset, .unset]) at_77 rfl rfl ?_
          generalize e122 : (v100 + (((((flags.toUInt32 >>> ((4 : Int32) &&& 31).toUInt32).toInt32) &&& (3 : Int32)) - (1 : Int32)).toInt64)) = v122
          refine own_lload X (pc' := 81) at_79 rfl rfl ?_
          refine own_lload X (pc' := 83) at_81 rfl rfl ?_
          refine own_ladd X (r := (ex + v122)) (pc' := 84) at_83 rfl rfl ?_
          refine own_lstore X (pc' := 86) (Ls' := #[.val (.long made), .second, .val (.long hor), .second, .val (.long ex), .second, .val (.long spr), .second, .val (.long ofr), .second, .val (.int flags), .val (.int (1 : Int32)), .val (.int (1 : Int32)), .val (.long v100), .second, .val (.long v122), .second, .val (.long (ex + v122)), .second, .unset, .unset]) at_84 rfl rfl ?_
          refine own_new X (pc' := 89) (hw _ (List.mem_of_getElem? (i := 1) rfl)) (hw _ (List.mem_of_getElem? (i := 2) rfl)) (hw _ (List.mem_of_getElem? (i := 3) rfl)) at_86 rfl (by decide) (by decide) ?_
          intro T123 h123 ad123 X123 ge_ad123 g_ad123 E123 Ex123 D123
          have F123_madeNanos : Fld Z h123 ad123 "dev/tidemark/engine/Estimate" "madeNanos" "J" (.long (0 : Int64)) := D123 (Or.inr (hw _ (List.mem_of_getElem? (i := 16) rfl))) (ty := .long) (by decide)
          have F123_horizonNanos : Fld Z h123 ad123 "dev/tidemark/engine/Estimate" "horizonNanos" "J" (.long (0 : Int64)) := D123 (Or.inr (hw _ (List.mem_of_getElem? (i := 18) rfl))) (ty := .long) (by decide)
          have F123_expectedNanos : Fld Z h123 ad123 "dev/tidemark/engine/Estimate" "expectedNanos" "J" (.long (0 : Int64)) := D123 (Or.inr (hw _ (List.mem_of_getElem? (i := 20) rfl))) (ty := .long) (by decide)
          have F123_spreadNanos : Fld Z h123 ad123 "dev/tidemark/engine/Estimate" "spreadNanos" "J" (.long (0 : Int64)) := D123 (Or.inr (hw _ (List.mem_of_getElem? (i := 22) rfl))) (ty := .long) (by decide)
          have F123_arrivedNanos : Fld Z h123 ad123 "dev/tidemark/engine/Estimate" "arrivedNanos" "J" (.long (0 : Int64)) := D123 (Or.inr (hw _ (List.mem_of_getElem? (i := 24) rfl))) (ty := .long) (by decide)
          have F123_hasInterval : Fld Z h123 ad123 "dev/tidemark/engine/Estimate" "hasInterval" "Z" (.int (0 : Int32)) := D123 (Or.inr (hw _ (List.mem_of_getElem? (i := 26) rfl))) (ty := .boolean) (by decide)
          have F123_errorKept : Fld Z h123 ad123 "dev/tidemark/engine/Estimate" "errorKept" "Z" (.int (0 : Int32)) := D123 (Or.inr (hw _ (List.mem_of_getElem? (i := 28) rfl))) (ty := .boolean) (by decide)
          refine own_dup X123 (pc' := 90) at_89 rfl rfl ?_
          refine own_lloadN X123 (pc' := 91) at_90 rfl rfl ?_
          refine own_lloadN X123 (pc' := 92) at_91 rfl rfl ?_
          refine own_lload X123 (pc' := 94) at_92 rfl rfl ?_
          refine own_lload X123 (pc' := 96) at_94 rfl rfl ?_
          refine own_lload X123 (pc' := 98) at_96 rfl rfl ?_
          refine own_iload X123 (pc' := 100) at_98 rfl rfl ?_
          refine own_iload X123 (pc' := 102) at_100 rfl rfl ?_
          refine own_callI X123 (W := 1) (a := ad123) (argsL := [(.long made), (.long hor), (.long ex), (.long v100), (.long (ex + v122)), (.int (1 : Int32)), (.int (1 : Int32))]) (rest := [(.ref ad123)]) (S' := [(.ref ad123)]) (pc' := 105) (rm1_11 l Z a0 hw n0 ad123 made hor ex v100 (ex + v122) h123 X123.size ⟨Ex123, F123_madeNanos, F123_horizonNanos, F123_expectedNanos, F123_spreadNanos, F123_arrivedNanos, F123_hasInterval, F123_errorKept⟩ ge_ad123) rfl (hw _ (List.mem_of_getElem? (i := 4) rfl)) (hw _ (List.mem_of_getElem? (i := 5) rfl)) (hw _ (List.mem_of_getElem? (i := 3) rfl)) (hw _ (List.mem_of_getElem? (i := 6) rfl)) (by decide) (by decide) (by decide) rfl rfl (by decide) (by decide) (lenOf pd_1 rfl) rfl (by first | decide | exact Nat.le_of_eq rfl) rfl at_102 rfl rfl ?_
          intro T124 h124 X124 qq124
          obtain ⟨⟨Ex125, F125_madeNanos, F125_horizonNanos, F125_expectedNanos, F125_spreadNanos, F125_arrivedNanos, F125_hasInterval, F125_errorKept⟩, K125⟩ := qq124
          refine own_astore X124 (pc' := 107) (Ls' := #[.val (.long made), .second, .val (.long hor), .second, .val (.long ex), .second, .val (.long spr), .second, .val (.long ofr), .second, .val (.int flags), .val (.int (1 : Int32)), .val (.int (1 : Int32)), .val (.long v100), .second, .val (.long v122), .second, .val (.long (ex + v122)), .second, .val (.ref ad123), .unset]) at_105 rfl rfl rfl ?_
          refine own_lload X124 (pc' := 109) at_107 rfl rfl ?_
          refine own_ldc2 X124 (pc' := 112) (hw _ (List.mem_of_getElem? (i := 29) rfl)) at_109 rfl ?_
          refine own_lcmp X124 (pc' := 113) at_112 rfl ?_
          refine own_ifl_eq X124 (pct := 131) (pc' := 116) at_113 rfl (by decide) (by decide) (fun hc113_126 => ?_) (fun hc113_126 => ?_)
          · refine own_iconst X124 (v := (0 : Int32)) (pc' := 132) at_131 rfl (by decide) ?_
            refine own_istore X124 (pc' := 134) (Ls' := #[.val (.long made), .second, .val (.long hor), .second, .val (.long ex), .second, .val (.long spr), .second, .val (.long ofr), .second, .val (.int flags), .val (.int (1 : Int32)), .val (.int (1 : Int32)), .val (.long v100), .second, .val (.long v122), .second, .val (.long (ex + v122)), .second, .val (.ref ad123), .val (.int (0 : Int32))]) at_132 rfl rfl ?_
            refine own_aload X124 (pc' := 136) at_134 rfl rfl rfl ?_
            refine own_callV X124 (W := 0) (a := ad123) (argsL := []) (rest := []) (S' := [(.int (own_hit (1 : Int32) ((ex + v122) - ex) v100))]) (pc' := 139) (rm5 l Z a0 hw n0 ad123 h124 X124.size made hor ex v100 (ex + v122) (1 : Int32) (1 : Int32) ⟨Ex125, F125_madeNanos, F125_horizonNanos, F125_expectedNanos, F125_spreadNanos, F125_arrivedNanos, F125_hasInterval, F125_errorKept⟩) Ex125 (hw _ (List.mem_of_getElem? (i := 34) rfl)) (hw _ (List.mem_of_getElem? (i := 35) rfl)) (hw _ (List.mem_of_getElem? (i := 37) rfl)) (hw _ (List.mem_of_getElem? (i := 36) rfl)) (hw _ (List.mem_of_getElem? (i := 3) rfl)) (hw _ (List.mem_of_getElem? (i := 38) rfl)) (by decide) (by decide) (by decide) rfl rfl (by decide) (by decide) (lenOf pd_2 rfl) rfl (by first | decide | exact Nat.le_of_eq rfl) rfl at_136 rfl rfl ?_
            intro T127 h127 X127 qq127
            rw [show h127 = h124 from qq127] at X127
            refine own_iload X127 (pc' := 141) at_139 rfl rfl ?_
            refine own_if_eq X127 (pct := 153) (pc' := 144) at_141 rfl (by decide) (by decide) (fun hc => absurd hc (by decide)) (fun _ => ?_)
            refine own_iload X127 (pc' := 146) at_144 rfl rfl ?_
            refine own_if_eq X127 (pct := 153) (pc' := 149) at_146 rfl (by decide) (by decide) (fun _ => ?_) (fun hc => absurd hc (by decide))
            refine own_iconst X127 (v := (0 : Int32)) (pc' := 154) at_153 rfl (by decide) ?_
            refine own_icmp_ne X127 (pct := 161) (pc' := 157) at_154 rfl (by decide) (by decide) (fun hc => absurd hc (fun q => q (own_hmin _ _ _ hs hc113_126))) (fun _ => ?_)
            refine own_iconst X127 (v := (1 : Int32)) (pc' := 158) at_157 rfl (by decide) ?_
            refine own_goto X127 (pc' := 162) at_158 (by decide) (by decide) ?_
            subst hΦ
            exact own_retZ X127 at_162 (by decide) (by decide) (by decide) rfl trivial
          · refine own_lload X124 (pc' := 118) at_116 rfl rfl ?_
            refine own_callS X124 (W := 0) (argsL := [(.long v122)]) (rest := []) (S' := [(.long (own_abs v122))]) (pc' := 121) (rm4 l Z a0 hw n0 v122 h124 X124.size) (hw _ (List.mem_of_getElem? (i := 30) rfl)) (hw _ (List.mem_of_getElem? (i := 31) rfl)) (hw _ (List.mem_of_getElem? (i := 32) rfl)) (hw _ (List.mem_of_getElem? (i := 33) rfl)) (by decide) (by decide) (by decide) rfl rfl (by decide) (by decide) (lenOf pd_3 rfl) rfl (by first | decide | exact Nat.le_of_eq rfl) rfl at_118 rfl rfl ?_
            intro T128 h128 X128 qq128
            rw [show h128 = h124 from qq128] at X128
            refine own_lload X128 (pc' := 123) at_121 rfl rfl ?_
            refine own_lcmp X128 (pc' := 124) at_123 rfl ?_
            refine own_ifl_gt X128 (pct := 131) (pc' := 127) at_124 rfl (by decide) (by decide) (fun hc124_129 => ?_) (fun hc124_129 => ?_)
            · refine own_iconst X128 (v := (0 : Int32)) (pc' := 132) at_131 rfl (by decide) ?_
              refine own_istore X128 (pc' := 134) (Ls' := #[.val (.long made), .second, .val (.long hor), .second, .val (.long ex), .second, .val (.long spr), .second, .val (.long ofr), .second, .val (.int flags), .val (.int (1 : Int32)), .val (.int (1 : Int32)), .val (.long v100), .second, .val (.long v122), .second, .val (.long (ex + v122)), .second, .val (.ref ad123), .val (.int (0 : Int32))]) at_132 rfl rfl ?_
              refine own_aload X128 (pc' := 136) at_134 rfl rfl rfl ?_
              refine own_callV X128 (W := 0) (a := ad123) (argsL := []) (rest := []) (S' := [(.int (own_hit (1 : Int32) ((ex + v122) - ex) v100))]) (pc' := 139) (rm5 l Z a0 hw n0 ad123 h124 X128.size made hor ex v100 (ex + v122) (1 : Int32) (1 : Int32) ⟨Ex125, F125_madeNanos, F125_horizonNanos, F125_expectedNanos, F125_spreadNanos, F125_arrivedNanos, F125_hasInterval, F125_errorKept⟩) Ex125 (hw _ (List.mem_of_getElem? (i := 34) rfl)) (hw _ (List.mem_of_getElem? (i := 35) rfl)) (hw _ (List.mem_of_getElem? (i := 37) rfl)) (hw _ (List.mem_of_getElem? (i := 36) rfl)) (hw _ (List.mem_of_getElem? (i := 3) rfl)) (hw _ (List.mem_of_getElem? (i := 38) rfl)) (by decide) (by decide) (by decide) rfl rfl (by decide) (by decide) (lenOf pd_2 rfl) rfl (by first | decide | exact Nat.le_of_eq rfl) rfl at_136 rfl rfl ?_
              intro T130 h130 X130 qq130
              rw [show h130 = h124 from qq130] at X130
              refine own_iload X130 (pc' := 141) at_139 rfl rfl ?_
              refine own_if_eq X130 (pct := 153) (pc' := 144) at_141 rfl (by decide) (by decide) (fun hc => absurd hc (by decide)) (fun _ => ?_)
              refine own_iload X130 (pc' := 146) at_144 rfl rfl ?_
              refine own_if_eq X130 (pct := 153) (pc' := 149) at_146 rfl (by decide) (by decide) (fun _ => ?_) (fun hc => absurd hc (by decide))
              refine own_iconst X130 (v := (0 : Int32)) (pc' := 154) at_153 rfl (by decide) ?_
              refine own_icmp_ne X130 (pct := 161) (pc' := 157) at_154 rfl (by decide) (by decide) (fun hc => absurd hc (fun q => q (own_hgt _ _ _ hs hc124_129 hc113_126))) (fun _ => ?_)
              refine own_iconst X130 (v := (1 : Int32)) (pc' := 158) at_157 rfl (by decide) ?_
              refine own_goto X130 (pc' := 162) at_158 (by decide) (by decide) ?_
              subst hΦ
              exact own_retZ X130 at_162 (by decide) (by decide) (by decide) rfl trivial
            · refine own_iconst X128 (v := (1 : Int32)) (pc' := 128) at_127 rfl (by decide) ?_
              refine own_goto X128 (pc' := 132) at_128 (by decide) (by decide) ?_
              refine own_istore X128 (pc' := 134) (Ls' := #[.val (.long made), .second, .val (.long hor), .second, .val (.long ex), .second, .val (.long spr), .second, .val (.long ofr), .second, .val (.int flags), .val (.int (1 : Int32)), .val (.int (1 : Int32)), .val (.long v100), .second, .val (.long v122), .second, .val (.long (ex + v122)), .second, .val (.ref ad123), .val (.int (1 : Int32))]) at_132 rfl rfl ?_
              refine own_aload X128 (pc' := 136) at_134 rfl rfl rfl ?_
              refine own_callV X128 (W := 0) (a := ad123) (argsL := []) (rest := []) (S' := [(.int (own_hit (1 : Int32) ((ex + v122) - ex) v100))]) (pc' := 139) (rm5 l Z a0 hw n0 ad123 h124 X128.size made hor ex v100 (ex + v122) (1 : Int32) (1 : Int32) ⟨Ex125, F125_madeNanos, F125_horizonNanos, F125_expectedNanos, F125_spreadNanos, F125_arrivedNanos, F125_hasInterval, F125_errorKept⟩) Ex125 (hw _ (List.mem_of_getElem? (i := 34) rfl)) (hw _ (List.mem_of_getElem? (i := 35) rfl)) (hw _ (List.mem_of_getElem? (i := 37) rfl)) (hw _ (List.mem_of_getElem? (i := 36) rfl)) (hw _ (List.mem_of_getElem? (i := 3) rfl)) (hw _ (List.mem_of_getElem? (i := 38) rfl)) (by decide) (by decide) (by decide) rfl rfl (by decide) (by decide) (lenOf pd_2 rfl) rfl (by first | decide | exact Nat.le_of_eq rfl) rfl at_136 rfl rfl ?_
              intro T131 h131 X131 qq131
              rw [show h131 = h124 from qq131] at X131
              refine own_iload X131 (pc' := 141) at_139 rfl rfl ?_
              refine own_if_eq X131 (pct := 153) (pc' := 144) at_141 rfl (by decide) (by decide) (fun hc => absurd hc (by decide)) (fun _ => ?_)
              refine own_iload X131 (pc' := 146) at_144 rfl rfl ?_
              refine own_if_eq X131 (pct := 153) (pc' := 149) at_146 rfl (by decide) (by decide) (fun hc => absurd hc (by decide)) (fun _ => ?_)
              refine own_iconst X131 (v := (1 : Int32)) (pc' := 150) at_149 rfl (by decide) ?_
              refine own_goto X131 (pc' := 154) at_150 (by decide) (by decide) ?_
              refine own_icmp_ne X131 (pct := 161) (pc' := 157) at_154 rfl (by decide) (by decide) (fun hc => absurd hc (fun q => q (own_hin _ _ _ hs hc124_129 hc113_126))) (fun _ => ?_)
              refine own_iconst X131 (v := (1 : Int32)) (pc' := 158) at_157 rfl (by decide) ?_
              refine own_goto X131 (pc' := 162) at_158 (by decide) (by decide) ?_
              subst hΦ
              exact own_retZ X131 at_162 (by decide) (by decide) (by decide) rfl trivial
set_option maxRecDepth 65536 in
set_option maxHeartbeats 4000000 in
theorem comes_1 {Post : Tables → Env → Array Value → State → Outcome → State → Prop} (hpost : ∀ tb e args s v u, (limb_1_1.after args s (.returned v) u = true ∧ limb_1_2.after args s (.returned v) u = true ∧ True) → FrameEnd s (.returned v) u (Jvm.fieldLocs frame_1_writes args s ++ Jvm.arrayLocs frame_1_arrays args s ++ Jvm.staticLocs frame_1_statics s) 16 128 → Post tb e args s (.returned v) u) :
    ArmFor flags0 classFile x code maxLocals ret World_1 tables_1 room_1 Calls_1 rest_1 Pre_1 Post := by
  intro l hfl _ _ p e ha hc hk s m args below hf hA hF happ hP
  obtain ⟨hcalls, hrest, hpre⟩ := hP
  obtain ⟨-, -, -, hnamed, -, -, -, hat⟩ := (Spec.applies_iff hf).mp happ
  obtain ⟨hg, hn⟩ := and_e (Cond.before_iff.mp (show (Jvm.Cond.and given_1 narrow_1).before args s = true from hpre))
  obtain ⟨hcnt, r0⟩ := and_e hg
  obtain ⟨k0, r1⟩ := and_e r0
  obtain ⟨k1, r2⟩ := and_e r1
  obtain ⟨k2, r3⟩ := and_e r2
  obtain ⟨k3, r4⟩ := and_e r3
  obtain ⟨k4, r5⟩ := and_e r4
  obtain ⟨w0, w1, w2, w3, w4, w5, rfl⟩ : ∃ w0 w1 w2 w3 w4 w5 : Value, args = #[w0, w1, w2, w3, w4, w5] := by
    have hs : args.size = 6 := by simpa [Cond.value, given_1] using hcnt
    obtain ⟨L⟩ := args
    match L, hs with
    | [w0, w1, w2, w3, w4, w5], _ => exact ⟨w0, w1, w2, w3, w4, w5, rfl⟩
  have hw := fun d (hd : d ∈ tables_1) => atoms_spec (ws := Jvm.Cond.code x code maxLocals ret :: tables_1) hat d (List.mem_cons_of_mem _ hd)
  obtain ⟨i0, ei0⟩ := isL_v k0
  obtain rfl : w0 = (.long i0) := Option.some.inj ei0
  obtain ⟨i1, ei1⟩ := isL_v k1
  obtain rfl : w1 = (.long i1) := Option.some.inj ei1
  obtain ⟨i2, ei2⟩ := isL_v k2
  obtain rfl : w2 = (.long i2) := Option.some.inj ei2
  obtain ⟨i3, ei3⟩ := isL_v k3
  obtain rfl : w3 = (.long i3) := Option.some.inj ei3
  obtain ⟨i4, ei4⟩ := isL_v k4
  obtain rfl : w4 = (.long i4) := Option.some.inj ei4
  obtain ⟨i5, ei5⟩ := is_v r5
  obtain rfl : w5 = (.int i5) := Option.some.inj ei5
  obtain ⟨n, o, h1, h2, h3, _, L, rfl, ⟨⟨rfl, -⟩, N⟩, hq⟩ := rm0 l s _ hw s.heap.size i0 i1 i2 i3 i4 i5 s.heap (Nat.le_refl _) tables_1 p e ha hc hk s m _ below hf ((Spec.applies_iff_loose hf).mp happ).1 ⟨rfl, State.Warmed39.refl s, rfl⟩ trivial
  refine ⟨n, _, h1, h2, h3, hpost _ _ _ _ _ _ ⟨Cond.after_iff.mpr rfl, Cond.after_iff.mpr (eq_i res_at (Term.int_eval (1)) rfl), trivial⟩ ⟨hq.1, hq.2.1, (hq.2.2.sift fun y hy => Or.inr (N y hy)).mono (by decide) (by decide)⟩⟩
theorem main_1_1 : Claimed_1_1 := comes_1 fun _ _ _ _ _ _ h hF => ⟨h.1, hF⟩
theorem main_1_2 : Claimed_1_2 := comes_1 fun _ _ _ _ _ _ h hF => ⟨h.2.1, hF⟩
end Jvm.Pilot.@@N@@
namespace Jvm.Pilot.@@N@@
open Jvm Jvm.ClassFile Sem Op Lib Jvm.Free Jvm.Stand Jvm.Pilot.@@N@@.Jvm.D
/-! MADE BY PROGRAM (witnessworld.py) out of the Statement's table words and the real class files: 11 classes; the members and pool entries that the words name. The judged class is class 1, her method 1. -/
namespace start1
open Jvm.ClassFile
def u (s : String) : CpInfo := .utf8 (stringToUtf16 s)
/-- a pool by its gaps: so many unusable entries, then the entry; so many at the end -/
def gap : Nat → List CpInfo → List CpInfo
  | 0, r => r
  | n + 1, r => .unusable :: gap n r
def poolList (es : List (Nat × CpInfo)) (last : Nat) : List CpInfo := es.foldr (fun e r => gap e.1 (e.2 :: r)) (gap last [])
def pool (es : List (Nat × CpInfo)) (last : Nat) : Array CpInfo := ⟨poolList es last⟩
def fileOf (pool : Array CpInfo) (this : Nat) (attrs : Array Attribute := #[]) (ms : Array MethodInfo := #[]) (fl : Nat := 33) (sup : Nat := 0) (ifs : Array Nat := #[]) (fds : Array FieldInfo := #[]) : ClassFile where
  minorVersion := 0
  majorVersion := 65
  constantPool := pool
  accessFlags := fl
  thisClass := this
  superClass := sup
  interfaces := ifs
  fields := fds
  methods := ms
  attributes := attrs
def plain (name : String) (sup : Option ClassId) : Class where
  name := name
  kind := .ordinary
  loader := none
  accessFlags := 33
  super := sup
  interfaces := #[]
  cf := none
  fields := #[]
  methods := #[]
  instanceTypes := #[]
  staticTypes := #[]
  resolved := #[]
  callSites := []
  init := .initialized
  statics := none
  mirror := none

def pool0 : Array CpInfo := pool [(5, u "<init>"), (0, u "()V"), (1, .class_ 10), (1, u "java/lang/Object")] 113

def k0c0 : Code := { maxStack := 0, maxLocals := 1, code := object_method_1_code, exceptionTable := #[], attributes := #[] }
def k0m0 : Method := { name := "<init>", desc := "()V", sig := { parameters := [], returnType := none }, accessFlags := 1, code := some k0c0 }
/-- java/lang/Object -/
def k0 : Class := { plain "java/lang/Object" none with
  accessFlags := 33
  interfaces := #[]
  cf := some (fileOf pool0 8 #[] #[{ accessFlags := 1, nameIndex := 5, descriptorIndex := 6, attributes := #[] }] 33 0 #[] #[])
  fields := #[]
  methods := #[k0m0]
  instanceTypes := #[]
  staticTypes := #[]
  resolved := Array.replicate 124 none
  statics := none }

def pool1 : Array CpInfo := pool [(2, .class_ 4), (1, u "java/lang/Object"), (0, u "<init>"), (0, u "()V"), (2, .long 9223372036854775807), (1, .class_ 12), (0, u "dev/tidemark/engine/Estimate"), (0, .methodref 11 14), (0, .nameAndType 5 15), (0, u "(JJJJJZZ)V"), (0, .long 9223372036854775808), (1, .methodref 19 20), (0, .class_ 21), (0, .nameAndType 22 23), (0, u "java/lang/Math"), (0, u "abs"), (0, u "(J)J"), (0, .methodref 11 25), (0, .nameAndType 26 27), (0, u "hit"), (0, u "()Z"), (0, .class_ 29), (0, u "dev/tidemark/engine/EstimateHitPinLaw"), (2, u "law"), (0, u "(JJJJJI)Z")] 3

def k1m0 : Method := { name := "<init>", desc := "()V", sig := { parameters := [], returnType := none }, accessFlags := 1, code := none }
def k1c1 : Code := { maxStack := 14, maxLocals := 21, code := code, exceptionTable := #[], attributes := #[] }
def k1m1 : Method := { name := "law", desc := "(JJJJJI)Z", sig := { parameters := [.long, .long, .long, .long, .long, .int], returnType := some .boolean }, accessFlags := 9, code := some k1c1 }
/-- dev/tidemark/engine/EstimateHitPinLaw -/
def k1 : Class := { plain "dev/tidemark/engine/EstimateHitPinLaw" (some 0) with
  accessFlags := 49
  interfaces := #[]
  cf := some (fileOf pool1 28 #[] #[{ accessFlags := 1, nameIndex := 5, descriptorIndex := 6, attributes := #[] }, { accessFlags := 9, nameIndex := 32, descriptorIndex := 33, attributes := #[] }] 49 2 #[] #[])
  fields := #[]
  methods := #[k1m0, k1m1]
  instanceTypes := #[]
  staticTypes := #[]
  resolved := Array.replicate 37 none
  statics := none }

def pool2 : Array CpInfo := pool [(1, .methodref 2 3), (0, .class_ 4), (0, .nameAndType 5 6), (0, u "java/lang/Object"), (0, u "<init>"), (0, u "()V"), (0, .class_ 8), (0, u "java/lang/Record")] 13

def k2c0 : Code := { maxStack := 1, maxLocals := 1, code := jdk_30_method_1_code, exceptionTable := #[], attributes := #[] }
def k2m0 : Method := { name := "<init>", desc := "()V", sig := { parameters := [], returnType := none }, accessFlags := 4, code := some k2c0 }
/-- java/lang/Record -/
def k2 : Class := { plain "java/lang/Record" (some 0) with
  accessFlags := 1057
  interfaces := #[]
  cf := some (fileOf pool2 7 #[] #[{ accessFlags := 4, nameIndex := 5, descriptorIndex := 6, attributes := #[] }] 1057 2 #[] #[])
  fields := #[]
  methods := #[k2m0]
  instanceTypes := #[]
  staticTypes := #[]
  resolved := Array.replicate 22 none
  statics := none }

def pool3 : Array CpInfo := pool [(1, .methodref 2 3), (0, .class_ 4), (0, .nameAndType 5 6), (0, u "java/lang/Record"), (0, u "<init>"), (0, u "()V"), (0, .fieldref 8 9), (0, .class_ 10), (0, .nameAndType 11 12), (0, u "dev/tidemark/engine/Estimate"), (0, u "madeNanos"), (0, u "J"), (0, .fieldref 8 14), (0, .nameAndType 15 12), (0, u "horizonNanos"), (0, .fieldref 8 17), (0, .nameAndType 18 12), (0, u "expectedNanos"), (0, .fieldref 8 20), (0, .nameAndType 21 12), (0, u "spreadNanos"), (0, .fieldref 8 23), (0, .nameAndType 24 12), (0, u "arrivedNanos"), (0, .fieldref 8 26), (0, .nameAndType 27 28), (0, u "hasInterval"), (0, u "Z"), (0, .fieldref 8 30), (0, .nameAndType 31 28), (0, u "errorKept"), (12, u "(JJJJJZZ)V"), (3, u "hit"), (0, u "()Z")] 31

def k3c0 : Code := { maxStack := 3, maxLocals := 13, code := prog_89_method_1_code, exceptionTable := #[], attributes := #[] }
def k3m0 : Method := { name := "<init>", desc := "(JJJJJZZ)V", sig := { parameters := [.long, .long, .long, .long, .long, .boolean, .boolean], returnType := none }, accessFlags := 1, code := some k3c0 }
def k3c1 : Code := { maxStack := 4, maxLocals := 3, code := prog_89_method_2_code, exceptionTable := #[], attributes := #[] }
def k3m1 : Method := { name := "hit", desc := "()Z", sig := { parameters := [], returnType := some .boolean }, accessFlags := 1, code := some k3c1 }
/-- dev/tidemark/engine/Estimate -/
def k3 : Class := { plain "dev/tidemark/engine/Estimate" (some 2) with
  accessFlags := 49
  interfaces := #[]
  cf := some (fileOf pool3 8 #[] #[{ accessFlags := 1, nameIndex := 5, descriptorIndex := 44, attributes := #[] }, { accessFlags := 1, nameIndex := 48, descriptorIndex := 49, attributes := #[] }] 49 2 #[] #[{ accessFlags := 18, nameIndex := 11, descriptorIndex := 12, attributes := #[] }, { accessFlags := 18, nameIndex := 15, descriptorIndex := 12, attributes := #[] }, { accessFlags := 18, nameIndex := 18, descriptorIndex := 12, attributes := #[] }, { accessFlags := 18, nameIndex := 21, descriptorIndex := 12, attributes := #[] }, { accessFlags := 18, nameIndex := 24, descriptorIndex := 12, attributes := #[] }, { accessFlags := 18, nameIndex := 27, descriptorIndex := 28, attributes := #[] }, { accessFlags := 18, nameIndex := 31, descriptorIndex := 28, attributes := #[] }])
  fields := #[{ name := "madeNanos", type := .long, accessFlags := 18, slot := 0, constantValue := 0 }, { name := "horizonNanos", type := .long, accessFlags := 18, slot := 1, constantValue := 0 }, { name := "expectedNanos", type := .long, accessFlags := 18, slot := 2, constantValue := 0 }, { name := "spreadNanos", type := .long, accessFlags := 18, slot := 3, constantValue := 0 }, { name := "arrivedNanos", type := .long, accessFlags := 18, slot := 4, constantValue := 0 }, { name := "hasInterval", type := .boolean, accessFlags := 18, slot := 5, constantValue := 0 }, { name := "errorKept", type := .boolean, accessFlags := 18, slot := 6, constantValue := 0 }]
  methods := #[k3m0, k3m1]
  instanceTypes := #[.long, .long, .long, .long, .long, .boolean, .boolean]
  staticTypes := #[]
  resolved := Array.replicate 81 none
  statics := none }

def pool4 : Array CpInfo := pool [(1, .class_ 2), (0, u "java/lang/Math"), (1, .class_ 6), (1, u "java/lang/Object"), (0, u "<init>"), (0, u "()V"), (89, .class_ 100), (1, u "java/lang/Math$RandomNumberGeneratorHolder"), (23, u "abs"), (0, u "(J)J"), (46, u "negativeZeroFloatBits"), (0, u "J"), (2, u "negativeZeroDoubleBits"), (68, u "$assertionsDisabled"), (0, u "Z"), (91, u "twoToTheDoubleScaleDown"), (0, u "D"), (4, u "twoToTheDoubleScaleUp"), (9, u "E"), (3, u "PI"), (2, u "TAU"), (2, u "DEGREES_TO_RADIANS"), (0, u "RADIANS_TO_DEGREES")] 94

def k4m0 : Method := { name := "<init>", desc := "()V", sig := { parameters := [], returnType := none }, accessFlags := 2, code := none }
def k4c1 : Code := { maxStack := 4, maxLocals := 2, code := jdk_29_method_61_code, exceptionTable := #[], attributes := #[] }
def k4m1 : Method := { name := "abs", desc := "(J)J", sig := { parameters := [.long], returnType := some .long }, accessFlags := 9, code := some k4c1 }
/-- java/lang/Math -/
def k4 : Class := { plain "java/lang/Math" (some 0) with
  accessFlags := 49
  interfaces := #[]
  cf := some (fileOf pool4 1 #[.nestMembers #[98]] #[{ accessFlags := 2, nameIndex := 7, descriptorIndex := 8, attributes := #[] }, { accessFlags := 9, nameIndex := 124, descriptorIndex := 125, attributes := #[] }] 49 4 #[] #[{ accessFlags := 25, nameIndex := 354, descriptorIndex := 339, attributes := #[] }, { accessFlags := 25, nameIndex := 358, descriptorIndex := 339, attributes := #[] }, { accessFlags := 25, nameIndex := 361, descriptorIndex := 339, attributes := #[] }, { accessFlags := 26, nameIndex := 364, descriptorIndex := 339, attributes := #[] }, { accessFlags := 26, nameIndex := 365, descriptorIndex := 339, attributes := #[] }, { accessFlags := 26, nameIndex := 172, descriptorIndex := 173, attributes := #[] }, { accessFlags := 26, nameIndex := 176, descriptorIndex := 173, attributes := #[] }, { accessFlags := 8, nameIndex := 344, descriptorIndex := 339, attributes := #[] }, { accessFlags := 8, nameIndex := 338, descriptorIndex := 339, attributes := #[] }, { accessFlags := 4120, nameIndex := 245, descriptorIndex := 246, attributes := #[] }])
  fields := #[{ name := "E", type := .double, accessFlags := 25, slot := 0, constantValue := 0 }, { name := "PI", type := .double, accessFlags := 25, slot := 1, constantValue := 0 }, { name := "TAU", type := .double, accessFlags := 25, slot := 2, constantValue := 0 }, { name := "DEGREES_TO_RADIANS", type := .double, accessFlags := 26, slot := 3, constantValue := 0 }, { name := "RADIANS_TO_DEGREES", type := .double, accessFlags := 26, slot := 4, constantValue := 0 }, { name := "negativeZeroFloatBits", type := .long, accessFlags := 26, slot := 5, constantValue := 0 }, { name := "negativeZeroDoubleBits", type := .long, accessFlags := 26, slot := 6, constantValue := 0 }, { name := "twoToTheDoubleScaleUp", type := .double, accessFlags := 8, slot := 7, constantValue := 0 }, { name := "twoToTheDoubleScaleDown", type := .double, accessFlags := 8, slot := 8, constantValue := 0 }, { name := "$assertionsDisabled", type := .boolean, accessFlags := 4120, slot := 9, constantValue := 0 }]
  methods := #[k4m0, k4m1]
  instanceTypes := #[]
  staticTypes := #[.double, .double, .double, .double, .double, .long, .long, .double, .double, .boolean]
  resolved := Array.replicate 460 none
  statics := none }

def pool5 : Array CpInfo := pool [(1, u "java/lang/Cloneable"), (0, .class_ 1), (0, u "java/lang/Object"), (0, .class_ 3)] 3

/-- java/lang/Cloneable -/
def k5 : Class := { plain "java/lang/Cloneable" (some 0) with
  accessFlags := 1537
  interfaces := #[]
  cf := some (fileOf pool5 2 #[] #[] 1537 4 #[] #[])
  fields := #[]
  methods := #[]
  instanceTypes := #[]
  staticTypes := #[]
  resolved := Array.replicate 8 none
  statics := none }

def pool6 : Array CpInfo := pool [(1, u "java/io/Serializable"), (0, .class_ 1), (0, u "java/lang/Object"), (0, .class_ 3)] 3

/-- java/io/Serializable -/
def k6 : Class := { plain "java/io/Serializable" (some 0) with
  accessFlags := 1537
  interfaces := #[]
  cf := some (fileOf pool6 2 #[] #[] 1537 4 #[] #[])
  fields := #[]
  methods := #[]
  instanceTypes := #[]
  staticTypes := #[]
  resolved := Array.replicate 8 none
  statics := none }

/-- the primitive byte -/
def k7 : Class := { plain "byte" none with kind := .primitive 'B', accessFlags := 0x411 }
/-- [B -/
def k8 : Class := { plain "[B" (some 0) with kind := .array 7 .byte, interfaces := #[5, 6], accessFlags := 1041 }

/-- the primitive int -/
def k9 : Class := { plain "int" none with kind := .primitive 'I', accessFlags := 0x411 }
/-- [I -/
def k10 : Class := { plain "[I" (some 0) with kind := .array 9 .int, interfaces := #[5, 6], accessFlags := 1041 }

def heap : Heap := #[]
def classes : Array Class := #[k0, k1, k2, k3, k4, k5, k6, k7, k8, k9, k10]
def interned : List (Array UInt16 × Addr) := []
def slotsUsed : Nat := 0
def theMethod : MethodId := ⟨1, 1⟩
def args0 : Array Value := #[.long 7, .long 1, .long 9, .long 3, .long 4, .int 1]
def aboutOver (below : List Frame) : State where
  vm := { classes := classes, interned := interned.toArray }
  heap := heap
  slotsUsed := slotsUsed
  threads := #[{ frames := .invoking theMethod args0 :: below }]
def below0 : List Frame := [.native { method := ⟨0, 0⟩, args := #[] }]
def about1 : State := aboutOver below0
def p0 : Program := .bare "" "" ""
def e0 : Env := launch0.env 0 0 0
theorem w_frames : about1.frames = Frame.invoking theMethod args0 :: below0 := rfl
set_option maxRecDepth 65536 in
theorem w_args : argsFit about1.vm theMethod args0 = true := by decide +kernel
set_option maxRecDepth 65536 in
theorem w_heap : heapFits about1 = true := by decide +kernel
set_option maxRecDepth 65536 in
theorem w_runnable : about1.curStatus? = some .runnable := by decide +kernel
set_option maxRecDepth 65536 in
theorem w_alone : about1.alone = true := by decide +kernel
set_option maxRecDepth 65536 in
theorem w_named : about1.methodNamed? x = some theMethod := by decide +kernel
set_option maxRecDepth 65536 in
theorem w_hears : about1.hears theMethod below0 = true := by decide +kernel
set_option maxRecDepth 65536 in
theorem w_ripe : about1.ripe theMethod args0 below0 = true := by decide +kernel
theorem w_running : about1.status = .running := rfl
set_option maxRecDepth 65536 in
theorem w_room : about1.hasRoom e0.platform room_1 = true :=
  launch0.hasRoom_least _ room_1 (by decide +kernel) (by decide +kernel) (by decide +kernel) (by decide +kernel) (by decide +kernel) (by decide +kernel)
theorem allAtoms_all (ts : List Jvm.Cond) (a : Array Jvm.Value) (st : Jvm.State) : (allAtoms ts).before a st = ts.all (fun c => c.before a st) := by
  induction ts with
  | nil => rfl
  | cons c t ih =>
    show (Jvm.Cond.and c (allAtoms t)).before a st = _
    rw [Jvm.Cond.before_and, ih, List.all_cons]
def words1 : List Jvm.Cond := Jvm.Cond.code x code maxLocals ret :: tables_1
/-- a 'code' word, met by the world's own term for the bytes: nothing is compared byte by byte -/
theorem code_word {y : MethodName} {bytes : ByteArray} {mx : Nat} {rt : Option FieldType} {a : Array Value} {s : State} {m : MethodId} {meth : Method} {c : Code} (h1 : s.methodNamed? y = some m) (h2 : s.vm.method? m = some meth) (h3 : meth.code = some c) (h4 : c.code = bytes)
    (h5 : (c.maxLocals == mx && c.exceptionTable.isEmpty && decide (c.maxStack ≤ mostOperands) && decide (meth.sig.returnType = rt) && !meth.locks && decide (parseMethodDescriptor y.desc = some meth.sig)) = true) : (Jvm.Cond.code y bytes mx rt).before a s = true := by
  simp only [Bool.and_eq_true, beq_iff_eq, Bool.not_eq_true', decide_eq_true_eq] at h5
  obtain ⟨⟨⟨⟨⟨g1, g2⟩, g3⟩, g4⟩, g5⟩, g6⟩ := h5
  simp [Cond.before, Cond.holds, Cond.value, h1, h2, h3, h4, g1, g2, g3, g4, g5, g6]
def isCode : Jvm.Cond → Bool
  | .code _ _ _ _ => true
  | _ => false
theorem all_split {L : List Jvm.Cond} {P : Jvm.Cond → Bool} (h1 : L.all (fun c => isCode c || P c) = true) (h2 : ∀ c ∈ L.filter isCode, P c = true) : L.all P = true := by
  refine List.all_eq_true.mpr fun c hc => ?_
  have h := List.all_eq_true.mp h1 c hc
  rcases Bool.eq_false_or_eq_true (isCode c) with hi | hi
  · exact h2 c (List.mem_filter.mpr ⟨hc, hi⟩)
  · simpa [hi] using h
set_option maxRecDepth 65536 in
theorem w_c0 : (Jvm.Cond.code x code maxLocals ret).before args0 about1 = true := code_word (m := ⟨1, 1⟩) (meth := k1m1) (c := k1c1) (by decide +kernel) rfl rfl rfl (by decide +kernel)
set_option maxRecDepth 65536 in
theorem w_c1 : (Jvm.Cond.code ({ cls := "dev/tidemark/engine/Estimate", name := "<init>", desc := "(JJJJJZZ)V" } : Jvm.MethodName) prog_89_method_1_code (13 : Nat) (Option.none : Option Jvm.ClassFile.FieldType)).before args0 about1 = true := code_word (m := ⟨3, 0⟩) (meth := k3m0) (c := k3c0) (by decide +kernel) rfl rfl rfl (by decide +kernel)
set_option maxRecDepth 65536 in
theorem w_c2 : (Jvm.Cond.code ({ cls := "java/lang/Record", name := "<init>", desc := "()V" } : Jvm.MethodName) jdk_30_method_1_code (1 : Nat) (Option.none : Option Jvm.ClassFile.FieldType)).before args0 about1 = true := code_word (m := ⟨2, 0⟩) (meth := k2m0) (c := k2c0) (by decide +kernel) rfl rfl rfl (by decide +kernel)
set_option maxRecDepth 65536 in
theorem w_c3 : (Jvm.Cond.code ({ cls := "java/lang/Object", name := "<init>", desc := "()V" } : Jvm.MethodName) object_method_1_code (1 : Nat) (Option.none : Option Jvm.ClassFile.FieldType)).before args0 about1 = true := code_word (m := ⟨0, 0⟩) (meth := k0m0) (c := k0c0) (by decide +kernel) rfl rfl rfl (by decide +kernel)
set_option maxRecDepth 65536 in
theorem w_c4 : (Jvm.Cond.code ({ cls := "java/lang/Math", name := "abs", desc := "(J)J" } : Jvm.MethodName) jdk_29_method_61_code (2 : Nat) (Option.some Jvm.ClassFile.FieldType.long)).before args0 about1 = true := code_word (m := ⟨4, 1⟩) (meth := k4m1) (c := k4c1) (by decide +kernel) rfl rfl rfl (by decide +kernel)
set_option maxRecDepth 65536 in
theorem w_c5 : (Jvm.Cond.code ({ cls := "dev/tidemark/engine/Estimate", name := "hit", desc := "()Z" } : Jvm.MethodName) prog_89_method_2_code (3 : Nat) (Option.some Jvm.ClassFile.FieldType.boolean)).before args0 about1 = true := code_word (m := ⟨3, 1⟩) (meth := k3m1) (c := k3c1) (by decide +kernel) rfl rfl rfl (by decide +kernel)
def codes1 : List Jvm.Cond := [Jvm.Cond.code x code maxLocals ret, Jvm.Cond.code ({ cls := "dev/tidemark/engine/Estimate", name := "<init>", desc := "(JJJJJZZ)V" } : Jvm.MethodName) prog_89_method_1_code (13 : Nat) (Option.none : Option Jvm.ClassFile.FieldType), Jvm.Cond.code ({ cls := "java/lang/Record", name := "<init>", desc := "()V" } : Jvm.MethodName) jdk_30_method_1_code (1 : Nat) (Option.none : Option Jvm.ClassFile.FieldType), Jvm.Cond.code ({ cls := "java/lang/Object", name := "<init>", desc := "()V" } : Jvm.MethodName) object_method_1_code (1 : Nat) (Option.none : Option Jvm.ClassFile.FieldType), Jvm.Cond.code ({ cls := "java/lang/Math", name := "abs", desc := "(J)J" } : Jvm.MethodName) jdk_29_method_61_code (2 : Nat) (Option.some Jvm.ClassFile.FieldType.long), Jvm.Cond.code ({ cls := "dev/tidemark/engine/Estimate", name := "hit", desc := "()Z" } : Jvm.MethodName) prog_89_method_2_code (3 : Nat) (Option.some Jvm.ClassFile.FieldType.boolean)]
set_option maxRecDepth 65536 in
theorem codes_eq : words1.filter isCode = codes1 := rfl
theorem w_codes : ∀ c ∈ words1.filter isCode, c.before args0 about1 = true := by
  rw [codes_eq]
  intro c hc
  simp only [codes1, List.mem_cons, List.not_mem_nil, or_false] at hc
  rcases hc with rfl | rfl | rfl | rfl | rfl | rfl
  · exact w_c0
  · exact w_c1
  · exact w_c2
  · exact w_c3
  · exact w_c4
  · exact w_c5
set_option maxRecDepth 65536 in
theorem w_t1 : (words1.take 24).all (fun c => isCode c || c.before args0 about1) = true := by decide +kernel
set_option maxRecDepth 65536 in
theorem w_t2 : (words1.drop 24).all (fun c => isCode c || c.before args0 about1) = true := by decide +kernel
theorem w_tables : (allAtoms (Jvm.Cond.code x code maxLocals ret :: tables_1)).before args0 about1 = true := by
  rw [allAtoms_all]
  show words1.all (fun c => c.before args0 about1) = true
  refine all_split ?_ w_codes
  rw [← List.take_append_drop 24 words1, List.all_append, w_t1, w_t2]
  rfl
set_option maxRecDepth 65536 in
theorem w_case : (Jvm.Cond.and given_1 narrow_1).before args0 about1 = true := by decide +kernel
theorem w_applies : (headSpec (Jvm.Cond.code x code maxLocals ret :: tables_1) room_1).applies x e0.platform about1 = true :=
  (Spec.applies_iff w_frames).mpr ⟨w_running, w_runnable, w_alone, w_named, w_hears, w_ripe, w_room, w_tables⟩
theorem atStart : AtStart classFile x code maxLocals ret World_1 tables_1 room_1 Calls_1 rest_1 Pre_1 launch0 p0 e0 about1 theMethod args0 below0 :=
  ⟨lists_1, trivial, launch0.admits_env _ _ _, launch0.least_env, fairChoices_fair.cas, fairChoices_fair.clock, w_frames, w_args, w_heap, w_applies, trivial, trivial, w_case⟩
end start1
theorem witness_1 : WitnessClaimed_1 := ⟨start1.p0, start1.e0, start1.about1, start1.theMethod, start1.args0, start1.below0, start1.atStart⟩
end Jvm.Pilot.@@N@@
