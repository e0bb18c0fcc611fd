import JvmDerived
import JvmDerived.Pilot.@@N@@Statement
import JvmDerived.Pilot.@@N@@Code
set_option linter.unusedVariables false
set_option linter.unusedSimpArgs false
namespace Jvm.Pilot.@@N@@
open Jvm Jvm.ClassFile Sem Op Lib Jvm.Free Jvm.Stand Jvm.LawKit Jvm.RoadKit Bundle Jvm.Pilot.@@N@@.Jvm.D
section OwnKit
def own_G (p : Program) (e : Env) (below : List Frame) (Φ : State → Outcome → Prop) (T : State) (f : JFrame) : Prop := ∃ s₂ o, Steps p.tables e below (T.setTop f) s₂ ∧ Φ s₂ o
def own_S (Z : State) (n0 : Nat) (bytes : ByteArray) (y : MethodName) (ml : Nat) (ret : Option FieldType) (p : Program) (l : Launch) (e : Env) (R : Room) (s : State) (m : MethodId) (args : Array Value) (below : List Frame) (meth : Method) (c : Code) (T : State) (k sl : Nat) (h : Heap) : Prop :=
  (∃ locs, Stand p l e R s m args below meth c T locs k sl ∧ Fr n0 locs) ∧ T.heap = h ∧ n0 ≤ s.heap.size ∧ p.tables.exec = Jvm.exec ∧ Z.Warmed39 s.vm ∧ c.code = bytes ∧ c.maxLocals = ml ∧ s.vm.findClass y.cls = some m.cls ∧ meth.name = y.name ∧ meth.sig.returnType = ret ∧ meth.locks = false
def own_Q (n0 : Nat) (below : List Frame) (s : State) (R : Room) (w : Option Value) (Θ : Heap → Prop) : State → Outcome → Prop := fun s₂ o => s₂.status = .running ∧ Ended s₂ below o ∧ ∃ v L, o = .returned v ∧ ((v = w ∧ Θ s₂.heap) ∧ Fr n0 L) ∧ FrameEnd s o s₂ L R.cells R.slots
def own_Met (l : Launch) (y : MethodName) (bytes : ByteArray) (ml : Nat) (ret : Option FieldType) (rm : Room) (Z : State) (n0 : Nat) (as : Array Value) (h0 : Heap) (w : Option Value) (Θ : Heap → Prop) : Prop :=
  ∀ ws, MetFree l y (head1 (Jvm.Cond.code y bytes ml ret :: ws) rm) (fun a U => a = as ∧ Z.Warmed39 U.vm ∧ U.heap = h0) (fun _ _ _ _ _ => True) (fun _ U o U' => ∃ v L, o = .returned v ∧ ((v = w ∧ Θ U'.heap) ∧ Fr n0 L) ∧ FrameEnd U o U' L rm.cells rm.slots)
theorem own_met {l : Launch} {y : MethodName} {bytes : ByteArray} {ml : Nat} {ret : Option FieldType} {rm : Room} {Z : State} {n0 : Nat} {as : Array Value} {h0 : Heap} {w : Option Value} {Θ : Heap → Prop} (hp : plainFor y = true) (hn0 : n0 ≤ h0.size)
    (body : ∀ p e s m below meth c T, own_S Z n0 bytes y ml ret p l e rm s m as below meth c T 0 0 h0 → own_G p e below (own_Q n0 below s rm w Θ) T (entryFrame m as ml)) : own_Met l y bytes ml ret rm Z n0 as h0 w Θ := by
  intro ws
  refine MetFree.of_bodySF hp hisR ?_
  intro p e s m args below meth c s₁ Bd hml0 hP hK
  obtain ⟨rfl, hZ, hh⟩ := hP
  obtain ⟨s₂, o, st, h1, h2, h3⟩ := body p e s m below meth c s₁ ⟨⟨[], Stand.of_body Bd, Fr.nil n0⟩, by rw [← hh, Bd.state]; rfl, by rw [hh]; exact hn0, Bd.exec, hZ, Bd.bytes, hml0, findClass_of_methodNamed Bd.named, (name_of_methodNamed Bd.named Bd.method).1, Bd.returns, BodyLoose.notSynchronized Bd⟩
  exact ⟨s₂, o, st, h1, h2, h3⟩
variable {Z : State} {n0 : Nat} {bytes : ByteArray} {y : MethodName} {ml : Nat} {ret : Option FieldType} {p : Program} {l : Launch} {e : Env} {R : Room} {s : State} {m : MethodId} {args : Array Value} {below : List Frame} {meth : Method} {c : Code} {T : State} {k sl : Nat} {h : Heap} {Φ : State → Outcome → Prop} {pc pc' : Nat} {Ls Ls' : Array Slot} {S : List Value} {a0 : Array Value}
theorem own_cast {f f' : JFrame} (q : f = f') (K : own_G p e below Φ T f') : own_G p e below Φ T f := q ▸ K
theorem own_by {T T' : State} {f f' : JFrame} (K : own_G p e below Φ T' f') (st : ∀ t, Steps p.tables e below (T'.setTop f') t → Steps p.tables e below (T.setTop f) t) : own_G p e below Φ T f := by
  obtain ⟨s₂, o, q, r⟩ := K
  exact ⟨s₂, o, st _ q, r⟩
theorem own_S.size (X : own_S Z n0 bytes y ml ret p l e R s m args below meth c T k sl h) : n0 ≤ h.size := by
  obtain ⟨⟨locs, Y, N⟩, hh, hn, hx, hZ, hby, hml, hown, hnm, hret, hlk⟩ := X
  subst hh
  exact Nat.le_trans hn Y.same.2.1
theorem own_iadd (X : own_S Z n0 bytes y ml ret p l e R s m args below meth c T k sl h) {a b r : Int32} (hd : decode bytes pc = .ok (.iadd, 1)) (hpc : pc + 1 = pc') (hr : a + b = r) (K : own_G p e below Φ T (mkF m pc' Ls (.int r :: S))) : own_G p e below Φ T (mkF m pc Ls (.int b :: .int a :: S)) := by
  obtain ⟨⟨locs, Y, N⟩, hh, hn, hx, hZ, hby, hml, hown, hnm, hret, hlk⟩ := X
  subst hpc
  exact own_by K fun t kk => XS.iadd Y.here hx rfl (hb hby hd) rfl (hr ▸ kk)
theorem own_ladd (X : own_S Z n0 bytes y ml ret p l e R s m args below meth c T k sl h) {a b r : Int64} (hd : decode bytes pc = .ok (.ladd, 1)) (hpc : pc + 1 = pc') (hr : a + b = r) (K : own_G p e below Φ T (mkF m pc' Ls (.long r :: S))) : own_G p e below Φ T (mkF m pc Ls (.long b :: .long a :: S)) := by
  obtain ⟨⟨locs, Y, N⟩, hh, hn, hx, hZ, hby, hml, hown, hnm, hret, hlk⟩ := X
  subst hpc
  exact own_by K fun t kk => XS.ladd Y.here hx rfl (hb hby hd) rfl (hr ▸ kk)
theorem own_isub (X : own_S Z n0 bytes y ml ret p l e R s m args below meth c T k sl h) {a b r : Int32} (hd : decode bytes pc = .ok (.isub, 1)) (hpc : pc + 1 = pc') (hr : a - b = r) (K : own_G p e below Φ T (mkF m pc' Ls (.int r :: S))) : own_G p e below Φ T (mkF m pc Ls (.int b :: .int a :: S)) := by
  obtain ⟨⟨locs, Y, N⟩, hh, hn, hx, hZ, hby, hml, hown, hnm, hret, hlk⟩ := X
  subst hpc
  exact own_by K fun t kk => XS.isub Y.here hx rfl (hb hby hd) rfl (hr ▸ kk)
theorem own_lsub (X : own_S Z n0 bytes y ml ret p l e R s m args below meth c T k sl h) {a b r : Int64} (hd : decode bytes pc = .ok (.lsub, 1)) (hpc : pc + 1 = pc') (hr : a - b = r) (K : own_G p e below Φ T (mkF m pc' Ls (.long r :: S))) : own_G p e below Φ T (mkF m pc Ls (.long b :: .long a :: S)) := by
  obtain ⟨⟨locs, Y, N⟩, hh, hn, hx, hZ, hby, hml, hown, hnm, hret, hlk⟩ := X
  subst hpc
  exact own_by K fun t kk => XS.lsub Y.here hx rfl (hb hby hd) rfl (hr ▸ kk)
theorem own_imul (X : own_S Z n0 bytes y ml ret p l e R s m args below meth c T k sl h) {a b r : Int32} (hd : decode bytes pc = .ok (.imul, 1)) (hpc : pc + 1 = pc') (hr : a * b = r) (K : own_G p e below Φ T (mkF m pc' Ls (.int r :: S))) : own_G p e below Φ T (mkF m pc Ls (.int b :: .int a :: S)) := by
  obtain ⟨⟨locs, Y, N⟩, hh, hn, hx, hZ, hby, hml, hown, hnm, hret, hlk⟩ := X
  subst hpc
  exact own_by K fun t kk => XS.imul Y.here hx rfl (hb hby hd) rfl (hr ▸ kk)
theorem own_lmul (X : own_S Z n0 bytes y ml ret p l e R s m args below meth c T k sl h) {a b r : Int64} (hd : decode bytes pc = .ok (.lmul, 1)) (hpc : pc + 1 = pc') (hr : a * b = r) (K : own_G p e below Φ T (mkF m pc' Ls (.long r :: S))) : own_G p e below Φ T (mkF m pc Ls (.long b :: .long a :: S)) := by
  obtain ⟨⟨locs, Y, N⟩, hh, hn, hx, hZ, hby, hml, hown, hnm, hret, hlk⟩ := X
  subst hpc
  exact own_by K fun t kk => XS.lmul Y.here hx rfl (hb hby hd) rfl (hr ▸ kk)
theorem own_iand (X : own_S Z n0 bytes y ml ret p l e R s m args below meth c T k sl h) {a b r : Int32} (hd : decode bytes pc = .ok (.iand, 1)) (hpc : pc + 1 = pc') (hr : a &&& b = r) (K : own_G p e below Φ T (mkF m pc' Ls (.int r :: S))) : own_G p e below Φ T (mkF m pc Ls (.int b :: .int a :: S)) := by
  obtain ⟨⟨locs, Y, N⟩, hh, hn, hx, hZ, hby, hml, hown, hnm, hret, hlk⟩ := X
  subst hpc
  exact own_by K fun t kk => XS.iand Y.here hx rfl (hb hby hd) rfl (hr ▸ kk)
theorem own_land (X : own_S Z n0 bytes y ml ret p l e R s m args below meth c T k sl h) {a b r : Int64} (hd : decode bytes pc = .ok (.land, 1)) (hpc : pc + 1 = pc') (hr : a &&& b = r) (K : own_G p e below Φ T (mkF m pc' Ls (.long r :: S))) : own_G p e below Φ T (mkF m pc Ls (.long b :: .long a :: S)) := by
  obtain ⟨⟨locs, Y, N⟩, hh, hn, hx, hZ, hby, hml, hown, hnm, hret, hlk⟩ := X
  subst hpc
  exact own_by K fun t kk => XS.land Y.here hx rfl (hb hby hd) rfl (hr ▸ kk)
theorem own_ior (X : own_S Z n0 bytes y ml ret p l e R s m args below meth c T k sl h) {a b r : Int32} (hd : decode bytes pc = .ok (.ior, 1)) (hpc : pc + 1 = pc') (hr : a ||| b = r) (K : own_G p e below Φ T (mkF m pc' Ls (.int r :: S))) : own_G p e below Φ T (mkF m pc Ls (.int b :: .int a :: S)) := by
  obtain ⟨⟨locs, Y, N⟩, hh, hn, hx, hZ, hby, hml, hown, hnm, hret, hlk⟩ := X
  subst hpc
  exact own_by K fun t kk => XS.ior Y.here hx rfl (hb hby hd) rfl (hr ▸ kk)
theorem own_lor (X : own_S Z n0 bytes y ml ret p l e R s m args below meth c T k sl h) {a b r : Int64} (hd : decode bytes pc = .ok (.lor, 1)) (hpc : pc + 1 = pc') (hr : a ||| b = r) (K : own_G p e below Φ T (mkF m pc' Ls (.long r :: S))) : own_G p e below Φ T (mkF m pc Ls (.long b :: .long a :: S)) := by
  obtain ⟨⟨locs, Y, N⟩, hh, hn, hx, hZ, hby, hml, hown, hnm, hret, hlk⟩ := X
  subst hpc
  exact own_by K fun t kk => XS.lor Y.here hx rfl (hb hby hd) rfl (hr ▸ kk)
theorem own_ixor (X : own_S Z n0 bytes y ml ret p l e R s m args below meth c T k sl h) {a b r : Int32} (hd : decode bytes pc = .ok (.ixor, 1)) (hpc : pc + 1 = pc') (hr : a ^^^ b = r) (K : own_G p e below Φ T (mkF m pc' Ls (.int r :: S))) : own_G p e below Φ T (mkF m pc Ls (.int b :: .int a :: S)) := by
  obtain ⟨⟨locs, Y, N⟩, hh, hn, hx, hZ, hby, hml, hown, hnm, hret, hlk⟩ := X
  subst hpc
  exact own_by K fun t kk => XS.ixor Y.here hx rfl (hb hby hd) rfl (hr ▸ kk)
theorem own_lxor (X : own_S Z n0 bytes y ml ret p l e R s m args below meth c T k sl h) {a b r : Int64} (hd : decode bytes pc = .ok (.lxor, 1)) (hpc : pc + 1 = pc') (hr : a ^^^ b = r) (K : own_G p e below Φ T (mkF m pc' Ls (.long r :: S))) : own_G p e below Φ T (mkF m pc Ls (.long b :: .long a :: S)) := by
  obtain ⟨⟨locs, Y, N⟩, hh, hn, hx, hZ, hby, hml, hown, hnm, hret, hlk⟩ := X
  subst hpc
  exact own_by K fun t kk => XS.lxor Y.here hx rfl (hb hby hd) rfl (hr ▸ kk)
theorem own_ishl (X : own_S Z n0 bytes y ml ret p l e R s m args below meth c T k sl h) {a r : Int32} {b : Int32} (hd : decode bytes pc = .ok (.ishl, 1)) (hpc : pc + 1 = pc') (hr : (a <<< (b &&& 31)) = r) (K : own_G p e below Φ T (mkF m pc' Ls (.int r :: S))) : own_G p e below Φ T (mkF m pc Ls (.int b :: .int a :: S)) := by
  obtain ⟨⟨locs, Y, N⟩, hh, hn, hx, hZ, hby, hml, hown, hnm, hret, hlk⟩ := X
  subst hpc
  exact own_by K fun t kk => XS.ishl Y.here hx rfl (hb hby hd) rfl (hr ▸ kk)
theorem own_ishr (X : own_S Z n0 bytes y ml ret p l e R s m args below meth c T k sl h) {a r : Int32} {b : Int32} (hd : decode bytes pc = .ok (.ishr, 1)) (hpc : pc + 1 = pc') (hr : (a >>> (b &&& 31)) = r) (K : own_G p e below Φ T (mkF m pc' Ls (.int r :: S))) : own_G p e below Φ T (mkF m pc Ls (.int b :: .int a :: S)) := by
  obtain ⟨⟨locs, Y, N⟩, hh, hn, hx, hZ, hby, hml, hown, hnm, hret, hlk⟩ := X
  subst hpc
  exact own_by K fun t kk => XS.ishr Y.here hx rfl (hb hby hd) rfl (hr ▸ kk)
theorem own_iushr (X : own_S Z n0 bytes y ml ret p l e R s m args below meth c T k sl h) {a r : Int32} {b : Int32} (hd : decode bytes pc = .ok (.iushr, 1)) (hpc : pc + 1 = pc') (hr : ((a.toUInt32 >>> (b &&& 31).toUInt32).toInt32) = r) (K : own_G p e below Φ T (mkF m pc' Ls (.int r :: S))) : own_G p e below Φ T (mkF m pc Ls (.int b :: .int a :: S)) := by
  obtain ⟨⟨locs, Y, N⟩, hh, hn, hx, hZ, hby, hml, hown, hnm, hret, hlk⟩ := X
  subst hpc
  exact own_by K fun t kk => XS.iushr Y.here hx rfl (hb hby hd) rfl (hr ▸ kk)
theorem own_lshl (X : own_S Z n0 bytes y ml ret p l e R s m args below meth c T k sl h) {a r : Int64} {b : Int32} (hd : decode bytes pc = .ok (.lshl, 1)) (hpc : pc + 1 = pc') (hr : (a <<< (b &&& 0x3f).toInt64) = r) (K : own_G p e below Φ T (mkF m pc' Ls (.long r :: S))) : own_G p e below Φ T (mkF m pc Ls (.int b :: .long a :: S)) := by
  obtain ⟨⟨locs, Y, N⟩, hh, hn, hx, hZ, hby, hml, hown, hnm, hret, hlk⟩ := X
  subst hpc
  exact own_by K fun t kk => XS.lshl Y.here hx rfl (hb hby hd) rfl (hr ▸ kk)
theorem own_lshr (X : own_S Z n0 bytes y ml ret p l e R s m args below meth c T k sl h) {a r : Int64} {b : Int32} (hd : decode bytes pc = .ok (.lshr, 1)) (hpc : pc + 1 = pc') (hr : (a >>> (b &&& 0x3f).toInt64) = r) (K : own_G p e below Φ T (mkF m pc' Ls (.long r :: S))) : own_G p e below Φ T (mkF m pc Ls (.int b :: .long a :: S)) := by
  obtain ⟨⟨locs, Y, N⟩, hh, hn, hx, hZ, hby, hml, hown, hnm, hret, hlk⟩ := X
  subst hpc
  exact own_by K fun t kk => XS.lshr Y.here hx rfl (hb hby hd) rfl (hr ▸ kk)
theorem own_lushr (X : own_S Z n0 bytes y ml ret p l e R s m args below meth c T k sl h) {a r : Int64} {b : Int32} (hd : decode bytes pc = .ok (.lushr, 1)) (hpc : pc + 1 = pc') (hr : ((a.toUInt64 >>> (b &&& 0x3f).toInt64.toUInt64).toInt64) = r) (K : own_G p e below Φ T (mkF m pc' Ls (.long r :: S))) : own_G p e below Φ T (mkF m pc Ls (.int b :: .long a :: S)) := by
  obtain ⟨⟨locs, Y, N⟩, hh, hn, hx, hZ, hby, hml, hown, hnm, hret, hlk⟩ := X
  subst hpc
  exact own_by K fun t kk => XS.lushr Y.here hx rfl (hb hby hd) rfl (hr ▸ kk)
theorem own_idiv (X : own_S Z n0 bytes y ml ret p l e R s m args below meth c T k sl h) {a b r : Int32} (hd : decode bytes pc = .ok (.idiv, 1)) (hpc : pc + 1 = pc') (hz : b ≠ 0) (hr : a / b = r) (K : own_G p e below Φ T (mkF m pc' Ls (.int r :: S))) : own_G p e below Φ T (mkF m pc Ls (.int b :: .int a :: S)) := by
  obtain ⟨⟨locs, Y, N⟩, hh, hn, hx, hZ, hby, hml, hown, hnm, hret, hlk⟩ := X
  subst hpc
  exact own_by K fun t kk => XS.idiv Y.here hx rfl (hb hby hd) rfl hz (hr ▸ kk)
theorem own_irem (X : own_S Z n0 bytes y ml ret p l e R s m args below meth c T k sl h) {a b r : Int32} (hd : decode bytes pc = .ok (.irem, 1)) (hpc : pc + 1 = pc') (hz : b ≠ 0) (hr : a - (a / b) * b = r) (K : own_G p e below Φ T (mkF m pc' Ls (.int r :: S))) : own_G p e below Φ T (mkF m pc Ls (.int b :: .int a :: S)) := by
  obtain ⟨⟨locs, Y, N⟩, hh, hn, hx, hZ, hby, hml, hown, hnm, hret, hlk⟩ := X
  subst hpc
  exact own_by K fun t kk => XS.irem Y.here hx rfl (hb hby hd) rfl hz (hr ▸ kk)
theorem own_ldiv (X : own_S Z n0 bytes y ml ret p l e R s m args below meth c T k sl h) {a b r : Int64} (hd : decode bytes pc = .ok (.ldiv, 1)) (hpc : pc + 1 = pc') (hz : b ≠ 0) (hr : a / b = r) (K : own_G p e below Φ T (mkF m pc' Ls (.long r :: S))) : own_G p e below Φ T (mkF m pc Ls (.long b :: .long a :: S)) := by
  obtain ⟨⟨locs, Y, N⟩, hh, hn, hx, hZ, hby, hml, hown, hnm, hret, hlk⟩ := X
  subst hpc
  exact own_by K fun t kk => XS.ldiv Y.here hx rfl (hb hby hd) rfl hz (hr ▸ kk)
theorem own_lrem (X : own_S Z n0 bytes y ml ret p l e R s m args below meth c T k sl h) {a b r : Int64} (hd : decode bytes pc = .ok (.lrem, 1)) (hpc : pc + 1 = pc') (hz : b ≠ 0) (hr : a - (a / b) * b = r) (K : own_G p e below Φ T (mkF m pc' Ls (.long r :: S))) : own_G p e below Φ T (mkF m pc Ls (.long b :: .long a :: S)) := by
  obtain ⟨⟨locs, Y, N⟩, hh, hn, hx, hZ, hby, hml, hown, hnm, hret, hlk⟩ := X
  subst hpc
  exact own_by K fun t kk => XS.lrem Y.here hx rfl (hb hby hd) rfl hz (hr ▸ kk)
theorem own_ineg (X : own_S Z n0 bytes y ml ret p l e R s m args below meth c T k sl h) {a : Int32} {r : Int32} (hd : decode bytes pc = .ok (.ineg, 1)) (hpc : pc + 1 = pc') (hr : -a = r) (K : own_G p e below Φ T (mkF m pc' Ls (.int r :: S))) : own_G p e below Φ T (mkF m pc Ls (.int a :: S)) := by
  obtain ⟨⟨locs, Y, N⟩, hh, hn, hx, hZ, hby, hml, hown, hnm, hret, hlk⟩ := X
  subst hpc
  exact own_by K fun t kk => XS.ineg Y.here hx rfl (hb hby hd) rfl (hr ▸ kk)
theorem own_lneg (X : own_S Z n0 bytes y ml ret p l e R s m args below meth c T k sl h) {a : Int64} {r : Int64} (hd : decode bytes pc = .ok (.lneg, 1)) (hpc : pc + 1 = pc') (hr : -a = r) (K : own_G p e below Φ T (mkF m pc' Ls (.long r :: S))) : own_G p e below Φ T (mkF m pc Ls (.long a :: S)) := by
  obtain ⟨⟨locs, Y, N⟩, hh, hn, hx, hZ, hby, hml, hown, hnm, hret, hlk⟩ := X
  subst hpc
  exact own_by K fun t kk => XS.lneg Y.here hx rfl (hb hby hd) rfl (hr ▸ kk)
theorem own_i2l (X : own_S Z n0 bytes y ml ret p l e R s m args below meth c T k sl h) {a : Int32} {r : Int64} (hd : decode bytes pc = .ok (.i2l, 1)) (hpc : pc + 1 = pc') (hr : a.toInt64 = r) (K : own_G p e below Φ T (mkF m pc' Ls (.long r :: S))) : own_G p e below Φ T (mkF m pc Ls (.int a :: S)) := by
  obtain ⟨⟨locs, Y, N⟩, hh, hn, hx, hZ, hby, hml, hown, hnm, hret, hlk⟩ := X
  subst hpc
  exact own_by K fun t kk => XS.i2l Y.here hx rfl (hb hby hd) rfl (hr ▸ kk)
theorem own_l2i (X : own_S Z n0 bytes y ml ret p l e R s m args below meth c T k sl h) {a : Int64} {r : Int32} (hd : decode bytes pc = .ok (.l2i, 1)) (hpc : pc + 1 = pc') (hr : a.toInt32 = r) (K : own_G p e below Φ T (mkF m pc' Ls (.int r :: S))) : own_G p e below Φ T (mkF m pc Ls (.long a :: S)) := by
  obtain ⟨⟨locs, Y, N⟩, hh, hn, hx, hZ, hby, hml, hown, hnm, hret, hlk⟩ := X
  subst hpc
  exact own_by K fun t kk => XS.l2i Y.here hx rfl (hb hby hd) rfl (hr ▸ kk)
theorem own_i2b (X : own_S Z n0 bytes y ml ret p l e R s m args below meth c T k sl h) {a : Int32} {r : Int32} (hd : decode bytes pc = .ok (.i2b, 1)) (hpc : pc + 1 = pc') (hr : a.toInt8.toInt32 = r) (K : own_G p e below Φ T (mkF m pc' Ls (.int r :: S))) : own_G p e below Φ T (mkF m pc Ls (.int a :: S)) := by
  obtain ⟨⟨locs, Y, N⟩, hh, hn, hx, hZ, hby, hml, hown, hnm, hret, hlk⟩ := X
  subst hpc
  exact own_by K fun t kk => XS.i2b Y.here hx rfl (hb hby hd) rfl (hr ▸ kk)
theorem own_i2s (X : own_S Z n0 bytes y ml ret p l e R s m args below meth c T k sl h) {a : Int32} {r : Int32} (hd : decode bytes pc = .ok (.i2s, 1)) (hpc : pc + 1 = pc') (hr : a.toInt16.toInt32 = r) (K : own_G p e below Φ T (mkF m pc' Ls (.int r :: S))) : own_G p e below Φ T (mkF m pc Ls (.int a :: S)) := by
  obtain ⟨⟨locs, Y, N⟩, hh, hn, hx, hZ, hby, hml, hown, hnm, hret, hlk⟩ := X
  subst hpc
  exact own_by K fun t kk => XS.i2s Y.here hx rfl (hb hby hd) rfl (hr ▸ kk)
theorem own_i2c (X : own_S Z n0 bytes y ml ret p l e R s m args below meth c T k sl h) {a : Int32} {r : Int32} (hd : decode bytes pc = .ok (.i2c, 1)) (hpc : pc + 1 = pc') (hr : a.toUInt32.toUInt16.toUInt32.toInt32 = r) (K : own_G p e below Φ T (mkF m pc' Ls (.int r :: S))) : own_G p e below Φ T (mkF m pc Ls (.int a :: S)) := by
  obtain ⟨⟨locs, Y, N⟩, hh, hn, hx, hZ, hby, hml, hown, hnm, hret, hlk⟩ := X
  subst hpc
  exact own_by K fun t kk => XS.i2c Y.here hx rfl (hb hby hd) rfl (hr ▸ kk)
theorem own_lcmp (X : own_S Z n0 bytes y ml ret p l e R s m args below meth c T k sl h) {a b : Int64} (hd : decode bytes pc = .ok (.lcmp, 1)) (hpc : pc + 1 = pc') (K : own_G p e below Φ T (mkF m pc' Ls (.int (lcmpW a b) :: S))) : own_G p e below Φ T (mkF m pc Ls (.long b :: .long a :: S)) := by
  obtain ⟨⟨locs, Y, N⟩, hh, hn, hx, hZ, hby, hml, hown, hnm, hret, hlk⟩ := X
  subst hpc
  exact own_by K fun t kk => XS.lcmp Y.here hx rfl (hb hby hd) rfl kk
theorem own_iconst (X : own_S Z n0 bytes y ml ret p l e R s m args below meth c T k sl h) {i : Int} {v : Int32} (hd : decode bytes pc = .ok (.iconst i, 1)) (hpc : pc + 1 = pc') (hv : Int32.ofInt i = v) (K : own_G p e below Φ T (mkF m pc' Ls (.int v :: S))) : own_G p e below Φ T (mkF m pc Ls (S)) := by
  obtain ⟨⟨locs, Y, N⟩, hh, hn, hx, hZ, hby, hml, hown, hnm, hret, hlk⟩ := X
  subst hpc
  exact own_by K fun t kk => XS.iconst Y.here hx rfl (hb hby hd) (hv ▸ kk)
theorem own_bipush (X : own_S Z n0 bytes y ml ret p l e R s m args below meth c T k sl h) {i : Int} {v : Int32} (hd : decode bytes pc = .ok (.bipush i, 2)) (hpc : pc + 2 = pc') (hv : (Int8.ofInt i).toInt32 = v) (K : own_G p e below Φ T (mkF m pc' Ls (.int v :: S))) : own_G p e below Φ T (mkF m pc Ls (S)) := by
  obtain ⟨⟨locs, Y, N⟩, hh, hn, hx, hZ, hby, hml, hown, hnm, hret, hlk⟩ := X
  subst hpc
  exact own_by K fun t kk => XS.bipush Y.here hx rfl (hb hby hd) (hv ▸ kk)
theorem own_sipush (X : own_S Z n0 bytes y ml ret p l e R s m args below meth c T k sl h) {i : Int} {v : Int32} (hd : decode bytes pc = .ok (.sipush i, 3)) (hpc : pc + 3 = pc') (hv : (Int16.ofInt i).toInt32 = v) (K : own_G p e below Φ T (mkF m pc' Ls (.int v :: S))) : own_G p e below Φ T (mkF m pc Ls (S)) := by
  obtain ⟨⟨locs, Y, N⟩, hh, hn, hx, hZ, hby, hml, hown, hnm, hret, hlk⟩ := X
  subst hpc
  exact own_by K fun t kk => XS.sipush Y.here hx rfl (hb hby hd) (hv ▸ kk)
theorem own_lconst (X : own_S Z n0 bytes y ml ret p l e R s m args below meth c T k sl h) {i : Fin 2} {v : Int64} (hd : decode bytes pc = .ok (.lconst i, 1)) (hpc : pc + 1 = pc') (hv : Int64.ofNat i = v) (K : own_G p e below Φ T (mkF m pc' Ls (.long v :: S))) : own_G p e below Φ T (mkF m pc Ls (S)) := by
  obtain ⟨⟨locs, Y, N⟩, hh, hn, hx, hZ, hby, hml, hown, hnm, hret, hlk⟩ := X
  subst hpc
  exact own_by K fun t kk => XS.lconst Y.here hx rfl (hb hby hd) (hv ▸ kk)
theorem own_aconst_null (X : own_S Z n0 bytes y ml ret p l e R s m args below meth c T k sl h) (hd : decode bytes pc = .ok (.aconst_null, 1)) (hpc : pc + 1 = pc') (K : own_G p e below Φ T (mkF m pc' Ls (.null :: S))) : own_G p e below Φ T (mkF m pc Ls (S)) := by
  obtain ⟨⟨locs, Y, N⟩, hh, hn, hx, hZ, hby, hml, hown, hnm, hret, hlk⟩ := X
  subst hpc
  exact own_by K fun t kk => XS.aconstNull Y.here hx rfl (hb hby hd) kk
theorem own_iload (X : own_S Z n0 bytes y ml ret p l e R s m args below meth c T k sl h) {i : Nat} {v : Int32} (hd : decode bytes pc = .ok (.iload i, 2)) (hpc : pc + 2 = pc') (hl : Ls[i]? = some (.val (.int v))) (K : own_G p e below Φ T (mkF m pc' Ls (.int v :: S))) : own_G p e below Φ T (mkF m pc Ls (S)) := by
  obtain ⟨⟨locs, Y, N⟩, hh, hn, hx, hZ, hby, hml, hown, hnm, hret, hlk⟩ := X
  subst hpc
  exact own_by K fun t kk => XS.iload Y.here hx rfl (hb hby hd) hl kk
theorem own_iloadN (X : own_S Z n0 bytes y ml ret p l e R s m args below meth c T k sl h) {i : Fin 4} {v : Int32} (hd : decode bytes pc = .ok (.iload_n i, 1)) (hpc : pc + 1 = pc') (hl : Ls[i.val]? = some (.val (.int v))) (K : own_G p e below Φ T (mkF m pc' Ls (.int v :: S))) : own_G p e below Φ T (mkF m pc Ls (S)) := by
  obtain ⟨⟨locs, Y, N⟩, hh, hn, hx, hZ, hby, hml, hown, hnm, hret, hlk⟩ := X
  subst hpc
  exact own_by K fun t kk => XS.iloadN Y.here hx rfl (hb hby hd) hl kk
theorem own_lload (X : own_S Z n0 bytes y ml ret p l e R s m args below meth c T k sl h) {i : Nat} {v : Int64} (hd : decode bytes pc = .ok (.lload i, 2)) (hpc : pc + 2 = pc') (hl : Ls[i]? = some (.val (.long v))) (K : own_G p e below Φ T (mkF m pc' Ls (.long v :: S))) : own_G p e below Φ T (mkF m pc Ls (S)) := by
  obtain ⟨⟨locs, Y, N⟩, hh, hn, hx, hZ, hby, hml, hown, hnm, hret, hlk⟩ := X
  subst hpc
  exact own_by K fun t kk => XS.lload Y.here hx rfl (hb hby hd) hl kk
theorem own_lloadN (X : own_S Z n0 bytes y ml ret p l e R s m args below meth c T k sl h) {i : Fin 4} {v : Int64} (hd : decode bytes pc = .ok (.lload_n i, 1)) (hpc : pc + 1 = pc') (hl : Ls[i.val]? = some (.val (.long v))) (K : own_G p e below Φ T (mkF m pc' Ls (.long v :: S))) : own_G p e below Φ T (mkF m pc Ls (S)) := by
  obtain ⟨⟨locs, Y, N⟩, hh, hn, hx, hZ, hby, hml, hown, hnm, hret, hlk⟩ := X
  subst hpc
  exact own_by K fun t kk => XS.lloadN Y.here hx rfl (hb hby hd) hl kk
theorem own_aload (X : own_S Z n0 bytes y ml ret p l e R s m args below meth c T k sl h) {i : Nat} {v : Value} (hd : decode bytes pc = .ok (.aload i, 2)) (hpc : pc + 2 = pc') (hl : Ls[i]? = some (.val v)) (hv : v.isRef = true) (K : own_G p e below Φ T (mkF m pc' Ls (v :: S))) : own_G p e below Φ T (mkF m pc Ls (S)) := by
  obtain ⟨⟨locs, Y, N⟩, hh, hn, hx, hZ, hby, hml, hown, hnm, hret, hlk⟩ := X
  subst hpc
  exact own_by K fun t kk => XS.aload Y.here hx rfl (hb hby hd) hl hv kk
theorem own_aloadN (X : own_S Z n0 bytes y ml ret p l e R s m args below meth c T k sl h) {i : Fin 4} {v : Value} (hd : decode bytes pc = .ok (.aload_n i, 1)) (hpc : pc + 1 = pc') (hl : Ls[i.val]? = some (.val v)) (hv : v.isRef = true) (K : own_G p e below Φ T (mkF m pc' Ls (v :: S))) : own_G p e below Φ T (mkF m pc Ls (S)) := by
  obtain ⟨⟨locs, Y, N⟩, hh, hn, hx, hZ, hby, hml, hown, hnm, hret, hlk⟩ := X
  subst hpc
  exact own_by K fun t kk => XS.aloadN Y.here hx rfl (hb hby hd) hl hv kk
theorem own_dup (X : own_S Z n0 bytes y ml ret p l e R s m args below meth c T k sl h) {v : Value} (hd : decode bytes pc = .ok (.dup, 1)) (hpc : pc + 1 = pc') (hv : v.category = 1) (K : own_G p e below Φ T (mkF m pc' Ls (v :: v :: S))) : own_G p e below Φ T (mkF m pc Ls (v :: S)) := by
  obtain ⟨⟨locs, Y, N⟩, hh, hn, hx, hZ, hby, hml, hown, hnm, hret, hlk⟩ := X
  subst hpc
  exact own_by K fun t kk => XS.dup Y.here hx rfl (hb hby hd) rfl hv kk
theorem own_dup2 (X : own_S Z n0 bytes y ml ret p l e R s m args below meth c T k sl h) {v w : Value} (hd : decode bytes pc = .ok (.dup2, 1)) (hpc : pc + 1 = pc') (hv : v.category = 1) (hw : w.category = 1) (K : own_G p e below Φ T (mkF m pc' Ls (v :: w :: v :: w :: S))) : own_G p e below Φ T (mkF m pc Ls (v :: w :: S)) := by
  obtain ⟨⟨locs, Y, N⟩, hh, hn, hx, hZ, hby, hml, hown, hnm, hret, hlk⟩ := X
  subst hpc
  exact own_by K fun t kk => XT.dup2 Y.here hx rfl (hb hby hd) rfl hv hw kk
theorem own_pop (X : own_S Z n0 bytes y ml ret p l e R s m args below meth c T k sl h) {v : Value} (hd : decode bytes pc = .ok (.pop, 1)) (hpc : pc + 1 = pc') (hv : v.category = 1) (K : own_G p e below Φ T (mkF m pc' Ls (S))) : own_G p e below Φ T (mkF m pc Ls (v :: S)) := by
  obtain ⟨⟨locs, Y, N⟩, hh, hn, hx, hZ, hby, hml, hown, hnm, hret, hlk⟩ := X
  subst hpc
  exact own_by K fun t kk => XS.pop Y.here hx rfl (hb hby hd) rfl hv kk
theorem own_istore (X : own_S Z n0 bytes y ml ret p l e R s m args below meth c T k sl h) {i : Nat} {v : Int32} (hd : decode bytes pc = .ok (.istore i, 2)) (hpc : pc + 2 = pc') (hl : storeLocals Ls i (.int v) = some Ls') (K : own_G p e below Φ T (mkF m pc' Ls' S)) : own_G p e below Φ T (mkF m pc Ls (.int v :: S)) := by
  obtain ⟨⟨locs, Y, N⟩, hh, hn, hx, hZ, hby, hml, hown, hnm, hret, hlk⟩ := X
  subst hpc
  exact own_by K fun t kk => XS.istore Y.here hx rfl (hb hby hd) rfl hl kk
theorem own_istoreN (X : own_S Z n0 bytes y ml ret p l e R s m args below meth c T k sl h) {i : Fin 4} {v : Int32} (hd : decode bytes pc = .ok (.istore_n i, 1)) (hpc : pc + 1 = pc') (hl : storeLocals Ls i.val (.int v) = some Ls') (K : own_G p e below Φ T (mkF m pc' Ls' S)) : own_G p e below Φ T (mkF m pc Ls (.int v :: S)) := by
  obtain ⟨⟨locs, Y, N⟩, hh, hn, hx, hZ, hby, hml, hown, hnm, hret, hlk⟩ := X
  subst hpc
  exact own_by K fun t kk => XS.istoreN Y.here hx rfl (hb hby hd) rfl hl kk
theorem own_lstore (X : own_S Z n0 bytes y ml ret p l e R s m args below meth c T k sl h) {i : Nat} {v : Int64} (hd : decode bytes pc = .ok (.lstore i, 2)) (hpc : pc + 2 = pc') (hl : storeLocals Ls i (.long v) = some Ls') (K : own_G p e below Φ T (mkF m pc' Ls' S)) : own_G p e below Φ T (mkF m pc Ls (.long v :: S)) := by
  obtain ⟨⟨locs, Y, N⟩, hh, hn, hx, hZ, hby, hml, hown, hnm, hret, hlk⟩ := X
  subst hpc
  exact own_by K fun t kk => XS.lstore Y.here hx rfl (hb hby hd) rfl hl kk
theorem own_lstoreN (X : own_S Z n0 bytes y ml ret p l e R s m args below meth c T k sl h) {i : Fin 4} {v : Int64} (hd : decode bytes pc = .ok (.lstore_n i, 1)) (hpc : pc + 1 = pc') (hl : storeLocals Ls i.val (.long v) = some Ls') (K : own_G p e below Φ T (mkF m pc' Ls' S)) : own_G p e below Φ T (mkF m pc Ls (.long v :: S)) := by
  obtain ⟨⟨locs, Y, N⟩, hh, hn, hx, hZ, hby, hml, hown, hnm, hret, hlk⟩ := X
  subst hpc
  exact own_by K fun t kk => XS.lstoreN Y.here hx rfl (hb hby hd) rfl hl kk
theorem own_astore (X : own_S Z n0 bytes y ml ret p l e R s m args below meth c T k sl h) {i : Nat} {v : Value} (hd : decode bytes pc = .ok (.astore i, 2)) (hpc : pc + 2 = pc') (hv : v.isRef = true) (hl : storeLocals Ls i (v) = some Ls') (K : own_G p e below Φ T (mkF m pc' Ls' S)) : own_G p e below Φ T (mkF m pc Ls (v :: S)) := by
  obtain ⟨⟨locs, Y, N⟩, hh, hn, hx, hZ, hby, hml, hown, hnm, hret, hlk⟩ := X
  subst hpc
  exact own_by K fun t kk => XS.astore Y.here hx rfl (hb hby hd) rfl hv hl kk
theorem own_astoreN (X : own_S Z n0 bytes y ml ret p l e R s m args below meth c T k sl h) {i : Fin 4} {v : Value} (hd : decode bytes pc = .ok (.astore_n i, 1)) (hpc : pc + 1 = pc') (hv : v.isRef = true) (hl : storeLocals Ls i.val (v) = some Ls') (K : own_G p e below Φ T (mkF m pc' Ls' S)) : own_G p e below Φ T (mkF m pc Ls (v :: S)) := by
  obtain ⟨⟨locs, Y, N⟩, hh, hn, hx, hZ, hby, hml, hown, hnm, hret, hlk⟩ := X
  subst hpc
  exact own_by K fun t kk => XS.astoreN Y.here hx rfl (hb hby hd) rfl hv hl kk
theorem own_iinc (X : own_S Z n0 bytes y ml ret p l e R s m args below meth c T k sl h) {i : Nat} {cst : Int} {v : Int32} (hd : decode bytes pc = .ok (.iinc i cst, 3)) (hpc : pc + 3 = pc') (hl : Ls[i]? = some (.val (.int v))) {w : Int32} (hw : v + Int32.ofInt cst = w) (hs : storeLocals Ls i (.int w) = some Ls') (K : own_G p e below Φ T (mkF m pc' Ls' S)) : own_G p e below Φ T (mkF m pc Ls S) := by
  obtain ⟨⟨locs, Y, N⟩, hh, hn, hx, hZ, hby, hml, hown, hnm, hret, hlk⟩ := X
  subst hpc
  exact own_by K fun t kk => XS.iinc Y.here hx rfl (hb hby hd) hl (hw ▸ hs) kk
theorem own_goto (X : own_S Z n0 bytes y ml ret p l e R s m args below meth c T k sl h) {o : Int} (hd : decode bytes pc = .ok (.goto o, 3)) (ho : 0 ≤ (pc : Int) + o) (hp : ((pc : Int) + o).toNat = pc') (K : own_G p e below Φ T (mkF m pc' Ls S)) : own_G p e below Φ T (mkF m pc Ls S) := by
  obtain ⟨⟨locs, Y, N⟩, hh, hn, hx, hZ, hby, hml, hown, hnm, hret, hlk⟩ := X
  exact own_by K fun t kk => XS.goto Y.here hx rfl rfl (hb hby hd) ho hp kk
theorem own_icmp_eq (X : own_S Z n0 bytes y ml ret p l e R s m args below meth c T k sl h) {o : Int} {a b : Int32} {pct : Nat} (hd : decode bytes pc = .ok (.if_icmp .eq o, 3)) (hpc : pc + 3 = pc') (ho : 0 ≤ (pc : Int) + o) (hp : ((pc : Int) + o).toNat = pct) (Ky : a = b → own_G p e below Φ T (mkF m pct Ls S)) (Kn : ¬ a = b → own_G p e below Φ T (mkF m pc' Ls S)) : own_G p e below Φ T (mkF m pc Ls (.int b :: .int a :: S)) := by
  obtain ⟨⟨locs, Y, N⟩, hh, hn, hx, hZ, hby, hml, hown, hnm, hret, hlk⟩ := X
  subst hpc
  by_cases hc : a = b
  · exact own_by (Ky hc) fun t kk => XS.icmpYes Y.here hx rfl rfl (hb hby hd) rfl (teq hc).1 ho hp kk
  · exact own_by (Kn hc) fun t kk => XS.icmpNo Y.here hx rfl (hb hby hd) rfl (feq hc).1 kk
theorem own_if_eq (X : own_S Z n0 bytes y ml ret p l e R s m args below meth c T k sl h) {o : Int} {a : Int32} {pct : Nat} (hd : decode bytes pc = .ok (.ifCond .eq o, 3)) (hpc : pc + 3 = pc') (ho : 0 ≤ (pc : Int) + o) (hp : ((pc : Int) + o).toNat = pct) (Ky : a = 0 → own_G p e below Φ T (mkF m pct Ls S)) (Kn : ¬ a = 0 → own_G p e below Φ T (mkF m pc' Ls S)) : own_G p e below Φ T (mkF m pc Ls (.int a :: S)) := by
  obtain ⟨⟨locs, Y, N⟩, hh, hn, hx, hZ, hby, hml, hown, hnm, hret, hlk⟩ := X
  subst hpc
  by_cases hc : a = 0
  · exact own_by (Ky hc) fun t kk => XS.ifYes Y.here hx rfl rfl (hb hby hd) rfl ((if0 _ _).trans (teq hc).1) ho hp kk
  · exact own_by (Kn hc) fun t kk => XS.ifNo Y.here hx rfl (hb hby hd) rfl ((if0 _ _).trans (feq hc).1) kk
theorem own_icmp_ne (X : own_S Z n0 bytes y ml ret p l e R s m args below meth c T k sl h) {o : Int} {a b : Int32} {pct : Nat} (hd : decode bytes pc = .ok (.if_icmp .ne o, 3)) (hpc : pc + 3 = pc') (ho : 0 ≤ (pc : Int) + o) (hp : ((pc : Int) + o).toNat = pct) (Ky : ¬ a = b → own_G p e below Φ T (mkF m pct Ls S)) (Kn : a = b → own_G p e below Φ T (mkF m pc' Ls S)) : own_G p e below Φ T (mkF m pc Ls (.int b :: .int a :: S)) := by
  obtain ⟨⟨locs, Y, N⟩, hh, hn, hx, hZ, hby, hml, hown, hnm, hret, hlk⟩ := X
  subst hpc
  by_cases hc : ¬ a = b
  · exact own_by (Ky hc) fun t kk => XS.icmpYes Y.here hx rfl rfl (hb hby hd) rfl (feq hc).2 ho hp kk
  · replace hc := Decidable.not_not.mp hc; exact own_by (Kn hc) fun t kk => XS.icmpNo Y.here hx rfl (hb hby hd) rfl (teq hc).2 kk
theorem own_if_ne (X : own_S Z n0 bytes y ml ret p l e R s m args below meth c T k sl h) {o : Int} {a : Int32} {pct : Nat} (hd : decode bytes pc = .ok (.ifCond .ne o, 3)) (hpc : pc + 3 = pc') (ho : 0 ≤ (pc : Int) + o) (hp : ((pc : Int) + o).toNat = pct) (Ky : ¬ a = 0 → own_G p e below Φ T (mkF m pct Ls S)) (Kn : a = 0 → own_G p e below Φ T (mkF m pc' Ls S)) : own_G p e below Φ T (mkF m pc Ls (.int a :: S)) := by
  obtain ⟨⟨locs, Y, N⟩, hh, hn, hx, hZ, hby, hml, hown, hnm, hret, hlk⟩ := X
  subst hpc
  by_cases hc : ¬ a = 0
  · exact own_by (Ky hc) fun t kk => XS.ifYes Y.here hx rfl rfl (hb hby hd) rfl ((if0 _ _).trans (feq hc).2) ho hp kk
  · replace hc := Decidable.not_not.mp hc; exact own_by (Kn hc) fun t kk => XS.ifNo Y.here hx rfl (hb hby hd) rfl ((if0 _ _).trans (teq hc).2) kk
theorem own_icmp_lt (X : own_S Z n0 bytes y ml ret p l e R s m args below meth c T k sl h) {o : Int} {a b : Int32} {pct : Nat} (hd : decode bytes pc = .ok (.if_icmp .lt o, 3)) (hpc : pc + 3 = pc') (ho : 0 ≤ (pc : Int) + o) (hp : ((pc : Int) + o).toNat = pct) (Ky : a < b → own_G p e below Φ T (mkF m pct Ls S)) (Kn : ¬ a < b → own_G p e below Φ T (mkF m pc' Ls S)) : own_G p e below Φ T (mkF m pc Ls (.int b :: .int a :: S)) := by
  obtain ⟨⟨locs, Y, N⟩, hh, hn, hx, hZ, hby, hml, hown, hnm, hret, hlk⟩ := X
  subst hpc
  by_cases hc : a < b
  · exact own_by (Ky hc) fun t kk => XS.icmpYes Y.here hx rfl rfl (hb hby hd) rfl (tlt hc).1 ho hp kk
  · exact own_by (Kn hc) fun t kk => XS.icmpNo Y.here hx rfl (hb hby hd) rfl (flt hc).1 kk
theorem own_if_lt (X : own_S Z n0 bytes y ml ret p l e R s m args below meth c T k sl h) {o : Int} {a : Int32} {pct : Nat} (hd : decode bytes pc = .ok (.ifCond .lt o, 3)) (hpc : pc + 3 = pc') (ho : 0 ≤ (pc : Int) + o) (hp : ((pc : Int) + o).toNat = pct) (Ky : a < 0 → own_G p e below Φ T (mkF m pct Ls S)) (Kn : ¬ a < 0 → own_G p e below Φ T (mkF m pc' Ls S)) : own_G p e below Φ T (mkF m pc Ls (.int a :: S)) := by
  obtain ⟨⟨locs, Y, N⟩, hh, hn, hx, hZ, hby, hml, hown, hnm, hret, hlk⟩ := X
  subst hpc
  by_cases hc : a < 0
  · exact own_by (Ky hc) fun t kk => XS.ifYes Y.here hx rfl rfl (hb hby hd) rfl ((if0 _ _).trans (tlt hc).1) ho hp kk
  · exact own_by (Kn hc) fun t kk => XS.ifNo Y.here hx rfl (hb hby hd) rfl ((if0 _ _).trans (flt hc).1) kk
theorem own_icmp_ge (X : own_S Z n0 bytes y ml ret p l e R s m args below meth c T k sl h) {o : Int} {a b : Int32} {pct : Nat} (hd : decode bytes pc = .ok (.if_icmp .ge o, 3)) (hpc : pc + 3 = pc') (ho : 0 ≤ (pc : Int) + o) (hp : ((pc : Int) + o).toNat = pct) (Ky : ¬ a < b → own_G p e below Φ T (mkF m pct Ls S)) (Kn : a < b → own_G p e below Φ T (mkF m pc' Ls S)) : own_G p e below Φ T (mkF m pc Ls (.int b :: .int a :: S)) := by
  obtain ⟨⟨locs, Y, N⟩, hh, hn, hx, hZ, hby, hml, hown, hnm, hret, hlk⟩ := X
  subst hpc
  by_cases hc : ¬ a < b
  · exact own_by (Ky hc) fun t kk => XS.icmpYes Y.here hx rfl rfl (hb hby hd) rfl (flt hc).2.1 ho hp kk
  · replace hc := Decidable.not_not.mp hc; exact own_by (Kn hc) fun t kk => XS.icmpNo Y.here hx rfl (hb hby hd) rfl (tlt hc).2.1 kk
theorem own_if_ge (X : own_S Z n0 bytes y ml ret p l e R s m args below meth c T k sl h) {o : Int} {a : Int32} {pct : Nat} (hd : decode bytes pc = .ok (.ifCond .ge o, 3)) (hpc : pc + 3 = pc') (ho : 0 ≤ (pc : Int) + o) (hp : ((pc : Int) + o).toNat = pct) (Ky : ¬ a < 0 → own_G p e below Φ T (mkF m pct Ls S)) (Kn : a < 0 → own_G p e below Φ T (mkF m pc' Ls S)) : own_G p e below Φ T (mkF m pc Ls (.int a :: S)) := by
  obtain ⟨⟨locs, Y, N⟩, hh, hn, hx, hZ, hby, hml, hown, hnm, hret, hlk⟩ := X
  subst hpc
  by_cases hc : ¬ a < 0
  · exact own_by (Ky hc) fun t kk => XS.ifYes Y.here hx rfl rfl (hb hby hd) rfl ((if0 _ _).trans (flt hc).2.1) ho hp kk
  · replace hc := Decidable.not_not.mp hc; exact own_by (Kn hc) fun t kk => XS.ifNo Y.here hx rfl (hb hby hd) rfl ((if0 _ _).trans (tlt hc).2.1) kk
theorem own_icmp_gt (X : own_S Z n0 bytes y ml ret p l e R s m args below meth c T k sl h) {o : Int} {a b : Int32} {pct : Nat} (hd : decode bytes pc = .ok (.if_icmp .gt o, 3)) (hpc : pc + 3 = pc') (ho : 0 ≤ (pc : Int) + o) (hp : ((pc : Int) + o).toNat = pct) (Ky : b < a → own_G p e below Φ T (mkF m pct Ls S)) (Kn : ¬ b < a → own_G p e below Φ T (mkF m pc' Ls S)) : own_G p e below Φ T (mkF m pc Ls (.int b :: .int a :: S)) := by
  obtain ⟨⟨locs, Y, N⟩, hh, hn, hx, hZ, hby, hml, hown, hnm, hret, hlk⟩ := X
  subst hpc
  by_cases hc : b < a
  · exact own_by (Ky hc) fun t kk => XS.icmpYes Y.here hx rfl rfl (hb hby hd) rfl (tlt hc).2.2.1 ho hp kk
  · exact own_by (Kn hc) fun t kk => XS.icmpNo Y.here hx rfl (hb hby hd) rfl (flt hc).2.2.1 kk
theorem own_if_gt (X : own_S Z n0 bytes y ml ret p l e R s m args below meth c T k sl h) {o : Int} {a : Int32} {pct : Nat} (hd : decode bytes pc = .ok (.ifCond .gt o, 3)) (hpc : pc + 3 = pc') (ho : 0 ≤ (pc : Int) + o) (hp : ((pc : Int) + o).toNat = pct) (Ky : 0 < a → own_G p e below Φ T (mkF m pct Ls S)) (Kn : ¬ 0 < a → own_G p e below Φ T (mkF m pc' Ls S)) : own_G p e below Φ T (mkF m pc Ls (.int a :: S)) := by
  obtain ⟨⟨locs, Y, N⟩, hh, hn, hx, hZ, hby, hml, hown, hnm, hret, hlk⟩ := X
  subst hpc
  by_cases hc : 0 < a
  · exact own_by (Ky hc) fun t kk => XS.ifYes Y.here hx rfl rfl (hb hby hd) rfl ((if0 _ _).trans (tlt hc).2.2.1) ho hp kk
  · exact own_by (Kn hc) fun t kk => XS.ifNo Y.here hx rfl (hb hby hd) rfl ((if0 _ _).trans (flt hc).2.2.1) kk
theorem own_icmp_le (X : own_S Z n0 bytes y ml ret p l e R s m args below meth c T k sl h) {o : Int} {a b : Int32} {pct : Nat} (hd : decode bytes pc = .ok (.if_icmp .le o, 3)) (hpc : pc + 3 = pc') (ho : 0 ≤ (pc : Int) + o) (hp : ((pc : Int) + o).toNat = pct) (Ky : ¬ b < a → own_G p e below Φ T (mkF m pct Ls S)) (Kn : b < a → own_G p e below Φ T (mkF m pc' Ls S)) : own_G p e below Φ T (mkF m pc Ls (.int b :: .int a :: S)) := by
  obtain ⟨⟨locs, Y, N⟩, hh, hn, hx, hZ, hby, hml, hown, hnm, hret, hlk⟩ := X
  subst hpc
  by_cases hc : ¬ b < a
  · exact own_by (Ky hc) fun t kk => XS.icmpYes Y.here hx rfl rfl (hb hby hd) rfl (flt hc).2.2.2 ho hp kk
  · replace hc := Decidable.not_not.mp hc; exact own_by (Kn hc) fun t kk => XS.icmpNo Y.here hx rfl (hb hby hd) rfl (tlt hc).2.2.2 kk
theorem own_if_le (X : own_S Z n0 bytes y ml ret p l e R s m args below meth c T k sl h) {o : Int} {a : Int32} {pct : Nat} (hd : decode bytes pc = .ok (.ifCond .le o, 3)) (hpc : pc + 3 = pc') (ho : 0 ≤ (pc : Int) + o) (hp : ((pc : Int) + o).toNat = pct) (Ky : ¬ 0 < a → own_G p e below Φ T (mkF m pct Ls S)) (Kn : 0 < a → own_G p e below Φ T (mkF m pc' Ls S)) : own_G p e below Φ T (mkF m pc Ls (.int a :: S)) := by
  obtain ⟨⟨locs, Y, N⟩, hh, hn, hx, hZ, hby, hml, hown, hnm, hret, hlk⟩ := X
  subst hpc
  by_cases hc : ¬ 0 < a
  · exact own_by (Ky hc) fun t kk => XS.ifYes Y.here hx rfl rfl (hb hby hd) rfl ((if0 _ _).trans (flt hc).2.2.2) ho hp kk
  · replace hc := Decidable.not_not.mp hc; exact own_by (Kn hc) fun t kk => XS.ifNo Y.here hx rfl (hb hby hd) rfl ((if0 _ _).trans (tlt hc).2.2.2) kk
theorem own_ifl_eq (X : own_S Z n0 bytes y ml ret p l e R s m args below meth c T k sl h) {o : Int} {a b : Int64} {pct : Nat} (hd : decode bytes pc = .ok (.ifCond .eq o, 3)) (hpc : pc + 3 = pc') (ho : 0 ≤ (pc : Int) + o) (hp : ((pc : Int) + o).toNat = pct) (Ky : a = b → own_G p e below Φ T (mkF m pct Ls S)) (Kn : ¬ a = b → own_G p e below Φ T (mkF m pc' Ls S)) : own_G p e below Φ T (mkF m pc Ls (.int (lcmpW a b) :: S)) :=
  own_if_eq X hd hpc ho hp (fun q => Ky ((lw_eq a b).mp q)) (fun q => Kn (fun r => q ((lw_eq a b).mpr r)))
theorem own_ifl_ne (X : own_S Z n0 bytes y ml ret p l e R s m args below meth c T k sl h) {o : Int} {a b : Int64} {pct : Nat} (hd : decode bytes pc = .ok (.ifCond .ne o, 3)) (hpc : pc + 3 = pc') (ho : 0 ≤ (pc : Int) + o) (hp : ((pc : Int) + o).toNat = pct) (Ky : ¬ a = b → own_G p e below Φ T (mkF m pct Ls S)) (Kn : a = b → own_G p e below Φ T (mkF m pc' Ls S)) : own_G p e below Φ T (mkF m pc Ls (.int (lcmpW a b) :: S)) :=
  own_if_ne X hd hpc ho hp (fun q => Ky (fun r => q ((lw_eq a b).mpr r))) (fun q => Kn ((lw_eq a b).mp q))
theorem own_ifl_lt (X : own_S Z n0 bytes y ml ret p l e R s m args below meth c T k sl h) {o : Int} {a b : Int64} {pct : Nat} (hd : decode bytes pc = .ok (.ifCond .lt o, 3)) (hpc : pc + 3 = pc') (ho : 0 ≤ (pc : Int) + o) (hp : ((pc : Int) + o).toNat = pct) (Ky : a < b → own_G p e below Φ T (mkF m pct Ls S)) (Kn : ¬ a < b → own_G p e below Φ T (mkF m pc' Ls S)) : own_G p e below Φ T (mkF m pc Ls (.int (lcmpW a b) :: S)) :=
  own_if_lt X hd hpc ho hp (fun q => Ky ((lw_lt a b).mp q)) (fun q => Kn (fun r => q ((lw_lt a b).mpr r)))
theorem own_ifl_ge (X : own_S Z n0 bytes y ml ret p l e R s m args below meth c T k sl h) {o : Int} {a b : Int64} {pct : Nat} (hd : decode bytes pc = .ok (.ifCond .ge o, 3)) (hpc : pc + 3 = pc') (ho : 0 ≤ (pc : Int) + o) (hp : ((pc : Int) + o).toNat = pct) (Ky : ¬ a < b → own_G p e below Φ T (mkF m pct Ls S)) (Kn : a < b → own_G p e below Φ T (mkF m pc' Ls S)) : own_G p e below Φ T (mkF m pc Ls (.int (lcmpW a b) :: S)) :=
  own_if_ge X hd hpc ho hp (fun q => Ky (fun r => q ((lw_lt a b).mpr r))) (fun q => Kn ((lw_lt a b).mp q))
theorem own_ifl_gt (X : own_S Z n0 bytes y ml ret p l e R s m args below meth c T k sl h) {o : Int} {a b : Int64} {pct : Nat} (hd : decode bytes pc = .ok (.ifCond .gt o, 3)) (hpc : pc + 3 = pc') (ho : 0 ≤ (pc : Int) + o) (hp : ((pc : Int) + o).toNat = pct) (Ky : b < a → own_G p e below Φ T (mkF m pct Ls S)) (Kn : ¬ b < a → own_G p e below Φ T (mkF m pc' Ls S)) : own_G p e below Φ T (mkF m pc Ls (.int (lcmpW a b) :: S)) :=
  own_if_gt X hd hpc ho hp (fun q => Ky ((lw_gt a b).mp q)) (fun q => Kn (fun r => q ((lw_gt a b).mpr r)))
theorem own_ifl_le (X : own_S Z n0 bytes y ml ret p l e R s m args below meth c T k sl h) {o : Int} {a b : Int64} {pct : Nat} (hd : decode bytes pc = .ok (.ifCond .le o, 3)) (hpc : pc + 3 = pc') (ho : 0 ≤ (pc : Int) + o) (hp : ((pc : Int) + o).toNat = pct) (Ky : ¬ b < a → own_G p e below Φ T (mkF m pct Ls S)) (Kn : b < a → own_G p e below Φ T (mkF m pc' Ls S)) : own_G p e below Φ T (mkF m pc Ls (.int (lcmpW a b) :: S)) :=
  own_if_le X hd hpc ho hp (fun q => Ky (fun r => q ((lw_gt a b).mpr r))) (fun q => Kn ((lw_gt a b).mp q))
theorem own_ldc {i : Nat} {v : Int32} (X : own_S Z n0 bytes y ml ret p l e R s m args below meth c T k sl h) (hw : (Jvm.Cond.constant y.cls i v).before a0 Z = true) (hd : decode bytes pc = .ok (.ldc i, 2)) (hpc : pc + 2 = pc') (K : own_G p e below Φ T (mkF m pc' Ls (.int v :: S))) : own_G p e below Φ T (mkF m pc Ls S) := by
  obtain ⟨⟨locs, Y, N⟩, hh, hn, hx, hZ, hby, hml, hown, hnm, hret, hlk⟩ := X
  subst hpc
  exact own_by K fun t kk => Y.ldcInt hx hown (mvT hZ hw) (g := mkF m pc Ls S) rfl (hb hby hd) t kk
theorem own_ldc2 {i : Nat} {v : Int64} (X : own_S Z n0 bytes y ml ret p l e R s m args below meth c T k sl h) (hw : (Jvm.Cond.constantLong y.cls i v).before a0 Z = true) (hd : decode bytes pc = .ok (.ldc2_w i, 3)) (hpc : pc + 3 = pc') (K : own_G p e below Φ T (mkF m pc' Ls (.long v :: S))) : own_G p e below Φ T (mkF m pc Ls S) := by
  obtain ⟨⟨locs, Y, N⟩, hh, hn, hx, hZ, hby, hml, hown, hnm, hret, hlk⟩ := X
  subst hpc
  exact own_by K fun t kk => Y.ldc2Long hx hown (mvT hZ hw) (g := mkF m pc Ls S) rfl (hb hby hd) t kk
theorem own_ret {w' : Option Value} {Θ : Heap → Prop} {w : Value} {t : FieldType} {i : Instr} (X : own_S Z n0 bytes y ml (some t) p l e R s m args below meth c T k sl h)
    (hd : decode bytes pc = .ok (i, 1)) (hi : (i = .ireturn ∧ (t = .int ∨ t = .boolean ∨ t = .byte ∨ t = .char ∨ t = .short) ∧ ∃ z, w = .int z) ∨ (i = .lreturn ∧ t = .long ∧ ∃ z, w = .long z) ∨ (i = .dreturn ∧ t = .double ∧ ∃ z, w = .double z) ∨ (i = .freturn ∧ t = .float ∧ ∃ z, w = .float z) ∨ (i = .areturn ∧ t.isReference = true ∧ w.isRef = true))
    (hnw : narrow t w = w) (hk : k ≤ R.cells) (hs : sl ≤ R.slots) (hw : some w = w') (hΘ : Θ h) : own_G p e below (own_Q n0 below s R w' Θ) T (mkF m pc Ls (w :: S)) := by
  obtain ⟨⟨locs, Y, N⟩, hh, hn, hx, hZ, hby, hml, hown, hnm, hret, hlk⟩ := X
  obtain ⟨fs, hr, hrun, hended, hW, hsame⟩ := Y.leave (v := some w) (fun h => by rw [hret] at h; cases h) hlk
  refine ⟨_, _, retOut Y hx hret hnw hi (hb hby hd) hr, hrun, hended, _, _, rfl, ⟨⟨hw, ?_⟩, N⟩, ⟨_, rfl⟩, hW, hsame.mono hk hs⟩
  show Θ T.heap
  rw [hh]; exact hΘ
theorem own_retV {w' : Option Value} {Θ : Heap → Prop} (X : own_S Z n0 bytes y ml none p l e R s m args below meth c T k sl h)
    (hd : decode bytes pc = .ok (.return_, 1)) (hk : k ≤ R.cells) (hs : sl ≤ R.slots) (hw : none = w') (hΘ : Θ h) : own_G p e below (own_Q n0 below s R w' Θ) T (mkF m pc Ls []) := by
  obtain ⟨⟨locs, Y, N⟩, hh, hn, hx, hZ, hby, hml, hown, hnm, hret, hlk⟩ := X
  obtain ⟨fs, hr, hrun, hended, hW, hsame⟩ := Y.leave (v := none) (fun _ => rfl) hlk
  refine ⟨_, _, Y.returnOut hx hret (hb hby hd) hr, hrun, hended, _, _, rfl, ⟨⟨hw, ?_⟩, N⟩, ⟨_, rfl⟩, hW, hsame.mono hk hs⟩
  show Θ T.heap
  rw [hh]; exact hΘ
theorem own_retZ {w' : Option Value} {Θ : Heap → Prop} {z : Int32} (X : own_S Z n0 bytes y ml (some .boolean) p l e R s m args below meth c T k sl h) (hd : decode bytes pc = .ok (.ireturn, 1)) (hz : z &&& 1 = z) (hk : k ≤ R.cells) (hs : sl ≤ R.slots) (hw : some (.int z) = w') (hΘ : Θ h) : own_G p e below (own_Q n0 below s R w' Θ) T (mkF m pc Ls (.int z :: S)) :=
  own_ret X hd (Or.inl ⟨rfl, by simp, _, rfl⟩) (by simp [narrow, hz]) hk hs hw hΘ
theorem own_retI {w' : Option Value} {Θ : Heap → Prop} {z : Int32} (X : own_S Z n0 bytes y ml (some .int) p l e R s m args below meth c T k sl h) (hd : decode bytes pc = .ok (.ireturn, 1)) (hk : k ≤ R.cells) (hs : sl ≤ R.slots) (hw : some (.int z) = w') (hΘ : Θ h) : own_G p e below (own_Q n0 below s R w' Θ) T (mkF m pc Ls (.int z :: S)) :=
  own_ret X hd (Or.inl ⟨rfl, by simp, _, rfl⟩) rfl hk hs hw hΘ
theorem own_retB {w' : Option Value} {Θ : Heap → Prop} {z : Int32} (X : own_S Z n0 bytes y ml (some .byte) p l e R s m args below meth c T k sl h) (hd : decode bytes pc = .ok (.ireturn, 1)) (hz : z.toInt8.toInt32 = z) (hk : k ≤ R.cells) (hs : sl ≤ R.slots) (hw : some (.int z) = w') (hΘ : Θ h) : own_G p e below (own_Q n0 below s R w' Θ) T (mkF m pc Ls (.int z :: S)) :=
  own_ret X hd (Or.inl ⟨rfl, by simp, _, rfl⟩) (by simp [narrow, hz]) hk hs hw hΘ
theorem own_retL {w' : Option Value} {Θ : Heap → Prop} {z : Int64} (X : own_S Z n0 bytes y ml (some .long) p l e R s m args below meth c T k sl h) (hd : decode bytes pc = .ok (.lreturn, 1)) (hk : k ≤ R.cells) (hs : sl ≤ R.slots) (hw : some (.long z) = w') (hΘ : Θ h) : own_G p e below (own_Q n0 below s R w' Θ) T (mkF m pc Ls (.long z :: S)) :=
  own_ret X hd (Or.inr (Or.inl ⟨rfl, rfl, _, rfl⟩)) rfl hk hs hw hΘ
theorem own_callS {z : MethodName} {cb : ByteArray} {cml : Nat} {cret : Option FieldType} {crm : Room} {i : Nat} {argsL rest S' : List Value} {w : Option Value} {Θ : Heap → Prop} (X : own_S Z n0 bytes y ml ret p l e R s m args below meth c T k sl h) (M : own_Met l z cb cml cret crm Z n0 argsL.toArray h w Θ)
    (w1 : (Jvm.Cond.methodLink y.cls i z).before a0 Z = true) (w2 : (Jvm.Cond.static z).before a0 Z = true) (w3 : (Jvm.Cond.initialized z.cls).before a0 Z = true) (w4 : (Jvm.Cond.code z cb cml cret).before a0 Z = true) (hz : z.cls ≠ "java/lang/invoke/MethodHandle" ∧ z.cls ≠ "java/lang/invoke/VarHandle")
    {W : Nat} (hf : crm.frames + 1 ≤ R.frames) (hl : W + (cml + 11) + crm.locals ≤ R.locals) (hc0 : crm.cells = 0) (hs0 : crm.slots = 0) (hc : k ≤ R.cells) (hs : sl ≤ R.slots)
    (hlen : ∀ sig, parseMethodDescriptor z.desc = some sig → argsL.length = sig.parameters.length) (hst : S = argsL.reverse ++ rest) (hW : 2 * 0 + (rest.map fun v => v.category).sum ≤ W) (hsz : Ls.size = ml)
    (hd : decode bytes pc = .ok (.invokestatic i, 3)) (hpc : pc + 3 = pc')
    (hS' : w.toList ++ rest = S') (K : ∀ T' h', own_S Z n0 bytes y ml ret p l e R s m args below meth c T' k sl h' → Θ h' → own_G p e below Φ T' (mkF m pc' Ls S')) : own_G p e below Φ T (mkF m pc Ls S) := by
  obtain ⟨⟨locs, Y, N⟩, hh, hn, hx, hZ, hby, hml, hown, hnm, hret, hlk⟩ := X
  subst hpc
  obtain ⟨v, _, ⟨T', L', k', n'⟩, -, X', ⟨Lc, hQ, l1, y1, z1⟩, st⟩ := Jvm.LawKit.callS Y hx (y := z) hown (mvT hZ w1) (mvT hZ w2) (mvT hZ w3) (mvT hZ w4) hz (backOf (W := W) (Q := fun v h' L => (v = w ∧ Θ h') ∧ Fr n0 L) (M []) hZ w4 w3 hf hl) (g := mkF m pc Ls S) rfl (by rw [hml]; exact hsz) (argsL := argsL) (rest := rest) hlen hst hW (hb hby hd) (fun _ _ => ⟨rfl, hh, by rw [hc0]; exact hc, by rw [hs0]; exact hs⟩)
  dsimp only [Pt.U, Pt.locs, Pt.cells, Pt.slots] at X' l1 y1 z1 st hQ
  subst l1 y1 z1
  obtain ⟨⟨rfl, hQ1⟩, hQ2⟩ := hQ
  rw [hc0, hs0] at X'
  subst hS'
  exact own_by (K T' _ ⟨⟨_, X', N.app hQ2⟩, rfl, hn, hx, hZ, hby, hml, hown, hnm, hret, hlk⟩ hQ1) st
theorem own_callI {z : MethodName} {cb : ByteArray} {cml : Nat} {crm : Room} {i : Nat} {a : Addr} {argsL rest S' : List Value} {w : Option Value} {Θ : Heap → Prop} (X : own_S Z n0 bytes y ml ret p l e R s m args below meth c T k sl h) (M : own_Met l z cb cml none crm Z n0 (.ref a :: argsL).toArray h w Θ) (hi : z.name = "<init>")
    (w1 : (Jvm.Cond.methodLink y.cls i z).before a0 Z = true) (w2 : (Jvm.Cond.instanceMethod z).before a0 Z = true) (w3 : (Jvm.Cond.initialized z.cls).before a0 Z = true) (w4 : (Jvm.Cond.code z cb cml none).before a0 Z = true) (hz : z.cls ≠ "java/lang/invoke/MethodHandle" ∧ z.cls ≠ "java/lang/invoke/VarHandle")
    {W : Nat} (hf : crm.frames + 1 ≤ R.frames) (hl : W + (cml + 11) + crm.locals ≤ R.locals) (hc0 : crm.cells = 0) (hs0 : crm.slots = 0) (hc : k ≤ R.cells) (hs : sl ≤ R.slots)
    (hlen : ∀ sig, parseMethodDescriptor z.desc = some sig → argsL.length = sig.parameters.length) (hst : S = argsL.reverse ++ .ref a :: rest) (hW : 2 * 0 + (rest.map fun v => v.category).sum ≤ W) (hsz : Ls.size = ml)
    (hd : decode bytes pc = .ok (.invokespecial i, 3)) (hpc : pc + 3 = pc')
    (hS' : w.toList ++ rest = S') (K : ∀ T' h', own_S Z n0 bytes y ml ret p l e R s m args below meth c T' k sl h' → Θ h' → own_G p e below Φ T' (mkF m pc' Ls S')) : own_G p e below Φ T (mkF m pc Ls S) := by
  obtain ⟨⟨locs, Y, N⟩, hh, hn, hx, hZ, hby, hml, hown, hnm, hret, hlk⟩ := X
  subst hpc
  obtain ⟨v, _, ⟨T', L', k', n'⟩, -, X', ⟨Lc, hQ, l1, y1, z1⟩, st⟩ := Y.specialBack hx (y := z) hi hown (mvT hZ w1) (mvT hZ w2) (mvT hZ w4) hz (backOf (W := W) (Q := fun v h' L => (v = w ∧ Θ h') ∧ Fr n0 L) (M []) hZ w4 w3 hf hl) (g := mkF m pc Ls S) rfl (by rw [hml]; exact hsz) (Steps.refl _) (a := a) (argsL := argsL) (rest := rest) hlen hst hW (hb hby hd) (fun _ _ => ⟨rfl, hh, by rw [hc0]; exact hc, by rw [hs0]; exact hs⟩)
  dsimp only [Pt.U, Pt.locs, Pt.cells, Pt.slots] at X' l1 y1 z1 st hQ
  subst l1 y1 z1
  obtain ⟨⟨rfl, hQ1⟩, hQ2⟩ := hQ
  rw [hc0, hs0] at X'
  subst hS'
  exact own_by (K T' _ ⟨⟨_, X', N.app hQ2⟩, rfl, hn, hx, hZ, hby, hml, hown, hnm, hret, hlk⟩ hQ1) fun t kk => st.trans kk
theorem own_callV {z : MethodName} {cb : ByteArray} {cml : Nat} {cret : Option FieldType} {crm : Room} {i : Nat} {a : Addr} {argsL rest S' : List Value} {w : Option Value} {Θ : Heap → Prop} (X : own_S Z n0 bytes y ml ret p l e R s m args below meth c T k sl h) (M : own_Met l z cb cml cret crm Z n0 (.ref a :: argsL).toArray h w Θ) (E : Exa Z h a z.cls)
    (w1 : (Jvm.Cond.methodLink y.cls i z).before a0 Z = true) (w2 : (Jvm.Cond.declares z).before a0 Z = true) (w5 : (Jvm.Cond.selects z.cls z z).before a0 Z = true) (w6 : (Jvm.Cond.instanceMethod z).before a0 Z = true) (w3 : (Jvm.Cond.initialized z.cls).before a0 Z = true) (w4 : (Jvm.Cond.code z cb cml cret).before a0 Z = true) (hz : z.cls ≠ "java/lang/invoke/MethodHandle" ∧ z.cls ≠ "java/lang/invoke/VarHandle")
    {W : Nat} (hf : crm.frames + 1 ≤ R.frames) (hl : W + (cml + 11) + crm.locals ≤ R.locals) (hc0 : crm.cells = 0) (hs0 : crm.slots = 0) (hc : k ≤ R.cells) (hs : sl ≤ R.slots)
    (hlen : ∀ sig, parseMethodDescriptor z.desc = some sig → argsL.length = sig.parameters.length) (hst : S = argsL.reverse ++ .ref a :: rest) (hW : 2 * 0 + (rest.map fun v => v.category).sum ≤ W) (hsz : Ls.size = ml)
    (hd : decode bytes pc = .ok (.invokevirtual i, 3)) (hpc : pc + 3 = pc')
    (hS' : w.toList ++ rest = S') (K : ∀ T' h', own_S Z n0 bytes y ml ret p l e R s m args below meth c T' k sl h' → Θ h' → own_G p e below Φ T' (mkF m pc' Ls S')) : own_G p e below Φ T (mkF m pc Ls S) := by
  obtain ⟨⟨locs, Y, N⟩, hh, hn, hx, hZ, hby, hml, hown, hnm, hret, hlk⟩ := X
  subst hpc
  obtain ⟨cq, kq, qa, qb, qc⟩ := isOf hZ hh E
  obtain ⟨v, _, ⟨T', L', k', n'⟩, -, X', ⟨Lc, hQ, l1, y1, z1⟩, st⟩ := Y.virtualBack hx (y := z) (z := z) hown (mvT hZ w1) (mvT hZ w2) (notFace_of_selects (args := #[]) (mvT hZ w5)) (mvT hZ w5) (mvT hZ w6) hz (backOf (W := W) (Q := fun v h' L => (v = w ∧ Θ h') ∧ Fr n0 L) (M []) hZ w4 w3 hf hl) qa qc (g := mkF m pc Ls S) rfl (by rw [hml]; exact hsz) (Steps.refl _) (argsL := argsL) (rest := rest) hlen hst hW (hb hby hd) (fun _ _ => ⟨rfl, hh, by rw [hc0]; exact hc, by rw [hs0]; exact hs⟩)
  dsimp only [Pt.U, Pt.locs, Pt.cells, Pt.slots] at X' l1 y1 z1 st hQ
  subst l1 y1 z1
  obtain ⟨⟨rfl, hQ1⟩, hQ2⟩ := hQ
  rw [hc0, hs0] at X'
  subst hS'
  exact own_by (K T' _ ⟨⟨_, X', N.app hQ2⟩, rfl, hn, hx, hZ, hby, hml, hown, hnm, hret, hlk⟩ hQ1) fun t kk => st.trans kk
theorem own_getF (X : own_S Z n0 bytes y ml ret p l e R s m args below meth c T k sl h) {i : Nat} {a : Addr} {O nm d : String} {v : Value} (w : (Jvm.Cond.fieldLink y.cls i O nm d).before a0 Z = true) (F : Fld Z h a O nm d v) (hd : decode bytes pc = .ok (.getfield i, 3)) (hpc : pc + 3 = pc')
    (K : ∀ T', own_S Z n0 bytes y ml ret p l e R s m args below meth c T' k sl h → own_G p e below Φ T' (mkF m pc' Ls (v :: S))) : own_G p e below Φ T (mkF m pc Ls (.ref a :: S)) := by
  obtain ⟨⟨locs, Y, N⟩, hh, hn, hx, hZ, hby, hml, hown, hnm, hret, hlk⟩ := X
  subst hpc
  obtain ⟨T', X', e', st⟩ := getF Y hx hZ hown (host := "") (Or.inl w) Via.refl hh F (g := mkF m pc Ls (.ref a :: S)) rfl rfl (hb hby hd)
  exact own_by (K T' ⟨⟨_, X', N⟩, e', hn, hx, hZ, hby, hml, hown, hnm, hret, hlk⟩) st
theorem own_putF (X : own_S Z n0 bytes y ml ret p l e R s m args below meth c T k sl h) {i kk : Nat} {a : Addr} {O nm d C : String} {v v' old : Value} {ty : FieldType} (w : (Jvm.Cond.fieldLink y.cls i O nm d).before a0 Z = true) (F : Fld Z h a O nm d old) (E : Exa Z h a C) (ha : n0 ≤ a)
    (L : (Jvm.Cond.lays C O nm d).before a0 Z = true ∨ ((Jvm.Cond.laysFinal C O nm d).before a0 Z = true ∧ y.cls = O ∧ y.name = "<init>")) (wi : (Jvm.Cond.instantiable C kk).before a0 Z = true) (hty : parseFieldDescriptor d = some ty) (hv : narrow ty v = v') (hf : fits ty v' = true)
    (hd : decode bytes pc = .ok (.putfield i, 3)) (hpc : pc + 3 = pc')
    (K : ∀ T' h', own_S Z n0 bytes y ml ret p l e R s m args below meth c T' k sl h' → Wr h h' a (Jvm.RoadKit.slotOf Z O nm d) v' → own_G p e below Φ T' (mkF m pc' Ls S)) : own_G p e below Φ T (mkF m pc Ls (v :: .ref a :: S)) := by
  obtain ⟨⟨locs, Y, N⟩, hh, hn, hx, hZ, hby, hml, hown, hnm, hret, hlk⟩ := X
  subst hpc
  obtain ⟨T', h', X', e', W', st⟩ := putFN Y hx hZ hown w Via.refl hh F E (L.imp id fun q => ⟨q.1, q.2.1, hnm.trans q.2.2⟩) wi hty hv hf (g := mkF m pc Ls (v :: .ref a :: S)) rfl rfl (hb hby hd)
  exact own_by (K T' h' ⟨⟨_, X', Fr.snoc X' N ha⟩, e', hn, hx, hZ, hby, hml, hown, hnm, hret, hlk⟩ W') st
theorem own_new (X : own_S Z n0 bytes y ml ret p l e R s m args below meth c T k sl h) {i n : Nat} {C : String} (w : (Jvm.Cond.classLink y.cls i C).before a0 Z = true) (wi : (Jvm.Cond.instantiable C n).before a0 Z = true) (wz : (Jvm.Cond.initialized C).before a0 Z = true) (hd : decode bytes pc = .ok (.new i, 3)) (hpc : pc + 3 = pc') (hc : k + 1 ≤ R.cells) (hs : sl + n ≤ R.slots)
    (K : ∀ T' h' a, own_S Z n0 bytes y ml ret p l e R s m args below meth c T' (k + 1) (sl + n) h' → n0 ≤ a → a = h.size → Ext h h' → Exa Z h' a C → (∀ {O nm d : String} {ty : FieldType}, Laid Z a0 C O nm d → parseFieldDescriptor d = some ty → Fld Z h' a O nm d (defaultValue ty)) → own_G p e below Φ T' (mkF m pc' Ls (.ref a :: S))) : own_G p e below Φ T (mkF m pc Ls S) := by
  have hsz := X.size
  obtain ⟨⟨locs, Y, N⟩, hh, hn, hx, hZ, hby, hml, hown, hnm, hret, hlk⟩ := X
  subst hpc
  obtain ⟨T', h', X', e', E', A', D', -, st⟩ := newO Y hx hZ hown w wi wz hh (g := mkF m pc Ls S) rfl (hb hby hd) hc hs
  exact own_by (K T' h' h.size ⟨⟨_, X', N⟩, e', hn, hx, hZ, hby, hml, hown, hnm, hret, hlk⟩ hsz rfl E' A' D') st
def own_A (Z : State) (h : Heap) (a : Addr) (ty : FieldType) (vs : List Int32) : Prop := ∃ cl : Cell, Arr Z h a cl ty ∧ cl.slots.size = vs.length ∧ ∀ j, j < vs.length → cl.slots[j]? = some (.int (vs.getD j 0))
theorem own_A.ext {h' : Heap} {a : Addr} {ty : FieldType} {vs : List Int32} (A : own_A Z h a ty vs) (E : Ext h h') : own_A Z h' a ty vs := by obtain ⟨cl, q, r⟩ := A; exact ⟨cl, q.ext E, r⟩
theorem own_A.other {h' : Heap} {a b : Addr} {ty : FieldType} {vs : List Int32} {i : Nat} {v : Value} (A : own_A Z h b ty vs) (W : Wr h h' a i v) (q : b ≠ a) : own_A Z h' b ty vs := by obtain ⟨cl, r, t⟩ := A; exact ⟨cl, r.other W q, t⟩
theorem own_A.keep {h' : Heap} {a : Addr} {ty : FieldType} {vs : List Int32} {ws : List Addr} (A : own_A Z h a ty vs) (K : Keep h h' ws) (q : a ∉ ws) : own_A Z h' a ty vs := by obtain ⟨cl, r, t⟩ := A; exact ⟨cl, ⟨K.2.1 a cl r.1 q, r.2⟩, t⟩
theorem own_A.lt {a : Addr} {ty : FieldType} {vs : List Int32} (A : own_A Z h a ty vs) : a < h.size := by obtain ⟨cl, q, r⟩ := A; exact q.lt
def own_in (j : Int32) (n : Nat) : Bool := decide (0 ≤ j.toInt) && Nat.blt j.toNatClampNeg n
theorem own_in_not {j : Int32} {n : Nat} (q : own_in j n = true) : j.toNatClampNeg < n ∧ ¬ (j < 0 ∨ n ≤ j.toNatClampNeg) := by
  simp only [own_in, Bool.and_eq_true, decide_eq_true_eq] at q
  have h2 : j.toNatClampNeg < n := Nat.le_of_ble_eq_true q.2
  refine ⟨h2, ?_⟩
  simp only [Int32.lt_iff_toInt_lt, Int32.reduceToInt]
  omega
theorem own_baload (X : own_S Z n0 bytes y ml ret p l e R s m args below meth c T k sl h) {a : Addr} {vs : List Int32} {j v : Int32} (A : own_A Z h a .byte vs) (hj : own_in j vs.length = true) (hv : vs.getD j.toNatClampNeg 0 = v) (hd : decode bytes pc = .ok (.baload, 1)) (hpc : pc + 1 = pc') (K : own_G p e below Φ T (mkF m pc' Ls (.int v :: S))) : own_G p e below Φ T (mkF m pc Ls (.int j :: .ref a :: S)) := by
  obtain ⟨⟨locs, Y, N⟩, hh, hn, hx, hZ, hby, hml, hown, hnm, hret, hlk⟩ := X
  subst hpc
  obtain ⟨cl, q, r, t⟩ := A
  obtain ⟨j1, j2⟩ := own_in_not hj
  exact own_by K fun t' kk => Y.baloadBytes hx (j := j) (v := .int v) (by rw [hh]; exact q.1) (State.isArrayOf_alike hZ.alike q.2.1) q.2.2 (by rw [r]; exact j2) (by rw [t _ j1, hv]) (g := mkF m pc Ls (.int j :: .ref a :: S)) rfl rfl (hb hby hd) t' kk
theorem own_iaload (X : own_S Z n0 bytes y ml ret p l e R s m args below meth c T k sl h) {a : Addr} {vs : List Int32} {j v : Int32} (A : own_A Z h a .int vs) (hj : own_in j vs.length = true) (hv : vs.getD j.toNatClampNeg 0 = v) (hd : decode bytes pc = .ok (.iaload, 1)) (hpc : pc + 1 = pc') (K : own_G p e below Φ T (mkF m pc' Ls (.int v :: S))) : own_G p e below Φ T (mkF m pc Ls (.int j :: .ref a :: S)) := by
  obtain ⟨⟨locs, Y, N⟩, hh, hn, hx, hZ, hby, hml, hown, hnm, hret, hlk⟩ := X
  subst hpc
  obtain ⟨cl, q, r, t⟩ := A
  obtain ⟨j1, j2⟩ := own_in_not hj
  exact own_by K fun t' kk => Y.iaload hx (j := j) (v := .int v) (by rw [hh]; exact q.1) (State.isArrayOf_alike hZ.alike q.2.1) q.2.2 (by rw [r]; exact j2) (by rw [t _ j1, hv]) (g := mkF m pc Ls (.int j :: .ref a :: S)) rfl rfl (hb hby hd) t' kk
theorem own_len (X : own_S Z n0 bytes y ml ret p l e R s m args below meth c T k sl h) {a : Addr} {ty : FieldType} {vs : List Int32} {v : Int32} (A : own_A Z h a ty vs) (hv : vs.length.toInt32 = v) (hd : decode bytes pc = .ok (.arraylength, 1)) (hpc : pc + 1 = pc') (K : own_G p e below Φ T (mkF m pc' Ls (.int v :: S))) : own_G p e below Φ T (mkF m pc Ls (.ref a :: S)) := by
  obtain ⟨⟨locs, Y, N⟩, hh, hn, hx, hZ, hby, hml, hown, hnm, hret, hlk⟩ := X
  subst hpc
  obtain ⟨cl, q, r, t⟩ := A
  exact own_by K fun t' kk => Y.arraylength hx (by rw [hh]; exact q.1) (State.isArrayOf_alike hZ.alike q.2.1) (g := mkF m pc Ls (.ref a :: S)) rfl rfl (hb hby hd) t' (by rw [r, hv]; exact kk)
theorem own_set {h' : Heap} {a : Addr} {ty : FieldType} {vs : List Int32} {i : Nat} {v : Int32} {cl : Cell} (q : Arr Z h a cl ty) (r : cl.slots.size = vs.length) (t : ∀ j, j < vs.length → cl.slots[j]? = some (.int (vs.getD j 0))) (hi : i < vs.length) (W : Wr h h' a i (.int v)) : own_A Z h' a ty (vs.set i v) := by
  refine ⟨cl.setSlot i (.int v), q.same W, by rw [sz_set, r, List.length_set], fun j hj => ?_⟩
  rw [List.length_set] at hj
  have hc : i < cl.slots.size := by rw [r]; exact hi
  show (cl.slots.setIfInBounds i (.int v))[j]? = _
  rw [Array.getElem?_setIfInBounds]
  by_cases e : i = j
  · subst e
    simp [hc, List.getD_eq_getElem?_getD, hi]
  · simp only [e, if_false]
    rw [t j hj]
    simp [List.getD_eq_getElem?_getD, List.getElem?_set, e]
theorem own_bastore (X : own_S Z n0 bytes y ml ret p l e R s m args below meth c T k sl h) {a : Addr} {vs vs' : List Int32} {j v v' : Int32} (A : own_A Z h a .byte vs) (ha : n0 ≤ a) (hj : own_in j vs.length = true) (hv : v.toInt8.toInt32 = v') (hvs : vs.set j.toNatClampNeg v' = vs') (hd : decode bytes pc = .ok (.bastore, 1)) (hpc : pc + 1 = pc')
    (K : ∀ T' h', own_S Z n0 bytes y ml ret p l e R s m args below meth c T' k sl h' → own_A Z h' a .byte vs' → Wr h h' a j.toNatClampNeg (.int v') → own_G p e below Φ T' (mkF m pc' Ls S)) : own_G p e below Φ T (mkF m pc Ls (.int v :: .int j :: .ref a :: S)) := by
  obtain ⟨⟨locs, Y, N⟩, hh, hn, hx, hZ, hby, hml, hown, hnm, hret, hlk⟩ := X
  subst hpc hvs hv
  obtain ⟨cl, q, r, t⟩ := A
  obtain ⟨j1, j2⟩ := own_in_not hj
  obtain ⟨T', h', X', e', W', st⟩ := stB Y hx hZ hh q (j := j) (x := v) (by rw [r]; exact j2) (g := mkF m pc Ls (.int v :: .int j :: .ref a :: S)) rfl rfl (hb hby hd)
  exact own_by (K T' h' ⟨⟨_, X', Fr.snoc X' N ha⟩, e', hn, hx, hZ, hby, hml, hown, hnm, hret, hlk⟩ (own_set q r t j1 W') W') st
theorem own_iastore (X : own_S Z n0 bytes y ml ret p l e R s m args below meth c T k sl h) {a : Addr} {vs vs' : List Int32} {j v : Int32} (A : own_A Z h a .int vs) (ha : n0 ≤ a) (hj : own_in j vs.length = true) (hvs : vs.set j.toNatClampNeg v = vs') (hd : decode bytes pc = .ok (.iastore, 1)) (hpc : pc + 1 = pc')
    (K : ∀ T' h', own_S Z n0 bytes y ml ret p l e R s m args below meth c T' k sl h' → own_A Z h' a .int vs' → Wr h h' a j.toNatClampNeg (.int v) → own_G p e below Φ T' (mkF m pc' Ls S)) : own_G p e below Φ T (mkF m pc Ls (.int v :: .int j :: .ref a :: S)) := by
  obtain ⟨⟨locs, Y, N⟩, hh, hn, hx, hZ, hby, hml, hown, hnm, hret, hlk⟩ := X
  subst hpc hvs
  obtain ⟨cl, q, r, t⟩ := A
  obtain ⟨j1, j2⟩ := own_in_not hj
  obtain ⟨T', h', X', e', W', st⟩ := stI Y hx hZ hh q (j := j) (x := v) (by rw [r]; exact j2) (g := mkF m pc Ls (.int v :: .int j :: .ref a :: S)) rfl rfl (hb hby hd)
  exact own_by (K T' h' ⟨⟨_, X', Fr.snoc X' N ha⟩, e', hn, hx, hZ, hby, hml, hown, hnm, hret, hlk⟩ (own_set q r t j1 W') W') st
theorem own_newarr (X : own_S Z n0 bytes y ml ret p l e R s m args below meth c T k sl h) {aty : ArrayType} {n : Int32} {len : Nat} {vs : List Int32} (w : (Jvm.Cond.arrayClass (newarray.typeOf aty)).before a0 Z = true) (hty : defaultValue (newarray.typeOf aty) = .int 0) (hn0 : ¬ n < 0) (hlen : n.toNatClampNeg = len) (hvs : List.replicate len 0 = vs) (hbig : len * 8 ≤ 536870912) (hd : decode bytes pc = .ok (.newarray aty, 2)) (hpc : pc + 2 = pc') (hc : k + 1 ≤ R.cells) (hs : sl + len ≤ R.slots)
    (K : ∀ T' h' a, own_S Z n0 bytes y ml ret p l e R s m args below meth c T' (k + 1) (sl + len) h' → n0 ≤ a → a = h.size → Ext h h' → own_A Z h' a (newarray.typeOf aty) vs → own_G p e below Φ T' (mkF m pc' Ls (.ref a :: S))) : own_G p e below Φ T (mkF m pc Ls (.int n :: S)) := by
  have hsz := X.size
  obtain ⟨⟨locs, Y, N⟩, hh, hn, hx, hZ, hby, hml, hown, hnm, hret, hlk⟩ := X
  subst hpc hvs hlen
  obtain ⟨T', h', cA, X', e', E', A', st⟩ := newP Y hx hZ w hh (g := mkF m pc Ls (.int n :: S)) rfl (hb hby hd) rfl hn0 (cap := n.toNatClampNeg) (Nat.le_refl _) hbig hc hs
  refine own_by (K T' h' h.size ⟨⟨_, X', N⟩, e', hn, hx, hZ, hby, hml, hown, hnm, hret, hlk⟩ hsz rfl E' ⟨_, A', by rw [sz_new, List.length_replicate], fun j hj => ?_⟩) st
  rw [List.length_replicate] at hj
  simp [newA, hj, hty, List.getD_eq_getElem?_getD]
theorem own_b8 (v : Int32) : (v.toInt8.toInt32).toInt8.toInt32 = v.toInt8.toInt32 := by simp
end OwnKit
def own_L (u : Int32) : Int32 := if u.toInt < 128 then 1 else if 194 ≤ u.toInt ∧ u.toInt ≤ 223 then 2 else if 224 ≤ u.toInt ∧ u.toInt ≤ 239 then 3 else if 240 ≤ u.toInt ∧ u.toInt ≤ 244 then 4 else 1
def own_lo (u : Int32) : Int32 := if u.toInt = 224 then 160 else if u.toInt = 240 then 144 else 128
def own_hi (u : Int32) : Int32 := if u.toInt = 244 then 143 else 191
theorem own_L4 (u : Int32) : ¬ (4 : Int32) < own_L u := by
  unfold own_L; repeat' split
  all_goals decide
def own_l3 (len : Int32) : List Int32 → Int32
  | [] => 3
  | b :: _ => if 3 < len then (if b < 128 then 3 else if 191 < b then 3 else 4) else 3
def own_l2 (len : Int32) : List Int32 → Int32
  | [] => 2
  | b :: r => if 2 < len then (if b < 128 then 2 else if 191 < b then 2 else own_l3 len r) else 2
def own_sq (len sec top : Int32) : List Int32 → Int32
  | [] => 1
  | b :: r => if 1 < len then (if b < sec then 1 else if top < b then 1 else own_l2 len r) else 1
theorem own_l3n (len : Int32) : own_l3 len [] = 3 := rfl
theorem own_l3c (len b : Int32) (r : List Int32) : own_l3 len (b :: r) = if 3 < len then (if b < 128 then 3 else if 191 < b then 3 else 4) else 3 := rfl
theorem own_l2n (len : Int32) : own_l2 len [] = 2 := rfl
theorem own_l2c (len b : Int32) (r : List Int32) : own_l2 len (b :: r) = if 2 < len then (if b < 128 then 2 else if 191 < b then 2 else own_l3 len r) else 2 := rfl
theorem own_sqn (len sec top : Int32) : own_sq len sec top [] = 1 := rfl
theorem own_sqc (len sec top b : Int32) (r : List Int32) : own_sq len sec top (b :: r) = if 1 < len then (if b < sec then 1 else if top < b then 1 else own_l2 len r) else 1 := rfl
def own_sf (u b : Int32) : Int32 := if u.toInt = 224 then (if 160 ≤ b.toInt ∧ b.toInt ≤ 191 then 1 else 0) else if u.toInt = 240 then (if 144 ≤ b.toInt ∧ b.toInt ≤ 191 then 1 else 0) else if u.toInt = 244 then (if 128 ≤ b.toInt ∧ b.toInt ≤ 143 then 1 else 0) else (if 128 ≤ b.toInt ∧ b.toInt ≤ 191 then 1 else 0)
def own_ct (b : Int32) : Int32 := if b &&& (192 : Int32) = 128 then 1 else 0
def own_e3 (n : Int32) (r : List Int32) : Int32 := if n < 4 then 3 else match r with
  | [] => 3
  | b :: _ => if own_ct b = 0 then 3 else 4
def own_e2 (n : Int32) (r : List Int32) : Int32 := if n < 3 then 2 else match r with
  | [] => 2
  | b :: r => if own_ct b = 0 then 2 else own_e3 n r
def own_ex (n u : Int32) (r : List Int32) : Int32 := if n < 2 then 1 else match r with
  | [] => 1
  | b :: r => if own_sf u b = 0 then 1 else own_e2 n r
theorem own_e3n (n : Int32) : own_e3 n [] = if n < 4 then 3 else 3 := rfl
theorem own_e3c (n b : Int32) (r : List Int32) : own_e3 n (b :: r) = if n < 4 then 3 else if own_ct b = 0 then 3 else 4 := rfl
theorem own_e2n (n : Int32) : own_e2 n [] = if n < 3 then 2 else 2 := rfl
theorem own_e2c (n b : Int32) (r : List Int32) : own_e2 n (b :: r) = if n < 3 then 2 else if own_ct b = 0 then 2 else own_e3 n r := rfl
theorem own_exn (n u : Int32) : own_ex n u [] = if n < 2 then 1 else 1 := rfl
theorem own_exc (n u b : Int32) (r : List Int32) : own_ex n u (b :: r) = if n < 2 then 1 else if own_sf u b = 0 then 1 else own_e2 n r := rfl
theorem own_and7 {a v : Int32} (e : a &&& (7 : Int32) = v) : v = 0 ∨ v = 1 ∨ v = 2 ∨ v = 3 ∨ v = 4 ∨ v = 5 ∨ v = 6 ∨ v = 7 := by
  have h := c_mask a 7 3 (by decide) (by decide)
  rw [e] at h
  have k1 : ∀ n : Int32, v = n ↔ v.toInt = n.toInt := fun n => Int32.toInt_inj.symm
  simp only [k1, Int32.reduceToInt]
  omega
theorem own_byte (c : Int32) : 0 ≤ (c &&& (255 : Int32)).toInt ∧ (c &&& (255 : Int32)).toInt < 256 := by
  have h := c_mask c 255 8 (by decide) (by decide)
  omega
theorem own_bits : ∀ n : Fin 256, ((Int32.ofNat n.val) &&& (192 : Int32) = 128) ↔ (128 ≤ n.val ∧ n.val ≤ 191) := by decide +kernel
theorem own_ct0 (b : Int32) (h : 0 ≤ b.toInt ∧ b.toInt < 256) : own_ct b = if 128 ≤ b.toInt ∧ b.toInt ≤ 191 then 1 else 0 := by
  have e : b = Int32.ofNat b.toInt.toNat := by
    apply Int32.toInt_inj.mp
    rw [Int32.toInt_ofNat_of_lt (by omega)]; omega
  have q := own_bits ⟨b.toInt.toNat, by omega⟩
  simp only [← e] at q
  unfold own_ct
  by_cases z : b &&& (192 : Int32) = 128
  · rw [if_pos z, if_pos (by have := q.mp z; omega)]
  · rw [if_neg z, if_neg (fun w => z (q.mpr (by omega)))]
theorem own_sf0 (u b : Int32) (hL : 1 < (own_L u).toInt) : (own_sf u b = 0) ↔ (b.toInt < (own_lo u).toInt ∨ (own_hi u).toInt < b.toInt) := by
  unfold own_sf own_lo own_hi
  unfold own_L at hL
  repeat' split
  all_goals first | (simp only [Int32.reduceToInt, reduceCtorEq, true_iff, false_iff, iff_true, iff_false]; omega) | (simp; omega) | (revert hL; simp; omega)
theorem own_if {P Q : Prop} [Decidable P] [Decidable Q] {a b c d : Int32} (h : P ↔ Q) (h1 : a = c) (h2 : b = d) : (if P then a else b) = (if Q then c else d) := by
  subst h1 h2
  by_cases p : P
  · rw [if_pos p, if_pos (h.mp p)]
  · rw [if_neg p, if_neg (fun q => p (h.mpr q))]
theorem own_fl (n : Int32) (k : Int32) (j : Int32) (hk : j.toInt + 1 = k.toInt) (a b : Int32) : (if n < k then a else b) = (if j < n then b else a) := by
  by_cases p : j < n
  · rw [if_pos p, if_neg (fun q => by rw [Int32.lt_iff_toInt_lt] at p q; omega)]
  · rw [if_neg p, if_pos (by rw [Int32.lt_iff_toInt_lt] at p ⊢; omega)]
theorem own_2if (b lo hi : Int32) (z w : Int32) (P : Prop) [Decidable P] (h : P ↔ (b.toInt < lo.toInt ∨ hi.toInt < b.toInt)) : (if b < lo then z else if hi < b then z else w) = (if P then z else w) := by
  by_cases p1 : b < lo
  · rw [if_pos p1, if_pos (h.mpr (Or.inl (Int32.lt_iff_toInt_lt.mp p1)))]
  · rw [if_neg p1]
    by_cases p2 : hi < b
    · rw [if_pos p2, if_pos (h.mpr (Or.inr (Int32.lt_iff_toInt_lt.mp p2)))]
    · rw [if_neg p2, if_neg (fun q => by rw [Int32.lt_iff_toInt_lt] at p1 p2; have := h.mp q; omega)]
theorem own_ctz (b : Int32) (h : 0 ≤ b.toInt ∧ b.toInt < 256) : (own_ct b = 0) ↔ (b.toInt < (128 : Int32).toInt ∨ (191 : Int32).toInt < b.toInt) := by
  rw [own_ct0 b h]
  have k1 : (128 : Int32).toInt = 128 := by decide
  have k2 : (191 : Int32).toInt = 191 := by decide
  rw [k1, k2]
  by_cases q : 128 ≤ b.toInt ∧ b.toInt ≤ 191
  · rw [if_pos q]; constructor
    · intro z; exact absurd z (by decide)
    · intro z; omega
  · rw [if_neg q]; constructor
    · intro z; omega
    · intro z; rfl
theorem own_q3 (n : Int32) (r : List Int32) (hr : ∀ b ∈ r, 0 ≤ b.toInt ∧ b.toInt < 256) : own_e3 n r = own_l3 n r := by
  match r with
  | [] => rw [own_e3n, own_l3n]; split <;> rfl
  | b :: r =>
    rw [own_e3c, own_l3c, own_fl n 4 3 (by decide)]
    rw [own_2if b 128 191 3 4 (own_ct b = 0) (own_ctz b (hr b (List.mem_cons_self ..)))]
theorem own_q2 (n : Int32) (r : List Int32) (hr : ∀ b ∈ r, 0 ≤ b.toInt ∧ b.toInt < 256) : own_e2 n r = own_l2 n r := by
  match r with
  | [] => rw [own_e2n, own_l2n]; split <;> rfl
  | b :: r =>
    rw [own_e2c, own_l2c, own_fl n 3 2 (by decide), own_q3 n r (fun x hx => hr x (List.mem_cons_of_mem _ hx))]
    rw [own_2if b 128 191 2 _ (own_ct b = 0) (own_ctz b (hr b (List.mem_cons_self ..)))]
theorem own_q1 (u : Int32) (r : List Int32) (hr : ∀ b ∈ r, 0 ≤ b.toInt ∧ b.toInt < 256) : own_sq (own_L u) (own_lo u) (own_hi u) r = own_ex (own_L u) u r := by
  match r with
  | [] => rw [own_exn, own_sqn]; split <;> rfl
  | b :: r =>
    rw [own_exc, own_sqc, own_fl (own_L u) 2 1 (by decide), own_q2 _ r (fun x hx => hr x (List.mem_cons_of_mem _ hx))]
    by_cases q : (1 : Int32) < own_L u
    · rw [if_pos q, if_pos q]
      exact own_2if b _ _ 1 _ (own_sf u b = 0) (own_sf0 u b (Int32.lt_iff_toInt_lt.mp q))
    · rw [if_neg q, if_neg q]
theorem own_fc {P : Int32 → Prop} {a : Int32} {xs : List Int32} (h : P a) (t : ∀ x ∈ xs, P x) : ∀ x ∈ a :: xs, P x := fun x hx => by
  rcases List.mem_cons.mp hx with rfl | q
  · exact h
  · exact t x q
theorem own_fn {P : Int32 → Prop} : ∀ x ∈ ([] : List Int32), P x := fun _ q => nomatch q
theorem d3_0 : decode method_3_code 0 = .ok (.aload_n 0, 1) := by decide +kernel
theorem d3_1 : decode method_3_code 1 = .ok (.iload_n 1, 1) := by decide +kernel
theorem d3_2 : decode method_3_code 2 = .ok (.baload, 1) := by decide +kernel
theorem d3_3 : decode method_3_code 3 = .ok (.sipush 255, 3) := by decide +kernel
theorem d3_6 : decode method_3_code 6 = .ok (.iand, 1) := by decide +kernel
theorem d3_7 : decode method_3_code 7 = .ok (.ireturn, 1) := by decide +kernel
theorem pn_rm3 : plainFor (⟨"com/example/quern/quern/text/TextBytesSequenceLengthPinLaw", "at", "([BI)I"⟩ : MethodName) = true := plainFor_of_name (by first | (simp [plainName, overriddenIn]; done) | decide +kernel)
theorem ef_rm3 (m : MethodId) (x0 : Addr) (x1 : Int32) : entryFrame m #[(.ref x0), (.int x1)] 2 = mkF m 0 #[.val (.ref x0), .val (.int x1)] [] := by first | (simp [entryFrame, mkF, argsToLocals, Value.category]; done) | rfl
set_option maxRecDepth 65536 in
set_option maxHeartbeats 4000000 in
theorem rm3 (l : Launch) (Z : State) (a0 : Array Value) (hw : ∀ d ∈ tables_1, d.before a0 Z = true) (n0 : Nat) (a : Addr) (j : Int32) (h0 : Heap) (hn0 : n0 ≤ h0.size) (vs : List Int32) (A : own_A Z h0 a .byte vs) (u : Int32) (g : own_in j vs.length = true) (f : vs.getD j.toNatClampNeg 0 = u) :
    own_Met l (⟨"com/example/quern/quern/text/TextBytesSequenceLengthPinLaw", "at", "([BI)I"⟩ : MethodName) method_3_code 2 (some .int) ({ frames := 0, cells := 0, slots := 0, locals := 0 } : Room) Z n0 #[(.ref a), (.int j)] h0 (some (.int (u &&& (255 : Int32)))) (fun h' => h' = h0) := by
  refine own_met pn_rm3 hn0 ?_
  intro p e s m below meth c T X
  refine own_cast (ef_rm3 m a j) ?_
  generalize hΦ : own_Q n0 below s _ _ _ = Φ
  refine own_aloadN X (pc' := 1) d3_0 rfl rfl rfl ?_
  refine own_iloadN X (pc' := 2) d3_1 rfl rfl ?_
  refine own_baload X (v := u) (pc' := 3) A g f d3_2 rfl ?_
  refine own_sipush X (v := (255 : Int32)) (pc' := 6) d3_3 rfl (by decide) ?_
  refine own_iand X (r := (u &&& (255 : Int32))) (pc' := 7) d3_6 rfl rfl ?_
  subst hΦ
  exact own_retI X d3_7 (by decide) (by decide) rfl rfl
theorem d4_0 : decode method_4_code 0 = .ok (.iload_n 0, 1) := by decide +kernel
theorem d4_1 : decode method_4_code 1 = .ok (.bipush 127, 2) := by decide +kernel
theorem d4_3 : decode method_4_code 3 = .ok (.if_icmp .gt 5, 3) := by decide +kernel
theorem d4_6 : decode method_4_code 6 = .ok (.iconst 1, 1) := by decide +kernel
theorem d4_7 : decode method_4_code 7 = .ok (.ireturn, 1) := by decide +kernel
theorem d4_8 : decode method_4_code 8 = .ok (.iload_n 0, 1) := by decide +kernel
theorem d4_9 : decode method_4_code 9 = .ok (.sipush 194, 3) := by decide +kernel
theorem d4_12 : decode method_4_code 12 = .ok (.if_icmp .lt 12, 3) := by decide +kernel
theorem d4_15 : decode method_4_code 15 = .ok (.iload_n 0, 1) := by decide +kernel
theorem d4_16 : decode method_4_code 16 = .ok (.sipush 223, 3) := by decide +kernel
theorem d4_19 : decode method_4_code 19 = .ok (.if_icmp .gt 5, 3) := by decide +kernel
theorem d4_22 : decode method_4_code 22 = .ok (.iconst 2, 1) := by decide +kernel
theorem d4_23 : decode method_4_code 23 = .ok (.ireturn, 1) := by decide +kernel
theorem d4_24 : decode method_4_code 24 = .ok (.iload_n 0, 1) := by decide +kernel
theorem d4_25 : decode method_4_code 25 = .ok (.sipush 224, 3) := by decide +kernel
theorem d4_28 : decode method_4_code 28 = .ok (.if_icmp .lt 12, 3) := by decide +kernel
theorem d4_31 : decode method_4_code 31 = .ok (.iload_n 0, 1) := by decide +kernel
theorem d4_32 : decode method_4_code 32 = .ok (.sipush 239, 3) := by decide +kernel
theorem d4_35 : decode method_4_code 35 = .ok (.if_icmp .gt 5, 3) := by decide +kernel
theorem d4_38 : decode method_4_code 38 = .ok (.iconst 3, 1) := by decide +kernel
theorem d4_39 : decode method_4_code 39 = .ok (.ireturn, 1) := by decide +kernel
theorem d4_40 : decode method_4_code 40 = .ok (.iload_n 0, 1) := by decide +kernel
theorem d4_41 : decode method_4_code 41 = .ok (.sipush 240, 3) := by decide +kernel
theorem d4_44 : decode method_4_code 44 = .ok (.if_icmp .lt 12, 3) := by decide +kernel
theorem d4_47 : decode method_4_code 47 = .ok (.iload_n 0, 1) := by decide +kernel
theorem d4_48 : decode method_4_code 48 = .ok (.sipush 244, 3) := by decide +kernel
theorem d4_51 : decode method_4_code 51 = .ok (.if_icmp .gt 5, 3) := by decide +kernel
theorem d4_54 : decode method_4_code 54 = .ok (.iconst 4, 1) := by decide +kernel
theorem d4_55 : decode method_4_code 55 = .ok (.ireturn, 1) := by decide +kernel
theorem d4_56 : decode method_4_code 56 = .ok (.iconst 1, 1) := by decide +kernel
theorem d4_57 : decode method_4_code 57 = .ok (.ireturn, 1) := by decide +kernel
theorem pn_rm4 : plainFor (⟨"com/example/quern/quern/text/TextBytesSequenceLengthPinLaw", "need", "(I)I"⟩ : MethodName) = true := plainFor_of_name (by first | (simp [plainName, overriddenIn]; done) | decide +kernel)
theorem ef_rm4 (m : MethodId) (x0 : Int32) : entryFrame m #[(.int x0)] 1 = mkF m 0 #[.val (.int x0)] [] := by first | (simp [entryFrame, mkF, argsToLocals, Value.category]; done) | rfl
set_option maxRecDepth 65536 in
set_option maxHeartbeats 4000000 in
theorem rm4 (l : Launch) (Z : State) (a0 : Array Value) (hw : ∀ d ∈ tables_1, d.before a0 Z = true) (n0 : Nat) (u : Int32) (h0 : Heap) (hn0 : n0 ≤ h0.size) :
    own_Met l (⟨"com/example/quern/quern/text/TextBytesSequenceLengthPinLaw", "need", "(I)I"⟩ : MethodName) method_4_code 1 (some .int) ({ frames := 0, cells := 0, slots := 0, locals := 0 } : Room) Z n0 #[(.int u)] h0 (some (.int (own_L u))) (fun h' => h' = h0) := by
  refine own_met pn_rm4 hn0 ?_
  intro p e s m below meth c T X
  refine own_cast (ef_rm4 m u) ?_
  generalize hΦ : own_Q n0 below s _ _ _ = Φ
  refine own_iloadN X (pc' := 1) d4_0 rfl rfl ?_
  refine own_bipush X (v := (127 : Int32)) (pc' := 3) d4_1 rfl (by decide) ?_
  refine own_icmp_gt X (pct := 8) (pc' := 6) d4_3 rfl (by decide) (by decide) (fun hc3_1 => ?_) (fun hc3_1 => ?_)
  · refine own_iloadN X (pc' := 9) d4_8 rfl rfl ?_
    refine own_sipush X (v := (194 : Int32)) (pc' := 12) d4_9 rfl (by decide) ?_
    refine own_icmp_lt X (pct := 24) (pc' := 15) d4_12 rfl (by decide) (by decide) (fun hc12_2 => ?_) (fun hc12_2 => ?_)
    · refine own_iloadN X (pc' := 25) d4_24 rfl rfl ?_
      refine own_sipush X (v := (224 : Int32)) (pc' := 28) d4_25 rfl (by decide) ?_
      refine own_icmp_lt X (pct := 40) (pc' := 31) d4_28 rfl (by decide) (by decide) (fun _ => ?_) (fun hc => absurd hc (by simp only [Int32.lt_iff_toInt_lt, ← Int32.toInt_inj, Int32.reduceToInt] at hc3_1 hc12_2 ⊢; omega))
      refine own_iloadN X (pc' := 41) d4_40 rfl rfl ?_
      refine own_sipush X (v := (240 : Int32)) (pc' := 44) d4_41 rfl (by decide) ?_
      refine own_icmp_lt X (pct := 56) (pc' := 47) d4_44 rfl (by decide) (by decide) (fun _ => ?_) (fun hc => absurd hc (by simp only [Int32.lt_iff_toInt_lt, ← Int32.toInt_inj, Int32.reduceToInt] at hc3_1 hc12_2 ⊢; omega))
      refine own_iconst X (v := (1 : Int32)) (pc' := 57) d4_56 rfl (by decide) ?_
      subst hΦ
      exact own_retI X d4_57 (by decide) (by decide) (by rw [Int32.lt_iff_toInt_lt] at hc3_1 hc12_2; simp only [Int32.reduceToInt] at hc3_1 hc12_2; unfold own_L; (repeat' split); all_goals first | rfl | omega) rfl
    · refine own_iloadN X (pc' := 16) d4_15 rfl rfl ?_
      refine own_sipush X (v := (223 : Int32)) (pc' := 19) d4_16 rfl (by decide) ?_
      refine own_icmp_gt X (pct := 24) (pc' := 22) d4_19 rfl (by decide) (by decide) (fun hc19_3 => ?_) (fun hc19_3 => ?_)
      · refine own_iloadN X (pc' := 25) d4_24 rfl rfl ?_
        refine own_sipush X (v := (224 : Int32)) (pc' := 28) d4_25 rfl (by decide) ?_
        refine own_icmp_lt X (pct := 40) (pc' := 31) d4_28 rfl (by decide) (by decide) (fun hc => absurd hc (by simp only [Int32.lt_iff_toInt_lt, ← Int32.toInt_inj, Int32.reduceToInt] at hc3_1 hc12_2 hc19_3 ⊢; omega)) (fun _ => ?_)
        refine own_iloadN X (pc' := 32) d4_31 rfl rfl ?_
        refine own_sipush X (v := (239 : Int32)) (pc' := 35) d4_32 rfl (by decide) ?_
        refine own_icmp_gt X (pct := 40) (pc' := 38) d4_35 rfl (by decide) (by decide) (fun hc35_4 => ?_) (fun hc35_4 => ?_)
        · refine own_iloadN X (pc' := 41) d4_40 rfl rfl ?_
          refine own_sipush X (v := (240 : Int32)) (pc' := 44) d4_41 rfl (by decide) ?_
          refine own_icmp_lt X (pct := 56) (pc' := 47) d4_44 rfl (by decide) (by decide) (fun hc => absurd hc (by simp only [Int32.lt_iff_toInt_lt, ← Int32.toInt_inj, Int32.reduceToInt] at hc3_1 hc12_2 hc19_3 hc35_4 ⊢; omega)) (fun _ => ?_)
          refine own_iloadN X (pc' := 48) d4_47 rfl rfl ?_
          refine own_sipush X (v := (244 : Int32)) (pc' := 51) d4_48 rfl (by decide) ?_
          refine own_icmp_gt X (pct := 56) (pc' := 54) d4_51 rfl (by decide) (by decide) (fun hc51_5 => ?_) (fun hc51_5 => ?_)
          · refine own_iconst X (v := (1 : Int32)) (pc' := 57) d4_56 rfl (by decide) ?_
            subst hΦ
            exact own_retI X d4_57 (by decide) (by decide) (by rw [Int32.lt_iff_toInt_lt] at hc3_1 hc12_2 hc19_3 hc35_4 hc51_5; simp only [Int32.reduceToInt] at hc3_1 hc12_2 hc19_3 hc35_4 hc51_5; unfold own_L; (repeat' split); all_goals first | rfl | omega) rfl
          · refine own_iconst X (v := (4 : Int32)) (pc' := 55) d4_54 rfl (by decide) ?_
            subst hΦ
            exact own_retI X d4_55 (by decide) (by decide) (by rw [Int32.lt_iff_toInt_lt] at hc3_1 hc12_2 hc19_3 hc35_4 hc51_5; simp only [Int32.reduceToInt] at hc3_1 hc12_2 hc19_3 hc35_4 hc51_5; unfold own_L; (repeat' split); all_goals first | rfl | omega) rfl
        · refine own_iconst X (v := (3 : Int32)) (pc' := 39) d4_38 rfl (by decide) ?_
          subst hΦ
          exact own_retI X d4_39 (by decide) (by decide) (by rw [Int32.lt_iff_toInt_lt] at hc3_1 hc12_2 hc19_3 hc35_4; simp only [Int32.reduceToInt] at hc3_1 hc12_2 hc19_3 hc35_4; unfold own_L; (repeat' split); all_goals first | rfl | omega) rfl
      · refine own_iconst X (v := (2 : Int32)) (pc' := 23) d4_22 rfl (by decide) ?_
        subst hΦ
        exact own_retI X d4_23 (by decide) (by decide) (by rw [Int32.lt_iff_toInt_lt] at hc3_1 hc12_2 hc19_3; simp only [Int32.reduceToInt] at hc3_1 hc12_2 hc19_3; unfold own_L; (repeat' split); all_goals first | rfl | omega) rfl
  · refine own_iconst X (v := (1 : Int32)) (pc' := 7) d4_6 rfl (by decide) ?_
    subst hΦ
    exact own_retI X d4_7 (by decide) (by decide) (by rw [Int32.lt_iff_toInt_lt] at hc3_1; simp only [Int32.reduceToInt] at hc3_1; unfold own_L; (repeat' split); all_goals first | rfl | omega) rfl
theorem d5_0 : decode method_5_code 0 = .ok (.iload_n 0, 1) := by decide +kernel
theorem d5_1 : decode method_5_code 1 = .ok (.sipush 224, 3) := by decide +kernel
theorem d5_4 : decode method_5_code 4 = .ok (.if_icmp .ne 23, 3) := by decide +kernel
theorem d5_7 : decode method_5_code 7 = .ok (.iload_n 1, 1) := by decide +kernel
theorem d5_8 : decode method_5_code 8 = .ok (.sipush 160, 3) := by decide +kernel
theorem d5_11 : decode method_5_code 11 = .ok (.if_icmp .lt 14, 3) := by decide +kernel
theorem d5_14 : decode method_5_code 14 = .ok (.iload_n 1, 1) := by decide +kernel
theorem d5_15 : decode method_5_code 15 = .ok (.sipush 191, 3) := by decide +kernel
theorem d5_18 : decode method_5_code 18 = .ok (.if_icmp .gt 7, 3) := by decide +kernel
theorem d5_21 : decode method_5_code 21 = .ok (.iconst 1, 1) := by decide +kernel
theorem d5_22 : decode method_5_code 22 = .ok (.goto 4, 3) := by decide +kernel
theorem d5_25 : decode method_5_code 25 = .ok (.iconst 0, 1) := by decide +kernel
theorem d5_26 : decode method_5_code 26 = .ok (.ireturn, 1) := by decide +kernel
theorem d5_27 : decode method_5_code 27 = .ok (.iload_n 0, 1) := by decide +kernel
theorem d5_28 : decode method_5_code 28 = .ok (.sipush 240, 3) := by decide +kernel
theorem d5_31 : decode method_5_code 31 = .ok (.if_icmp .ne 23, 3) := by decide +kernel
theorem d5_34 : decode method_5_code 34 = .ok (.iload_n 1, 1) := by decide +kernel
theorem d5_35 : decode method_5_code 35 = .ok (.sipush 144, 3) := by decide +kernel
theorem d5_38 : decode method_5_code 38 = .ok (.if_icmp .lt 14, 3) := by decide +kernel
theorem d5_41 : decode method_5_code 41 = .ok (.iload_n 1, 1) := by decide +kernel
theorem d5_42 : decode method_5_code 42 = .ok (.sipush 191, 3) := by decide +kernel
theorem d5_45 : decode method_5_code 45 = .ok (.if_icmp .gt 7, 3) := by decide +kernel
theorem d5_48 : decode method_5_code 48 = .ok (.iconst 1, 1) := by decide +kernel
theorem d5_49 : decode method_5_code 49 = .ok (.goto 4, 3) := by decide +kernel
theorem d5_52 : decode method_5_code 52 = .ok (.iconst 0, 1) := by decide +kernel
theorem d5_53 : decode method_5_code 53 = .ok (.ireturn, 1) := by decide +kernel
theorem d5_54 : decode method_5_code 54 = .ok (.iload_n 0, 1) := by decide +kernel
theorem d5_55 : decode method_5_code 55 = .ok (.sipush 244, 3) := by decide +kernel
theorem d5_58 : decode method_5_code 58 = .ok (.if_icmp .ne 23, 3) := by decide +kernel
theorem d5_61 : decode method_5_code 61 = .ok (.iload_n 1, 1) := by decide +kernel
theorem d5_62 : decode method_5_code 62 = .ok (.sipush 128, 3) := by decide +kernel
theorem d5_65 : decode method_5_code 65 = .ok (.if_icmp .lt 14, 3) := by decide +kernel
theorem d5_68 : decode method_5_code 68 = .ok (.iload_n 1, 1) := by decide +kernel
theorem d5_69 : decode method_5_code 69 = .ok (.sipush 143, 3) := by decide +kernel
theorem d5_72 : decode method_5_code 72 = .ok (.if_icmp .gt 7, 3) := by decide +kernel
theorem d5_75 : decode method_5_code 75 = .ok (.iconst 1, 1) := by decide +kernel
theorem d5_76 : decode method_5_code 76 = .ok (.goto 4, 3) := by decide +kernel
theorem d5_79 : decode method_5_code 79 = .ok (.iconst 0, 1) := by decide +kernel
theorem d5_80 : decode method_5_code 80 = .ok (.ireturn, 1) := by decide +kernel
theorem d5_81 : decode method_5_code 81 = .ok (.iload_n 1, 1) := by decide +kernel
theorem d5_82 : decode method_5_code 82 = .ok (.sipush 128, 3) := by decide +kernel
theorem d5_85 : decode method_5_code 85 = .ok (.if_icmp .lt 14, 3) := by decide +kernel
theorem d5_88 : decode method_5_code 88 = .ok (.iload_n 1, 1) := by decide +kernel
theorem d5_89 : decode method_5_code 89 = .ok (.sipush 191, 3) := by decide +kernel
theorem d5_92 : decode method_5_code 92 = .ok (.if_icmp .gt 7, 3) := by decide +kernel
theorem d5_95 : decode method_5_code 95 = .ok (.iconst 1, 1) := by decide +kernel
theorem d5_96 : decode method_5_code 96 = .ok (.goto 4, 3) := by decide +kernel
theorem d5_99 : decode method_5_code 99 = .ok (.iconst 0, 1) := by decide +kernel
theorem d5_100 : decode method_5_code 100 = .ok (.ireturn, 1) := by decide +kernel
theorem pn_rm5 : plainFor (⟨"com/example/quern/quern/text/TextBytesSequenceLengthPinLaw", "secondFits", "(II)Z"⟩ : MethodName) = true := plainFor_of_name (by first | (simp [plainName, overriddenIn]; done) | decide +kernel)
theorem ef_rm5 (m : MethodId) (x0 : Int32) (x1 : Int32) : entryFrame m #[(.int x0), (.int x1)] 2 = mkF m 0 #[.val (.int x0), .val (.int x1)] [] := by first | (simp [entryFrame, mkF, argsToLocals, Value.category]; done) | rfl
set_option maxRecDepth 65536 in
set_option maxHeartbeats 4000000 in
theorem rm5 (l : Launch) (Z : State) (a0 : Array Value) (hw : ∀ d ∈ tables_1, d.before a0 Z = true) (n0 : Nat) (u : Int32) (b : Int32) (h0 : Heap) (hn0 : n0 ≤ h0.size) :
    own_Met l (⟨"com/example/quern/quern/text/TextBytesSequenceLengthPinLaw", "secondFits", "(II)Z"⟩ : MethodName) method_5_code 2 (some .boolean) ({ frames := 0, cells := 0, slots := 0, locals := 0 } : Room) Z n0 #[(.int u), (.int b)] h0 (some (.int (own_sf u b))) (fun h' => h' = h0) := by
  refine own_met pn_rm5 hn0 ?_
  intro p e s m below meth c T X
  refine own_cast (ef_rm5 m u b) ?_
  generalize hΦ : own_Q n0 below s _ _ _ = Φ
  refine own_iloadN X (pc' := 1) d5_0 rfl rfl ?_
  refine own_sipush X (v := (224 : Int32)) (pc' := 4) d5_1 rfl (by decide) ?_
  refine own_icmp_ne X (pct := 27) (pc' := 7) d5_4 rfl (by decide) (by decide) (fun hc4_1 => ?_) (fun hc4_1 => ?_)
  · refine own_iloadN X (pc' := 28) d5_27 rfl rfl ?_
    refine own_sipush X (v := (240 : Int32)) (pc' := 31) d5_28 rfl (by decide) ?_
    refine own_icmp_ne X (pct := 54) (pc' := 34) d5_31 rfl (by decide) (by decide) (fun hc31_2 => ?_) (fun hc31_2 => ?_)
    · refine own_iloadN X (pc' := 55) d5_54 rfl rfl ?_
      refine own_sipush X (v := (244 : Int32)) (pc' := 58) d5_55 rfl (by decide) ?_
      refine own_icmp_ne X (pct := 81) (pc' := 61) d5_58 rfl (by decide) (by decide) (fun hc58_3 => ?_) (fun hc58_3 => ?_)
      · refine own_iloadN X (pc' := 82) d5_81 rfl rfl ?_
        refine own_sipush X (v := (128 : Int32)) (pc' := 85) d5_82 rfl (by decide) ?_
        refine own_icmp_lt X (pct := 99) (pc' := 88) d5_85 rfl (by decide) (by decide) (fun hc85_4 => ?_) (fun hc85_4 => ?_)
        · refine own_iconst X (v := (0 : Int32)) (pc' := 100) d5_99 rfl (by decide) ?_
          subst hΦ
          exact own_retZ X d5_100 (by decide) (by decide) (by decide) (by rw [Int32.lt_iff_toInt_lt] at hc85_4; rw [← Int32.toInt_inj] at hc4_1 hc31_2 hc58_3; simp only [Int32.reduceToInt] at hc85_4 hc4_1 hc31_2 hc58_3; unfold own_sf; (repeat' split); all_goals first | rfl | omega) rfl
        · refine own_iloadN X (pc' := 89) d5_88 rfl rfl ?_
          refine own_sipush X (v := (191 : Int32)) (pc' := 92) d5_89 rfl (by decide) ?_
          refine own_icmp_gt X (pct := 99) (pc' := 95) d5_92 rfl (by decide) (by decide) (fun hc92_5 => ?_) (fun hc92_5 => ?_)
          · refine own_iconst X (v := (0 : Int32)) (pc' := 100) d5_99 rfl (by decide) ?_
            subst hΦ
            exact own_retZ X d5_100 (by decide) (by decide) (by decide) (by rw [Int32.lt_iff_toInt_lt] at hc85_4 hc92_5; rw [← Int32.toInt_inj] at hc4_1 hc31_2 hc58_3; simp only [Int32.reduceToInt] at hc85_4 hc92_5 hc4_1 hc31_2 hc58_3; unfold own_sf; (repeat' split); all_goals first | rfl | omega) rfl
          · refine own_iconst X (v := (1 : Int32)) (pc' := 96) d5_95 rfl (by decide) ?_
            refine own_goto X (pc' := 100) d5_96 (by decide) (by decide) ?_
            subst hΦ
            exact own_retZ X d5_100 (by decide) (by decide) (by decide) (by rw [Int32.lt_iff_toInt_lt] at hc85_4 hc92_5; rw [← Int32.toInt_inj] at hc4_1 hc31_2 hc58_3; simp only [Int32.reduceToInt] at hc85_4 hc92_5 hc4_1 hc31_2 hc58_3; unfold own_sf; (repeat' split); all_goals first | rfl | omega) rfl
      · refine own_iloadN X (pc' := 62) d5_61 rfl rfl ?_
        refine own_sipush X (v := (128 : Int32)) (pc' := 65) d5_62 rfl (by decide) ?_
        refine own_icmp_lt X (pct := 79) (pc' := 68) d5_65 rfl (by decide) (by decide) (fun hc65_6 => ?_) (fun hc65_6 => ?_)
        · refine own_iconst X (v := (0 : Int32)) (pc' := 80) d5_79 rfl (by decide) ?_
          subst hΦ
          exact own_retZ X d5_80 (by decide) (by decide) (by decide) (by rw [Int32.lt_iff_toInt_lt] at hc65_6; rw [← Int32.toInt_inj] at hc4_1 hc31_2 hc58_3; simp only [Int32.reduceToInt] at hc65_6 hc4_1 hc31_2 hc58_3; unfold own_sf; (repeat' split); all_goals first | rfl | omega) rfl
        · refine own_iloadN X (pc' := 69) d5_68 rfl rfl ?_
          refine own_sipush X (v := (143 : Int32)) (pc' := 72) d5_69 rfl (by decide) ?_
          refine own_icmp_gt X (pct := 79) (pc' := 75) d5_72 rfl (by decide) (by decide) (fun hc72_7 => ?_) (fun hc72_7 => ?_)
          · refine own_iconst X (v := (0 : Int32)) (pc' := 80) d5_79 rfl (by decide) ?_
            subst hΦ
            exact own_retZ X d5_80 (by decide) (by decide) (by decide) (by rw [Int32.lt_iff_toInt_lt] at hc65_6 hc72_7; rw [← Int32.toInt_inj] at hc4_1 hc31_2 hc58_3; simp only [Int32.reduceToInt] at hc65_6 hc72_7 hc4_1 hc31_2 hc58_3; unfold own_sf; (repeat' split); all_goals first | rfl | omega) rfl
          · refine own_iconst X (v := (1 : Int32)) (pc' := 76) d5_75 rfl (by decide) ?_
            refine own_goto X (pc' := 80) d5_76 (by decide) (by decide) ?_
            subst hΦ
            exact own_retZ X d5_80 (by decide) (by decide) (by decide) (by rw [Int32.lt_iff_toInt_lt] at hc65_6 hc72_7; rw [← Int32.toInt_inj] at hc4_1 hc31_2 hc58_3; simp only [Int32.reduceToInt] at hc65_6 hc72_7 hc4_1 hc31_2 hc58_3; unfold own_sf; (repeat' split); all_goals first | rfl | omega) rfl
    · refine own_iloadN X (pc' := 35) d5_34 rfl rfl ?_
      refine own_sipush X (v := (144 : Int32)) (pc' := 38) d5_35 rfl (by decide) ?_
      refine own_icmp_lt X (pct := 52) (pc' := 41) d5_38 rfl (by decide) (by decide) (fun hc38_8 => ?_) (fun hc38_8 => ?_)
      · refine own_iconst X (v := (0 : Int32)) (pc' := 53) d5_52 rfl (by decide) ?_
        subst hΦ
        exact own_retZ X d5_53 (by decide) (by decide) (by decide) (by rw [Int32.lt_iff_toInt_lt] at hc38_8; rw [← Int32.toInt_inj] at hc4_1 hc31_2; simp only [Int32.reduceToInt] at hc38_8 hc4_1 hc31_2; unfold own_sf; (repeat' split); all_goals first | rfl | omega) rfl
      · refine own_iloadN X (pc' := 42) d5_41 rfl rfl ?_
        refine own_sipush X (v := (191 : Int32)) (pc' := 45) d5_42 rfl (by decide) ?_
        refine own_icmp_gt X (pct := 52) (pc' := 48) d5_45 rfl (by decide) (by decide) (fun hc45_9 => ?_) (fun hc45_9 => ?_)
        · refine own_iconst X (v := (0 : Int32)) (pc' := 53) d5_52 rfl (by decide) ?_
          subst hΦ
          exact own_retZ X d5_53 (by decide) (by decide) (by decide) (by rw [Int32.lt_iff_toInt_lt] at hc38_8 hc45_9; rw [← Int32.toInt_inj] at hc4_1 hc31_2; simp only [Int32.reduceToInt] at hc38_8 hc45_9 hc4_1 hc31_2; unfold own_sf; (repeat' split); all_goals first | rfl | omega) rfl
        · refine own_iconst X (v := (1 : Int32)) (pc' := 49) d5_48 rfl (by decide) ?_
          refine own_goto X (pc' := 53) d5_49 (by decide) (by decide) ?_
          subst hΦ
          exact own_retZ X d5_53 (by decide) (by decide) (by decide) (by rw [Int32.lt_iff_toInt_lt] at hc38_8 hc45_9; rw [← Int32.toInt_inj] at hc4_1 hc31_2; simp only [Int32.reduceToInt] at hc38_8 hc45_9 hc4_1 hc31_2; unfold own_sf; (repeat' split); all_goals first | rfl | omega) rfl
  · refine own_iloadN X (pc' := 8) d5_7 rfl rfl ?_
    refine own_sipush X (v := (160 : Int32)) (pc' := 11) d5_8 rfl (by decide) ?_
    refine own_icmp_lt X (pct := 25) (pc' := 14) d5_11 rfl (by decide) (by decide) (fun hc11_10 => ?_) (fun hc11_10 => ?_)
    · refine own_iconst X (v := (0 : Int32)) (pc' := 26) d5_25 rfl (by decide) ?_
      subst hΦ
      exact own_retZ X d5_26 (by decide) (by decide) (by decide) (by rw [Int32.lt_iff_toInt_lt] at hc11_10; rw [← Int32.toInt_inj] at hc4_1; simp only [Int32.reduceToInt] at hc11_10 hc4_1; unfold own_sf; (repeat' split); all_goals first | rfl | omega) rfl
    · refine own_iloadN X (pc' := 15) d5_14 rfl rfl ?_
      refine own_sipush X (v := (191 : Int32)) (pc' := 18) d5_15 rfl (by decide) ?_
      refine own_icmp_gt X (pct := 25) (pc' := 21) d5_18 rfl (by decide) (by decide) (fun hc18_11 => ?_) (fun hc18_11 => ?_)
      · refine own_iconst X (v := (0 : Int32)) (pc' := 26) d5_25 rfl (by decide) ?_
        subst hΦ
        exact own_retZ X d5_26 (by decide) (by decide) (by decide) (by rw [Int32.lt_iff_toInt_lt] at hc11_10 hc18_11; rw [← Int32.toInt_inj] at hc4_1; simp only [Int32.reduceToInt] at hc11_10 hc18_11 hc4_1; unfold own_sf; (repeat' split); all_goals first | rfl | omega) rfl
      · refine own_iconst X (v := (1 : Int32)) (pc' := 22) d5_21 rfl (by decide) ?_
        refine own_goto X (pc' := 26) d5_22 (by decide) (by decide) ?_
        subst hΦ
        exact own_retZ X d5_26 (by decide) (by decide) (by decide) (by rw [Int32.lt_iff_toInt_lt] at hc11_10 hc18_11; rw [← Int32.toInt_inj] at hc4_1; simp only [Int32.reduceToInt] at hc11_10 hc18_11 hc4_1; unfold own_sf; (repeat' split); all_goals first | rfl | omega) rfl
theorem d6_0 : decode method_6_code 0 = .ok (.iload_n 0, 1) := by decide +kernel
theorem d6_1 : decode method_6_code 1 = .ok (.sipush 192, 3) := by decide +kernel
theorem d6_4 : decode method_6_code 4 = .ok (.iand, 1) := by decide +kernel
theorem d6_5 : decode method_6_code 5 = .ok (.sipush 128, 3) := by decide +kernel
theorem d6_8 : decode method_6_code 8 = .ok (.if_icmp .ne 7, 3) := by decide +kernel
theorem d6_11 : decode method_6_code 11 = .ok (.iconst 1, 1) := by decide +kernel
theorem d6_12 : decode method_6_code 12 = .ok (.goto 4, 3) := by decide +kernel
theorem d6_15 : decode method_6_code 15 = .ok (.iconst 0, 1) := by decide +kernel
theorem d6_16 : decode method_6_code 16 = .ok (.ireturn, 1) := by decide +kernel
theorem pn_rm6 : plainFor (⟨"com/example/quern/quern/text/TextBytesSequenceLengthPinLaw", "cont", "(I)Z"⟩ : MethodName) = true := plainFor_of_name (by first | (simp [plainName, overriddenIn]; done) | decide +kernel)
theorem ef_rm6 (m : MethodId) (x0 : Int32) : entryFrame m #[(.int x0)] 1 = mkF m 0 #[.val (.int x0)] [] := by first | (simp [entryFrame, mkF, argsToLocals, Value.category]; done) | rfl
set_option maxRecDepth 65536 in
set_option maxHeartbeats 4000000 in
theorem rm6 (l : Launch) (Z : State) (a0 : Array Value) (hw : ∀ d ∈ tables_1, d.before a0 Z = true) (n0 : Nat) (b : Int32) (h0 : Heap) (hn0 : n0 ≤ h0.size) :
    own_Met l (⟨"com/example/quern/quern/text/TextBytesSequenceLengthPinLaw", "cont", "(I)Z"⟩ : MethodName) method_6_code 1 (some .boolean) ({ frames := 0, cells := 0, slots := 0, locals := 0 } : Room) Z n0 #[(.int b)] h0 (some (.int (own_ct b))) (fun h' => h' = h0) := by
  refine own_met pn_rm6 hn0 ?_
  intro p e s m below meth c T X
  refine own_cast (ef_rm6 m b) ?_
  generalize hΦ : own_Q n0 below s _ _ _ = Φ
  refine own_iloadN X (pc' := 1) d6_0 rfl rfl ?_
  refine own_sipush X (v := (192 : Int32)) (pc' := 4) d6_1 rfl (by decide) ?_
  refine own_iand X (r := (b &&& (192 : Int32))) (pc' := 5) d6_4 rfl rfl ?_
  refine own_sipush X (v := (128 : Int32)) (pc' := 8) d6_5 rfl (by decide) ?_
  refine own_icmp_ne X (pct := 15) (pc' := 11) d6_8 rfl (by decide) (by decide) (fun hc8_1 => ?_) (fun hc8_1 => ?_)
  · refine own_iconst X (v := (0 : Int32)) (pc' := 16) d6_15 rfl (by decide) ?_
    subst hΦ
    exact own_retZ X d6_16 (by decide) (by decide) (by decide) (by simp [own_ct, *]) rfl
  · refine own_iconst X (v := (1 : Int32)) (pc' := 12) d6_11 rfl (by decide) ?_
    refine own_goto X (pc' := 16) d6_12 (by decide) (by decide) ?_
    subst hΦ
    exact own_retZ X d6_16 (by decide) (by decide) (by decide) (by simp [own_ct, *]) rfl
theorem d1_0 : decode prog_310_method_5_code 0 = .ok (.aload_n 0, 1) := by decide +kernel
theorem d1_1 : decode prog_310_method_5_code 1 = .ok (.iload_n 1, 1) := by decide +kernel
theorem d1_2 : decode prog_310_method_5_code 2 = .ok (.baload, 1) := by decide +kernel
theorem d1_3 : decode prog_310_method_5_code 3 = .ok (.sipush 255, 3) := by decide +kernel
theorem d1_6 : decode prog_310_method_5_code 6 = .ok (.iand, 1) := by decide +kernel
theorem d1_7 : decode prog_310_method_5_code 7 = .ok (.istore_n 2, 1) := by decide +kernel
theorem d1_8 : decode prog_310_method_5_code 8 = .ok (.sipush 128, 3) := by decide +kernel
theorem d1_11 : decode prog_310_method_5_code 11 = .ok (.istore 4, 2) := by decide +kernel
theorem d1_13 : decode prog_310_method_5_code 13 = .ok (.sipush 191, 3) := by decide +kernel
theorem d1_16 : decode prog_310_method_5_code 16 = .ok (.istore 5, 2) := by decide +kernel
theorem d1_18 : decode prog_310_method_5_code 18 = .ok (.iload_n 2, 1) := by decide +kernel
theorem d1_19 : decode prog_310_method_5_code 19 = .ok (.sipush 128, 3) := by decide +kernel
theorem d1_22 : decode prog_310_method_5_code 22 = .ok (.if_icmp .ge 8, 3) := by decide +kernel
theorem d1_25 : decode prog_310_method_5_code 25 = .ok (.iconst 1, 1) := by decide +kernel
theorem d1_26 : decode prog_310_method_5_code 26 = .ok (.istore_n 3, 1) := by decide +kernel
theorem d1_27 : decode prog_310_method_5_code 27 = .ok (.goto 116, 3) := by decide +kernel
theorem d1_30 : decode prog_310_method_5_code 30 = .ok (.iload_n 2, 1) := by decide +kernel
theorem d1_31 : decode prog_310_method_5_code 31 = .ok (.sipush 194, 3) := by decide +kernel
theorem d1_34 : decode prog_310_method_5_code 34 = .ok (.if_icmp .lt 15, 3) := by decide +kernel
theorem d1_37 : decode prog_310_method_5_code 37 = .ok (.iload_n 2, 1) := by decide +kernel
theorem d1_38 : decode prog_310_method_5_code 38 = .ok (.sipush 223, 3) := by decide +kernel
theorem d1_41 : decode prog_310_method_5_code 41 = .ok (.if_icmp .gt 8, 3) := by decide +kernel
theorem d1_44 : decode prog_310_method_5_code 44 = .ok (.iconst 2, 1) := by decide +kernel
theorem d1_45 : decode prog_310_method_5_code 45 = .ok (.istore_n 3, 1) := by decide +kernel
theorem d1_46 : decode prog_310_method_5_code 46 = .ok (.goto 97, 3) := by decide +kernel
theorem d1_49 : decode prog_310_method_5_code 49 = .ok (.iload_n 2, 1) := by decide +kernel
theorem d1_50 : decode prog_310_method_5_code 50 = .ok (.sipush 224, 3) := by decide +kernel
theorem d1_53 : decode prog_310_method_5_code 53 = .ok (.if_icmp .lt 33, 3) := by decide +kernel
theorem d1_56 : decode prog_310_method_5_code 56 = .ok (.iload_n 2, 1) := by decide +kernel
theorem d1_57 : decode prog_310_method_5_code 57 = .ok (.sipush 239, 3) := by decide +kernel
theorem d1_60 : decode prog_310_method_5_code 60 = .ok (.if_icmp .gt 26, 3) := by decide +kernel
theorem d1_63 : decode prog_310_method_5_code 63 = .ok (.iconst 3, 1) := by decide +kernel
theorem d1_64 : decode prog_310_method_5_code 64 = .ok (.istore_n 3, 1) := by decide +kernel
theorem d1_65 : decode prog_310_method_5_code 65 = .ok (.iload_n 2, 1) := by decide +kernel
theorem d1_66 : decode prog_310_method_5_code 66 = .ok (.sipush 224, 3) := by decide +kernel
theorem d1_69 : decode prog_310_method_5_code 69 = .ok (.if_icmp .ne 9, 3) := by decide +kernel
theorem d1_72 : decode prog_310_method_5_code 72 = .ok (.sipush 160, 3) := by decide +kernel
theorem d1_75 : decode prog_310_method_5_code 75 = .ok (.goto 6, 3) := by decide +kernel
theorem d1_78 : decode prog_310_method_5_code 78 = .ok (.sipush 128, 3) := by decide +kernel
theorem d1_81 : decode prog_310_method_5_code 81 = .ok (.istore 4, 2) := by decide +kernel
theorem d1_83 : decode prog_310_method_5_code 83 = .ok (.goto 60, 3) := by decide +kernel
theorem d1_86 : decode prog_310_method_5_code 86 = .ok (.iload_n 2, 1) := by decide +kernel
theorem d1_87 : decode prog_310_method_5_code 87 = .ok (.sipush 240, 3) := by decide +kernel
theorem d1_90 : decode prog_310_method_5_code 90 = .ok (.if_icmp .lt 51, 3) := by decide +kernel
theorem d1_93 : decode prog_310_method_5_code 93 = .ok (.iload_n 2, 1) := by decide +kernel
theorem d1_94 : decode prog_310_method_5_code 94 = .ok (.sipush 244, 3) := by decide +kernel
theorem d1_97 : decode prog_310_method_5_code 97 = .ok (.if_icmp .gt 44, 3) := by decide +kernel
theorem d1_100 : decode prog_310_method_5_code 100 = .ok (.iconst 4, 1) := by decide +kernel
theorem d1_101 : decode prog_310_method_5_code 101 = .ok (.istore_n 3, 1) := by decide +kernel
theorem d1_102 : decode prog_310_method_5_code 102 = .ok (.iload_n 2, 1) := by decide +kernel
theorem d1_103 : decode prog_310_method_5_code 103 = .ok (.sipush 240, 3) := by decide +kernel
theorem d1_106 : decode prog_310_method_5_code 106 = .ok (.if_icmp .ne 9, 3) := by decide +kernel
theorem d1_109 : decode prog_310_method_5_code 109 = .ok (.sipush 144, 3) := by decide +kernel
theorem d1_112 : decode prog_310_method_5_code 112 = .ok (.goto 6, 3) := by decide +kernel
theorem d1_115 : decode prog_310_method_5_code 115 = .ok (.sipush 128, 3) := by decide +kernel
theorem d1_118 : decode prog_310_method_5_code 118 = .ok (.istore 4, 2) := by decide +kernel
theorem d1_120 : decode prog_310_method_5_code 120 = .ok (.iload_n 2, 1) := by decide +kernel
theorem d1_121 : decode prog_310_method_5_code 121 = .ok (.sipush 244, 3) := by decide +kernel
theorem d1_124 : decode prog_310_method_5_code 124 = .ok (.if_icmp .ne 9, 3) := by decide +kernel
theorem d1_127 : decode prog_310_method_5_code 127 = .ok (.sipush 143, 3) := by decide +kernel
theorem d1_130 : decode prog_310_method_5_code 130 = .ok (.goto 6, 3) := by decide +kernel
theorem d1_133 : decode prog_310_method_5_code 133 = .ok (.sipush 191, 3) := by decide +kernel
theorem d1_136 : decode prog_310_method_5_code 136 = .ok (.istore 5, 2) := by decide +kernel
theorem d1_138 : decode prog_310_method_5_code 138 = .ok (.goto 5, 3) := by decide +kernel
theorem d1_141 : decode prog_310_method_5_code 141 = .ok (.iconst 1, 1) := by decide +kernel
theorem d1_142 : decode prog_310_method_5_code 142 = .ok (.istore_n 3, 1) := by decide +kernel
theorem d1_143 : decode prog_310_method_5_code 143 = .ok (.iconst 1, 1) := by decide +kernel
theorem d1_144 : decode prog_310_method_5_code 144 = .ok (.istore 6, 2) := by decide +kernel
theorem d1_146 : decode prog_310_method_5_code 146 = .ok (.iload 6, 2) := by decide +kernel
theorem d1_148 : decode prog_310_method_5_code 148 = .ok (.iload_n 3, 1) := by decide +kernel
theorem d1_149 : decode prog_310_method_5_code 149 = .ok (.if_icmp .ge 89, 3) := by decide +kernel
theorem d1_152 : decode prog_310_method_5_code 152 = .ok (.iload_n 1, 1) := by decide +kernel
theorem d1_153 : decode prog_310_method_5_code 153 = .ok (.iload 6, 2) := by decide +kernel
theorem d1_155 : decode prog_310_method_5_code 155 = .ok (.iadd, 1) := by decide +kernel
theorem d1_156 : decode prog_310_method_5_code 156 = .ok (.aload_n 0, 1) := by decide +kernel
theorem d1_157 : decode prog_310_method_5_code 157 = .ok (.arraylength, 1) := by decide +kernel
theorem d1_158 : decode prog_310_method_5_code 158 = .ok (.if_icmp .ge 80, 3) := by decide +kernel
theorem d1_161 : decode prog_310_method_5_code 161 = .ok (.aload_n 0, 1) := by decide +kernel
theorem d1_162 : decode prog_310_method_5_code 162 = .ok (.iload_n 1, 1) := by decide +kernel
theorem d1_163 : decode prog_310_method_5_code 163 = .ok (.iload 6, 2) := by decide +kernel
theorem d1_165 : decode prog_310_method_5_code 165 = .ok (.iadd, 1) := by decide +kernel
theorem d1_166 : decode prog_310_method_5_code 166 = .ok (.baload, 1) := by decide +kernel
theorem d1_167 : decode prog_310_method_5_code 167 = .ok (.sipush 255, 3) := by decide +kernel
theorem d1_170 : decode prog_310_method_5_code 170 = .ok (.iand, 1) := by decide +kernel
theorem d1_171 : decode prog_310_method_5_code 171 = .ok (.istore 7, 2) := by decide +kernel
theorem d1_173 : decode prog_310_method_5_code 173 = .ok (.iload 6, 2) := by decide +kernel
theorem d1_175 : decode prog_310_method_5_code 175 = .ok (.iconst 1, 1) := by decide +kernel
theorem d1_176 : decode prog_310_method_5_code 176 = .ok (.if_icmp .ne 25, 3) := by decide +kernel
theorem d1_179 : decode prog_310_method_5_code 179 = .ok (.iload 7, 2) := by decide +kernel
theorem d1_181 : decode prog_310_method_5_code 181 = .ok (.iload 4, 2) := by decide +kernel
theorem d1_183 : decode prog_310_method_5_code 183 = .ok (.if_icmp .lt 14, 3) := by decide +kernel
theorem d1_186 : decode prog_310_method_5_code 186 = .ok (.iload 7, 2) := by decide +kernel
theorem d1_188 : decode prog_310_method_5_code 188 = .ok (.iload 5, 2) := by decide +kernel
theorem d1_190 : decode prog_310_method_5_code 190 = .ok (.if_icmp .gt 7, 3) := by decide +kernel
theorem d1_193 : decode prog_310_method_5_code 193 = .ok (.iconst 1, 1) := by decide +kernel
theorem d1_194 : decode prog_310_method_5_code 194 = .ok (.goto 28, 3) := by decide +kernel
theorem d1_197 : decode prog_310_method_5_code 197 = .ok (.iconst 0, 1) := by decide +kernel
theorem d1_198 : decode prog_310_method_5_code 198 = .ok (.goto 24, 3) := by decide +kernel
theorem d1_201 : decode prog_310_method_5_code 201 = .ok (.iload 7, 2) := by decide +kernel
theorem d1_203 : decode prog_310_method_5_code 203 = .ok (.sipush 128, 3) := by decide +kernel
theorem d1_206 : decode prog_310_method_5_code 206 = .ok (.if_icmp .lt 15, 3) := by decide +kernel
theorem d1_209 : decode prog_310_method_5_code 209 = .ok (.iload 7, 2) := by decide +kernel
theorem d1_211 : decode prog_310_method_5_code 211 = .ok (.sipush 191, 3) := by decide +kernel
theorem d1_214 : decode prog_310_method_5_code 214 = .ok (.if_icmp .gt 7, 3) := by decide +kernel
theorem d1_217 : decode prog_310_method_5_code 217 = .ok (.iconst 1, 1) := by decide +kernel
theorem d1_218 : decode prog_310_method_5_code 218 = .ok (.goto 4, 3) := by decide +kernel
theorem d1_221 : decode prog_310_method_5_code 221 = .ok (.iconst 0, 1) := by decide +kernel
theorem d1_222 : decode prog_310_method_5_code 222 = .ok (.istore 8, 2) := by decide +kernel
theorem d1_224 : decode prog_310_method_5_code 224 = .ok (.iload 8, 2) := by decide +kernel
theorem d1_226 : decode prog_310_method_5_code 226 = .ok (.ifCond .ne 6, 3) := by decide +kernel
theorem d1_229 : decode prog_310_method_5_code 229 = .ok (.goto 9, 3) := by decide +kernel
theorem d1_232 : decode prog_310_method_5_code 232 = .ok (.iinc 6 1, 3) := by decide +kernel
theorem d1_235 : decode prog_310_method_5_code 235 = .ok (.goto (-89), 3) := by decide +kernel
theorem d1_238 : decode prog_310_method_5_code 238 = .ok (.iload 6, 2) := by decide +kernel
theorem d1_240 : decode prog_310_method_5_code 240 = .ok (.ireturn, 1) := by decide +kernel
theorem pn_rm1_0 : plainFor (⟨"com/example/quern/quern/text/TextBytes", "sequenceLength", "([BI)I"⟩ : MethodName) = true := plainFor_of_name (by first | (simp [plainName, overriddenIn]; done) | decide +kernel)
theorem ef_rm1_0 (m : MethodId) (x0 : Addr) (x1 : Int32) : entryFrame m #[(.ref x0), (.int x1)] 9 = mkF m 0 #[.val (.ref x0), .val (.int x1), .unset, .unset, .unset, .unset, .unset, .unset, .unset] [] := by first | (simp [entryFrame, mkF, argsToLocals, Value.category]; done) | rfl
set_option maxRecDepth 65536 in
set_option maxHeartbeats 4000000 in
theorem rm1_0 (l : Launch) (Z : State) (a0 : Array Value) (hw : ∀ d ∈ tables_1, d.before a0 Z = true) (n0 : Nat) (a : Addr) (h0 : Heap) (hn0 : n0 ≤ h0.size) (c0 c1 c2 c3 c4 c5 c6 c7 : Int32) (A : own_A Z h0 a .byte [c0, c1, c2, c3, c4, c5, c6, c7]) :
    own_Met l (⟨"com/example/quern/quern/text/TextBytes", "sequenceLength", "([BI)I"⟩ : MethodName) prog_310_method_5_code 9 (some .int) ({ frames := 0, cells := 0, slots := 0, locals := 0 } : Room) Z n0 #[(.ref a), (.int (0 : Int32))] h0 (some (.int (own_sq (own_L (c0 &&& (255 : Int32))) (own_lo (c0 &&& (255 : Int32))) (own_hi (c0 &&& (255 : Int32))) [(c1 &&& (255 : Int32)), (c2 &&& (255 : Int32)), (c3 &&& (255 : Int32)), (c4 &&& (255 : Int32)), (c5 &&& (255 : Int32)), (c6 &&& (255 : Int32)), (c7 &&& (255 : Int32))]))) (fun h' => h' = h0) := by
  refine own_met pn_rm1_0 hn0 ?_
  intro p e s m below meth c T X
  refine own_cast (ef_rm1_0 m a (0 : Int32)) ?_
  generalize hΦ : own_Q n0 below s _ _ _ = Φ
  refine own_aloadN X (pc' := 1) d1_0 rfl rfl rfl ?_
  refine own_iloadN X (pc' := 2) d1_1 rfl rfl ?_
  refine own_baload X (v := c0) (pc' := 3) A rfl rfl d1_2 rfl ?_
  refine own_sipush X (v := (255 : Int32)) (pc' := 6) d1_3 rfl (by decide) ?_
  refine own_iand X (r := (c0 &&& (255 : Int32))) (pc' := 7) d1_6 rfl rfl ?_
  refine own_istoreN X (pc' := 8) (Ls' := #[.val (.ref a), .val (.int (0 : Int32)), .val (.int (c0 &&& (255 : Int32))), .unset, .unset, .unset, .unset, .unset, .unset]) d1_7 rfl rfl ?_
  refine own_sipush X (v := (128 : Int32)) (pc' := 11) d1_8 rfl (by decide) ?_
  refine own_istore X (pc' := 13) (Ls' := #[.val (.ref a), .val (.int (0 : Int32)), .val (.int (c0 &&& (255 : Int32))), .unset, .val (.int (128 : Int32)), .unset, .unset, .unset, .unset]) d1_11 rfl rfl ?_
  refine own_sipush X (v := (191 : Int32)) (pc' := 16) d1_13 rfl (by decide) ?_
  refine own_istore X (pc' := 18) (Ls' := #[.val (.ref a), .val (.int (0 : Int32)), .val (.int (c0 &&& (255 : Int32))), .unset, .val (.int (128 : Int32)), .val (.int (191 : Int32)), .unset, .unset, .unset]) d1_16 rfl rfl ?_
  have J143 : ∀ (len sec top : Int32) (_ : len = own_L (c0 &&& (255 : Int32))) (_ : sec = own_lo (c0 &&& (255 : Int32))) (_ : top = own_hi (c0 &&& (255 : Int32))), own_G p e below Φ T (mkF m 143 #[.val (.ref a), .val (.int (0 : Int32)), .val (.int (c0 &&& (255 : Int32))), .val (.int len), .val (.int sec), .val (.int top), .unset, .unset, .unset] []) := by
    intro len sec top j1 j2 j3
    refine own_iconst X (v := (1 : Int32)) (pc' := 144) d1_143 rfl (by decide) ?_
    refine own_istore X (pc' := 146) (Ls' := #[.val (.ref a), .val (.int (0 : Int32)), .val (.int (c0 &&& (255 : Int32))), .val (.int len), .val (.int sec), .val (.int top), .val (.int (1 : Int32)), .unset, .unset]) d1_144 rfl rfl ?_
    refine own_iload X (pc' := 148) d1_146 rfl rfl ?_
    refine own_iloadN X (pc' := 149) d1_148 rfl rfl ?_
    refine own_icmp_ge X (pct := 238) (pc' := 152) d1_149 rfl (by decide) (by decide) (fun hc149_1 => ?_) (fun hc149_1 => ?_)
    · refine own_iload X (pc' := 240) d1_238 rfl rfl ?_
      subst hΦ
      exact own_retI X d1_240 (by decide) (by decide) (by rw [← j1, ← j2, ← j3, own_sqc, if_neg hc149_1]) rfl
    · refine own_iloadN X (pc' := 153) d1_152 rfl rfl ?_
      refine own_iload X (pc' := 155) d1_153 rfl rfl ?_
      refine own_iadd X (r := (1 : Int32)) (pc' := 156) d1_155 rfl (by decide) ?_
      refine own_aloadN X (pc' := 157) d1_156 rfl rfl rfl ?_
      refine own_len X (v := (8 : Int32)) (pc' := 158) A (by first | rfl | decide) d1_157 rfl ?_
      refine own_icmp_ge X (pct := 238) (pc' := 161) d1_158 rfl (by decide) (by decide) (fun hc => absurd hc (by decide)) (fun _ => ?_)
      refine own_aloadN X (pc' := 162) d1_161 rfl rfl rfl ?_
      refine own_iloadN X (pc' := 163) d1_162 rfl rfl ?_
      refine own_iload X (pc' := 165) d1_163 rfl rfl ?_
      refine own_iadd X (r := (1 : Int32)) (pc' := 166) d1_165 rfl (by decide) ?_
      refine own_baload X (v := c1) (pc' := 167) A rfl rfl d1_166 rfl ?_
      refine own_sipush X (v := (255 : Int32)) (pc' := 170) d1_167 rfl (by decide) ?_
      refine own_iand X (r := (c1 &&& (255 : Int32))) (pc' := 171) d1_170 rfl rfl ?_
      refine own_istore X (pc' := 173) (Ls' := #[.val (.ref a), .val (.int (0 : Int32)), .val (.int (c0 &&& (255 : Int32))), .val (.int len), .val (.int sec), .val (.int top), .val (.int (1 : Int32)), .val (.int (c1 &&& (255 : Int32))), .unset]) d1_171 rfl rfl ?_
      refine own_iload X (pc' := 175) d1_173 rfl rfl ?_
      refine own_iconst X (v := (1 : Int32)) (pc' := 176) d1_175 rfl (by decide) ?_
      refine own_icmp_ne X (pct := 201) (pc' := 179) d1_176 rfl (by decide) (by decide) (fun hc => absurd hc (by decide)) (fun _ => ?_)
      refine own_iload X (pc' := 181) d1_179 rfl rfl ?_
      refine own_iload X (pc' := 183) d1_181 rfl rfl ?_
      refine own_icmp_lt X (pct := 197) (pc' := 186) d1_183 rfl (by decide) (by decide) (fun hc183_2 => ?_) (fun hc183_2 => ?_)
      · refine own_iconst X (v := (0 : Int32)) (pc' := 198) d1_197 rfl (by decide) ?_
        refine own_goto X (pc' := 222) d1_198 (by decide) (by decide) ?_
        refine own_istore X (pc' := 224) (Ls' := #[.val (.ref a), .val (.int (0 : Int32)), .val (.int (c0 &&& (255 : Int32))), .val (.int len), .val (.int sec), .val (.int top), .val (.int (1 : Int32)), .val (.int (c1 &&& (255 : Int32))), .val (.int (0 : Int32))]) d1_222 rfl rfl ?_
        refine own_iload X (pc' := 226) d1_224 rfl rfl ?_
        refine own_if_ne X (pct := 232) (pc' := 229) d1_226 rfl (by decide) (by decide) (fun hc => absurd hc (by decide)) (fun _ => ?_)
        refine own_goto X (pc' := 238) d1_229 (by decide) (by decide) ?_
        refine own_iload X (pc' := 240) d1_238 rfl rfl ?_
        subst hΦ
        exact own_retI X d1_240 (by decide) (by decide) (by rw [← j1, ← j2, ← j3, own_sqc, if_pos hc149_1, if_pos hc183_2]) rfl
      · refine own_iload X (pc' := 188) d1_186 rfl rfl ?_
        refine own_iload X (pc' := 190) d1_188 rfl rfl ?_
        refine own_icmp_gt X (pct := 197) (pc' := 193) d1_190 rfl (by decide) (by decide) (fun hc190_3 => ?_) (fun hc190_3 => ?_)
        · refine own_iconst X (v := (0 : Int32)) (pc' := 198) d1_197 rfl (by decide) ?_
          refine own_goto X (pc' := 222) d1_198 (by decide) (by decide) ?_
          refine own_istore X (pc' := 224) (Ls' := #[.val (.ref a), .val (.int (0 : Int32)), .val (.int (c0 &&& (255 : Int32))), .val (.int len), .val (.int sec), .val (.int top), .val (.int (1 : Int32)), .val (.int (c1 &&& (255 : Int32))), .val (.int (0 : Int32))]) d1_222 rfl rfl ?_
          refine own_iload X (pc' := 226) d1_224 rfl rfl ?_
          refine own_if_ne X (pct := 232) (pc' := 229) d1_226 rfl (by decide) (by decide) (fun hc => absurd hc (by decide)) (fun _ => ?_)
          refine own_goto X (pc' := 238) d1_229 (by decide) (by decide) ?_
          refine own_iload X (pc' := 240) d1_238 rfl rfl ?_
          subst hΦ
          exact own_retI X d1_240 (by decide) (by decide) (by rw [← j1, ← j2, ← j3, own_sqc, if_pos hc149_1, if_neg hc183_2, if_pos hc190_3]) rfl
        · refine own_iconst X (v := (1 : Int32)) (pc' := 194) d1_193 rfl (by decide) ?_
          refine own_goto X (pc' := 222) d1_194 (by decide) (by decide) ?_
          refine own_istore X (pc' := 224) (Ls' := #[.val (.ref a), .val (.int (0 : Int32)), .val (.int (c0 &&& (255 : Int32))), .val (.int len), .val (.int sec), .val (.int top), .val (.int (1 : Int32)), .val (.int (c1 &&& (255 : Int32))), .val (.int (1 : Int32))]) d1_222 rfl rfl ?_
          refine own_iload X (pc' := 226) d1_224 rfl rfl ?_
          refine own_if_ne X (pct := 232) (pc' := 229) d1_226 rfl (by decide) (by decide) (fun _ => ?_) (fun hc => absurd hc (by decide))
          refine own_iinc X (pc' := 235) (Ls' := #[.val (.ref a), .val (.int (0 : Int32)), .val (.int (c0 &&& (255 : Int32))), .val (.int len), .val (.int sec), .val (.int top), .val (.int (2 : Int32)), .val (.int (c1 &&& (255 : Int32))), .val (.int (1 : Int32))]) (w := (2 : Int32)) d1_232 rfl rfl (by decide) rfl ?_
          refine own_goto X (pc' := 146) d1_235 (by decide) (by decide) ?_
          refine own_iload X (pc' := 148) d1_146 rfl rfl ?_
          refine own_iloadN X (pc' := 149) d1_148 rfl rfl ?_
          refine own_icmp_ge X (pct := 238) (pc' := 152) d1_149 rfl (by decide) (by decide) (fun hc149_4 => ?_) (fun hc149_4 => ?_)
          · refine own_iload X (pc' := 240) d1_238 rfl rfl ?_
            subst hΦ
            exact own_retI X d1_240 (by decide) (by decide) (by rw [← j1, ← j2, ← j3, own_sqc, if_pos hc149_1, if_neg hc183_2, if_neg hc190_3, own_l2c, if_neg hc149_4]) rfl
          · refine own_iloadN X (pc' := 153) d1_152 rfl rfl ?_
            refine own_iload X (pc' := 155) d1_153 rfl rfl ?_
            refine own_iadd X (r := (2 : Int32)) (pc' := 156) d1_155 rfl (by decide) ?_
            refine own_aloadN X (pc' := 157) d1_156 rfl rfl rfl ?_
            refine own_len X (v := (8 : Int32)) (pc' := 158) A (by first | rfl | decide) d1_157 rfl ?_
            refine own_icmp_ge X (pct := 238) (pc' := 161) d1_158 rfl (by decide) (by decide) (fun hc => absurd hc (by decide)) (fun _ => ?_)
            refine own_aloadN X (pc' := 162) d1_161 rfl rfl rfl ?_
            refine own_iloadN X (pc' := 163) d1_162 rfl rfl ?_
            refine own_iload X (pc' := 165) d1_163 rfl rfl ?_
            refine own_iadd X (r := (2 : Int32)) (pc' := 166) d1_165 rfl (by decide) ?_
            refine own_baload X (v := c2) (pc' := 167) A rfl rfl d1_166 rfl ?_
            refine own_sipush X (v := (255 : Int32)) (pc' := 170) d1_167 rfl (by decide) ?_
            refine own_iand X (r := (c2 &&& (255 : Int32))) (pc' := 171) d1_170 rfl rfl ?_
            refine own_istore X (pc' := 173) (Ls' := #[.val (.ref a), .val (.int (0 : Int32)), .val (.int (c0 &&& (255 : Int32))), .val (.int len), .val (.int sec), .val (.int top), .val (.int (2 : Int32)), .val (.int (c2 &&& (255 : Int32))), .val (.int (1 : Int32))]) d1_171 rfl rfl ?_
            refine own_iload X (pc' := 175) d1_173 rfl rfl ?_
            refine own_iconst X (v := (1 : Int32)) (pc' := 176) d1_175 rfl (by decide) ?_
            refine own_icmp_ne X (pct := 201) (pc' := 179) d1_176 rfl (by decide) (by decide) (fun _ => ?_) (fun hc => absurd hc (by decide))
            refine own_iload X (pc' := 203) d1_201 rfl rfl ?_
            refine own_sipush X (v := (128 : Int32)) (pc' := 206) d1_203 rfl (by decide) ?_
            refine own_icmp_lt X (pct := 221) (pc' := 209) d1_206 rfl (by decide) (by decide) (fun hc206_5 => ?_) (fun hc206_5 => ?_)
            · refine own_iconst X (v := (0 : Int32)) (pc' := 222) d1_221 rfl (by decide) ?_
              refine own_istore X (pc' := 224) (Ls' := #[.val (.ref a), .val (.int (0 : Int32)), .val (.int (c0 &&& (255 : Int32))), .val (.int len), .val (.int sec), .val (.int top), .val (.int (2 : Int32)), .val (.int (c2 &&& (255 : Int32))), .val (.int (0 : Int32))]) d1_222 rfl rfl ?_
              refine own_iload X (pc' := 226) d1_224 rfl rfl ?_
              refine own_if_ne X (pct := 232) (pc' := 229) d1_226 rfl (by decide) (by decide) (fun hc => absurd hc (by decide)) (fun _ => ?_)
              refine own_goto X (pc' := 238) d1_229 (by decide) (by decide) ?_
              refine own_iload X (pc' := 240) d1_238 rfl rfl ?_
              subst hΦ
              exact own_retI X d1_240 (by decide) (by decide) (by rw [← j1, ← j2, ← j3, own_sqc, if_pos hc149_1, if_neg hc183_2, if_neg hc190_3, own_l2c, if_pos hc149_4, if_pos hc206_5]) rfl
            · refine own_iload X (pc' := 211) d1_209 rfl rfl ?_
              refine own_sipush X (v := (191 : Int32)) (pc' := 214) d1_211 rfl (by decide) ?_
              refine own_icmp_gt X (pct := 221) (pc' := 217) d1_214 rfl (by decide) (by decide) (fun hc214_6 => ?_) (fun hc214_6 => ?_)
              · refine own_iconst X (v := (0 : Int32)) (pc' := 222) d1_221 rfl (by decide) ?_
                refine own_istore X (pc' := 224) (Ls' := #[.val (.ref a), .val (.int (0 : Int32)), .val (.int (c0 &&& (255 : Int32))), .val (.int len), .val (.int sec), .val (.int top), .val (.int (2 : Int32)), .val (.int (c2 &&& (255 : Int32))), .val (.int (0 : Int32))]) d1_222 rfl rfl ?_
                refine own_iload X (pc' := 226) d1_224 rfl rfl ?_
                refine own_if_ne X (pct := 232) (pc' := 229) d1_226 rfl (by decide) (by decide) (fun hc => absurd hc (by decide)) (fun _ => ?_)
                refine own_goto X (pc' := 238) d1_229 (by decide) (by decide) ?_
                refine own_iload X (pc' := 240) d1_238 rfl rfl ?_
                subst hΦ
                exact own_retI X d1_240 (by decide) (by decide) (by rw [← j1, ← j2, ← j3, own_sqc, if_pos hc149_1, if_neg hc183_2, if_neg hc190_3, own_l2c, if_pos hc149_4, if_neg hc206_5, if_pos hc214_6]) rfl
              · refine own_iconst X (v := (1 : Int32)) (pc' := 218) d1_217 rfl (by decide) ?_
                refine own_goto X (pc' := 222) d1_218 (by decide) (by decide) ?_
                refine own_istore X (pc' := 224) (Ls' := #[.val (.ref a), .val (.int (0 : Int32)), .val (.int (c0 &&& (255 : Int32))), .val (.int len), .val (.int sec), .val (.int top), .val (.int (2 : Int32)), .val (.int (c2 &&& (255 : Int32))), .val (.int (1 : Int32))]) d1_222 rfl rfl ?_
                refine own_iload X (pc' := 226) d1_224 rfl rfl ?_
                refine own_if_ne X (pct := 232) (pc' := 229) d1_226 rfl (by decide) (by decide) (fun _ => ?_) (fun hc => absurd hc (by decide))
                refine own_iinc X (pc' := 235) (Ls' := #[.val (.ref a), .val (.int (0 : Int32)), .val (.int (c0 &&& (255 : Int32))), .val (.int len), .val (.int sec), .val (.int top), .val (.int (3 : Int32)), .val (.int (c2 &&& (255 : Int32))), .val (.int (1 : Int32))]) (w := (3 : Int32)) d1_232 rfl rfl (by decide) rfl ?_
                refine own_goto X (pc' := 146) d1_235 (by decide) (by decide) ?_
                refine own_iload X (pc' := 148) d1_146 rfl rfl ?_
                refine own_iloadN X (pc' := 149) d1_148 rfl rfl ?_
                refine own_icmp_ge X (pct := 238) (pc' := 152) d1_149 rfl (by decide) (by decide) (fun hc149_7 => ?_) (fun hc149_7 => ?_)
                · refine own_iload X (pc' := 240) d1_238 rfl rfl ?_
                  subst hΦ
                  exact own_retI X d1_240 (by decide) (by decide) (by rw [← j1, ← j2, ← j3, own_sqc, if_pos hc149_1, if_neg hc183_2, if_neg hc190_3, own_l2c, if_pos hc149_4, if_neg hc206_5, if_neg hc214_6, own_l3c, if_neg hc149_7]) rfl
                · refine own_iloadN X (pc' := 153) d1_152 rfl rfl ?_
                  refine own_iload X (pc' := 155) d1_153 rfl rfl ?_
                  refine own_iadd X (r := (3 : Int32)) (pc' := 156) d1_155 rfl (by decide) ?_
                  refine own_aloadN X (pc' := 157) d1_156 rfl rfl rfl ?_
                  refine own_len X (v := (8 : Int32)) (pc' := 158) A (by first | rfl | decide) d1_157 rfl ?_
                  refine own_icmp_ge X (pct := 238) (pc' := 161) d1_158 rfl (by decide) (by decide) (fun hc => absurd hc (by decide)) (fun _ => ?_)
                  refine own_aloadN X (pc' := 162) d1_161 rfl rfl rfl ?_
                  refine own_iloadN X (pc' := 163) d1_162 rfl rfl ?_
                  refine own_iload X (pc' := 165) d1_163 rfl rfl ?_
                  refine own_iadd X (r := (3 : Int32)) (pc' := 166) d1_165 rfl (by decide) ?_
                  refine own_baload X (v := c3) (pc' := 167) A rfl rfl d1_166 rfl ?_
                  refine own_sipush X (v := (255 : Int32)) (pc' := 170) d1_167 rfl (by decide) ?_
                  refine own_iand X (r := (c3 &&& (255 : Int32))) (pc' := 171) d1_170 rfl rfl ?_
                  refine own_istore X (pc' := 173) (Ls' := #[.val (.ref a), .val (.int (0 : Int32)), .val (.int (c0 &&& (255 : Int32))), .val (.int len), .val (.int sec), .val (.int top), .val (.int (3 : Int32)), .val (.int (c3 &&& (255 : Int32))), .val (.int (1 : Int32))]) d1_171 rfl rfl ?_
                  refine own_iload X (pc' := 175) d1_173 rfl rfl ?_
                  refine own_iconst X (v := (1 : Int32)) (pc' := 176) d1_175 rfl (by decide) ?_
                  refine own_icmp_ne X (pct := 201) (pc' := 179) d1_176 rfl (by decide) (by decide) (fun _ => ?_) (fun hc => absurd hc (by decide))
                  refine own_iload X (pc' := 203) d1_201 rfl rfl ?_
                  refine own_sipush X (v := (128 : Int32)) (pc' := 206) d1_203 rfl (by decide) ?_
                  refine own_icmp_lt X (pct := 221) (pc' := 209) d1_206 rfl (by decide) (by decide) (fun hc206_8 => ?_) (fun hc206_8 => ?_)
                  · refine own_iconst X (v := (0 : Int32)) (pc' := 222) d1_221 rfl (by decide) ?_
                    refine own_istore X (pc' := 224) (Ls' := #[.val (.ref a), .val (.int (0 : Int32)), .val (.int (c0 &&& (255 : Int32))), .val (.int len), .val (.int sec), .val (.int top), .val (.int (3 : Int32)), .val (.int (c3 &&& (255 : Int32))), .val (.int (0 : Int32))]) d1_222 rfl rfl ?_
                    refine own_iload X (pc' := 226) d1_224 rfl rfl ?_
                    refine own_if_ne X (pct := 232) (pc' := 229) d1_226 rfl (by decide) (by decide) (fun hc => absurd hc (by decide)) (fun _ => ?_)
                    refine own_goto X (pc' := 238) d1_229 (by decide) (by decide) ?_
                    refine own_iload X (pc' := 240) d1_238 rfl rfl ?_
                    subst hΦ
                    exact own_retI X d1_240 (by decide) (by decide) (by rw [← j1, ← j2, ← j3, own_sqc, if_pos hc149_1, if_neg hc183_2, if_neg hc190_3, own_l2c, if_pos hc149_4, if_neg hc206_5, if_neg hc214_6, own_l3c, if_pos hc149_7, if_pos hc206_8]) rfl
                  · refine own_iload X (pc' := 211) d1_209 rfl rfl ?_
                    refine own_sipush X (v := (191 : Int32)) (pc' := 214) d1_211 rfl (by decide) ?_
                    refine own_icmp_gt X (pct := 221) (pc' := 217) d1_214 rfl (by decide) (by decide) (fun hc214_9 => ?_) (fun hc214_9 => ?_)
                    · refine own_iconst X (v := (0 : Int32)) (pc' := 222) d1_221 rfl (by decide) ?_
                      refine own_istore X (pc' := 224) (Ls' := #[.val (.ref a), .val (.int (0 : Int32)), .val (.int (c0 &&& (255 : Int32))), .val (.int len), .val (.int sec), .val (.int top), .val (.int (3 : Int32)), .val (.int (c3 &&& (255 : Int32))), .val (.int (0 : Int32))]) d1_222 rfl rfl ?_
                      refine own_iload X (pc' := 226) d1_224 rfl rfl ?_
                      refine own_if_ne X (pct := 232) (pc' := 229) d1_226 rfl (by decide) (by decide) (fun hc => absurd hc (by decide)) (fun _ => ?_)
                      refine own_goto X (pc' := 238) d1_229 (by decide) (by decide) ?_
                      refine own_iload X (pc' := 240) d1_238 rfl rfl ?_
                      subst hΦ
                      exact own_retI X d1_240 (by decide) (by decide) (by rw [← j1, ← j2, ← j3, own_sqc, if_pos hc149_1, if_neg hc183_2, if_neg hc190_3, own_l2c, if_pos hc149_4, if_neg hc206_5, if_neg hc214_6, own_l3c, if_pos hc149_7, if_neg hc206_8, if_pos hc214_9]) rfl
                    · refine own_iconst X (v := (1 : Int32)) (pc' := 218) d1_217 rfl (by decide) ?_
                      refine own_goto X (pc' := 222) d1_218 (by decide) (by decide) ?_
                      refine own_istore X (pc' := 224) (Ls' := #[.val (.ref a), .val (.int (0 : Int32)), .val (.int (c0 &&& (255 : Int32))), .val (.int len), .val (.int sec), .val (.int top), .val (.int (3 : Int32)), .val (.int (c3 &&& (255 : Int32))), .val (.int (1 : Int32))]) d1_222 rfl rfl ?_
                      refine own_iload X (pc' := 226) d1_224 rfl rfl ?_
                      refine own_if_ne X (pct := 232) (pc' := 229) d1_226 rfl (by decide) (by decide) (fun _ => ?_) (fun hc => absurd hc (by decide))
                      refine own_iinc X (pc' := 235) (Ls' := #[.val (.ref a), .val (.int (0 : Int32)), .val (.int (c0 &&& (255 : Int32))), .val (.int len), .val (.int sec), .val (.int top), .val (.int (4 : Int32)), .val (.int (c3 &&& (255 : Int32))), .val (.int (1 : Int32))]) (w := (4 : Int32)) d1_232 rfl rfl (by decide) rfl ?_
                      refine own_goto X (pc' := 146) d1_235 (by decide) (by decide) ?_
                      refine own_iload X (pc' := 148) d1_146 rfl rfl ?_
                      refine own_iloadN X (pc' := 149) d1_148 rfl rfl ?_
                      refine own_icmp_ge X (pct := 238) (pc' := 152) d1_149 rfl (by decide) (by decide) (fun _ => ?_) (fun hc => absurd hc (by rw [j1]; exact own_L4 _))
                      refine own_iload X (pc' := 240) d1_238 rfl rfl ?_
                      subst hΦ
                      exact own_retI X d1_240 (by decide) (by decide) (by rw [← j1, ← j2, ← j3, own_sqc, if_pos hc149_1, if_neg hc183_2, if_neg hc190_3, own_l2c, if_pos hc149_4, if_neg hc206_5, if_neg hc214_6, own_l3c, if_pos hc149_7, if_neg hc206_8, if_neg hc214_9]) rfl
  refine own_iloadN X (pc' := 19) d1_18 rfl rfl ?_
  refine own_sipush X (v := (128 : Int32)) (pc' := 22) d1_19 rfl (by decide) ?_
  refine own_icmp_ge X (pct := 30) (pc' := 25) d1_22 rfl (by decide) (by decide) (fun hc22_10 => ?_) (fun hc22_10 => ?_)
  · refine own_iloadN X (pc' := 31) d1_30 rfl rfl ?_
    refine own_sipush X (v := (194 : Int32)) (pc' := 34) d1_31 rfl (by decide) ?_
    refine own_icmp_lt X (pct := 49) (pc' := 37) d1_34 rfl (by decide) (by decide) (fun hc34_11 => ?_) (fun hc34_11 => ?_)
    · refine own_iloadN X (pc' := 50) d1_49 rfl rfl ?_
      refine own_sipush X (v := (224 : Int32)) (pc' := 53) d1_50 rfl (by decide) ?_
      refine own_icmp_lt X (pct := 86) (pc' := 56) d1_53 rfl (by decide) (by decide) (fun _ => ?_) (fun hc => absurd hc (by simp only [Int32.lt_iff_toInt_lt, ← Int32.toInt_inj, Int32.reduceToInt] at hc22_10 hc34_11 ⊢; omega))
      refine own_iloadN X (pc' := 87) d1_86 rfl rfl ?_
      refine own_sipush X (v := (240 : Int32)) (pc' := 90) d1_87 rfl (by decide) ?_
      refine own_icmp_lt X (pct := 141) (pc' := 93) d1_90 rfl (by decide) (by decide) (fun _ => ?_) (fun hc => absurd hc (by simp only [Int32.lt_iff_toInt_lt, ← Int32.toInt_inj, Int32.reduceToInt] at hc22_10 hc34_11 ⊢; omega))
      refine own_iconst X (v := (1 : Int32)) (pc' := 142) d1_141 rfl (by decide) ?_
      refine own_istoreN X (pc' := 143) (Ls' := #[.val (.ref a), .val (.int (0 : Int32)), .val (.int (c0 &&& (255 : Int32))), .val (.int (1 : Int32)), .val (.int (128 : Int32)), .val (.int (191 : Int32)), .unset, .unset, .unset]) d1_142 rfl rfl ?_
      exact J143 _ _ _ (by rw [Int32.lt_iff_toInt_lt] at hc22_10 hc34_11; simp only [Int32.reduceToInt] at hc22_10 hc34_11; unfold own_L; (repeat' split); all_goals first | rfl | omega) (by rw [Int32.lt_iff_toInt_lt] at hc22_10 hc34_11; simp only [Int32.reduceToInt] at hc22_10 hc34_11; unfold own_lo; (repeat' split); all_goals first | rfl | omega) (by rw [Int32.lt_iff_toInt_lt] at hc22_10 hc34_11; simp only [Int32.reduceToInt] at hc22_10 hc34_11; unfold own_hi; (repeat' split); all_goals first | rfl | omega)
    · refine own_iloadN X (pc' := 38) d1_37 rfl rfl ?_
      refine own_sipush X (v := (223 : Int32)) (pc' := 41) d1_38 rfl (by decide) ?_
      refine own_icmp_gt X (pct := 49) (pc' := 44) d1_41 rfl (by decide) (by decide) (fun hc41_12 => ?_) (fun hc41_12 => ?_)
      · refine own_iloadN X (pc' := 50) d1_49 rfl rfl ?_
        refine own_sipush X (v := (224 : Int32)) (pc' := 53) d1_50 rfl (by decide) ?_
        refine own_icmp_lt X (pct := 86) (pc' := 56) d1_53 rfl (by decide) (by decide) (fun hc => absurd hc (by simp only [Int32.lt_iff_toInt_lt, ← Int32.toInt_inj, Int32.reduceToInt] at hc22_10 hc34_11 hc41_12 ⊢; omega)) (fun _ => ?_)
        refine own_iloadN X (pc' := 57) d1_56 rfl rfl ?_
        refine own_sipush X (v := (239 : Int32)) (pc' := 60) d1_57 rfl (by decide) ?_
        refine own_icmp_gt X (pct := 86) (pc' := 63) d1_60 rfl (by decide) (by decide) (fun hc60_13 => ?_) (fun hc60_13 => ?_)
        · refine own_iloadN X (pc' := 87) d1_86 rfl rfl ?_
          refine own_sipush X (v := (240 : Int32)) (pc' := 90) d1_87 rfl (by decide) ?_
          refine own_icmp_lt X (pct := 141) (pc' := 93) d1_90 rfl (by decide) (by decide) (fun hc => absurd hc (by simp only [Int32.lt_iff_toInt_lt, ← Int32.toInt_inj, Int32.reduceToInt] at hc22_10 hc34_11 hc41_12 hc60_13 ⊢; omega)) (fun _ => ?_)
          refine own_iloadN X (pc' := 94) d1_93 rfl rfl ?_
          refine own_sipush X (v := (244 : Int32)) (pc' := 97) d1_94 rfl (by decide) ?_
          refine own_icmp_gt X (pct := 141) (pc' := 100) d1_97 rfl (by decide) (by decide) (fun hc97_14 => ?_) (fun hc97_14 => ?_)
          · refine own_iconst X (v := (1 : Int32)) (pc' := 142) d1_141 rfl (by decide) ?_
            refine own_istoreN X (pc' := 143) (Ls' := #[.val (.ref a), .val (.int (0 : Int32)), .val (.int (c0 &&& (255 : Int32))), .val (.int (1 : Int32)), .val (.int (128 : Int32)), .val (.int (191 : Int32)), .unset, .unset, .unset]) d1_142 rfl rfl ?_
            exact J143 _ _ _ (by rw [Int32.lt_iff_toInt_lt] at hc22_10 hc34_11 hc41_12 hc60_13 hc97_14; simp only [Int32.reduceToInt] at hc22_10 hc34_11 hc41_12 hc60_13 hc97_14; unfold own_L; (repeat' split); all_goals first | rfl | omega) (by rw [Int32.lt_iff_toInt_lt] at hc22_10 hc34_11 hc41_12 hc60_13 hc97_14; simp only [Int32.reduceToInt] at hc22_10 hc34_11 hc41_12 hc60_13 hc97_14; unfold own_lo; (repeat' split); all_goals first | rfl | omega) (by rw [Int32.lt_iff_toInt_lt] at hc22_10 hc34_11 hc41_12 hc60_13 hc97_14; simp only [Int32.reduceToInt] at hc22_10 hc34_11 hc41_12 hc60_13 hc97_14; unfold own_hi; (repeat' split); all_goals first | rfl | omega)
          · refine own_iconst X (v := (4 : Int32)) (pc' := 101) d1_100 rfl (by decide) ?_
            refine own_istoreN X (pc' := 102) (Ls' := #[.val (.ref a), .val (.int (0 : Int32)), .val (.int (c0 &&& (255 : Int32))), .val (.int (4 : Int32)), .val (.int (128 : Int32)), .val (.int (191 : Int32)), .unset, .unset, .unset]) d1_101 rfl rfl ?_
            refine own_iloadN X (pc' := 103) d1_102 rfl rfl ?_
            refine own_sipush X (v := (240 : Int32)) (pc' := 106) d1_103 rfl (by decide) ?_
            refine own_icmp_ne X (pct := 115) (pc' := 109) d1_106 rfl (by decide) (by decide) (fun hc106_15 => ?_) (fun hc106_15 => ?_)
            · refine own_sipush X (v := (128 : Int32)) (pc' := 118) d1_115 rfl (by decide) ?_
              refine own_istore X (pc' := 120) (Ls' := #[.val (.ref a), .val (.int (0 : Int32)), .val (.int (c0 &&& (255 : Int32))), .val (.int (4 : Int32)), .val (.int (128 : Int32)), .val (.int (191 : Int32)), .unset, .unset, .unset]) d1_118 rfl rfl ?_
              refine own_iloadN X (pc' := 121) d1_120 rfl rfl ?_
              refine own_sipush X (v := (244 : Int32)) (pc' := 124) d1_121 rfl (by decide) ?_
              refine own_icmp_ne X (pct := 133) (pc' := 127) d1_124 rfl (by decide) (by decide) (fun hc124_16 => ?_) (fun hc124_16 => ?_)
              · refine own_sipush X (v := (191 : Int32)) (pc' := 136) d1_133 rfl (by decide) ?_
                refine own_istore X (pc' := 138) (Ls' := #[.val (.ref a), .val (.int (0 : Int32)), .val (.int (c0 &&& (255 : Int32))), .val (.int (4 : Int32)), .val (.int (128 : Int32)), .val (.int (191 : Int32)), .unset, .unset, .unset]) d1_136 rfl rfl ?_
                refine own_goto X (pc' := 143) d1_138 (by decide) (by decide) ?_
                exact J143 _ _ _ (by rw [Int32.lt_iff_toInt_lt] at hc22_10 hc34_11 hc41_12 hc60_13 hc97_14; rw [← Int32.toInt_inj] at hc106_15 hc124_16; simp only [Int32.reduceToInt] at hc22_10 hc34_11 hc41_12 hc60_13 hc97_14 hc106_15 hc124_16; unfold own_L; (repeat' split); all_goals first | rfl | omega) (by rw [Int32.lt_iff_toInt_lt] at hc22_10 hc34_11 hc41_12 hc60_13 hc97_14; rw [← Int32.toInt_inj] at hc106_15 hc124_16; simp only [Int32.reduceToInt] at hc22_10 hc34_11 hc41_12 hc60_13 hc97_14 hc106_15 hc124_16; unfold own_lo; (repeat' split); all_goals first | rfl | omega) (by rw [Int32.lt_iff_toInt_lt] at hc22_10 hc34_11 hc41_12 hc60_13 hc97_14; rw [← Int32.toInt_inj] at hc106_15 hc124_16; simp only [Int32.reduceToInt] at hc22_10 hc34_11 hc41_12 hc60_13 hc97_14 hc106_15 hc124_16; unfold own_hi; (repeat' split); all_goals first | rfl | omega)
              · refine own_sipush X (v := (143 : Int32)) (pc' := 130) d1_127 rfl (by decide) ?_
                refine own_goto X (pc' := 136) d1_130 (by decide) (by decide) ?_
                refine own_istore X (pc' := 138) (Ls' := #[.val (.ref a), .val (.int (0 : Int32)), .val (.int (c0 &&& (255 : Int32))), .val (.int (4 : Int32)), .val (.int (128 : Int32)), .val (.int (143 : Int32)), .unset, .unset, .unset]) d1_136 rfl rfl ?_
                refine own_goto X (pc' := 143) d1_138 (by decide) (by decide) ?_
                exact J143 _ _ _ (by rw [Int32.lt_iff_toInt_lt] at hc22_10 hc34_11 hc41_12 hc60_13 hc97_14; rw [← Int32.toInt_inj] at hc106_15 hc124_16; simp only [Int32.reduceToInt] at hc22_10 hc34_11 hc41_12 hc60_13 hc97_14 hc106_15 hc124_16; unfold own_L; (repeat' split); all_goals first | rfl | omega) (by rw [Int32.lt_iff_toInt_lt] at hc22_10 hc34_11 hc41_12 hc60_13 hc97_14; rw [← Int32.toInt_inj] at hc106_15 hc124_16; simp only [Int32.reduceToInt] at hc22_10 hc34_11 hc41_12 hc60_13 hc97_14 hc106_15 hc124_16; unfold own_lo; (repeat' split); all_goals first | rfl | omega) (by rw [Int32.lt_iff_toInt_lt] at hc22_10 hc34_11 hc41_12 hc60_13 hc97_14; rw [← Int32.toInt_inj] at hc106_15 hc124_16; simp only [Int32.reduceToInt] at hc22_10 hc34_11 hc41_12 hc60_13 hc97_14 hc106_15 hc124_16; unfold own_hi; (repeat' split); all_goals first | rfl | omega)
            · refine own_sipush X (v := (144 : Int32)) (pc' := 112) d1_109 rfl (by decide) ?_
              refine own_goto X (pc' := 118) d1_112 (by decide) (by decide) ?_
              refine own_istore X (pc' := 120) (Ls' := #[.val (.ref a), .val (.int (0 : Int32)), .val (.int (c0 &&& (255 : Int32))), .val (.int (4 : Int32)), .val (.int (144 : Int32)), .val (.int (191 : Int32)), .unset, .unset, .unset]) d1_118 rfl rfl ?_
              refine own_iloadN X (pc' := 121) d1_120 rfl rfl ?_
              refine own_sipush X (v := (244 : Int32)) (pc' := 124) d1_121 rfl (by decide) ?_
              refine own_icmp_ne X (pct := 133) (pc' := 127) d1_124 rfl (by decide) (by decide) (fun _ => ?_) (fun hc => absurd hc (by simp only [Int32.lt_iff_toInt_lt, ← Int32.toInt_inj, Int32.reduceToInt] at hc22_10 hc34_11 hc41_12 hc60_13 hc97_14 hc106_15 ⊢; omega))
              refine own_sipush X (v := (191 : Int32)) (pc' := 136) d1_133 rfl (by decide) ?_
              refine own_istore X (pc' := 138) (Ls' := #[.val (.ref a), .val (.int (0 : Int32)), .val (.int (c0 &&& (255 : Int32))), .val (.int (4 : Int32)), .val (.int (144 : Int32)), .val (.int (191 : Int32)), .unset, .unset, .unset]) d1_136 rfl rfl ?_
              refine own_goto X (pc' := 143) d1_138 (by decide) (by decide) ?_
              exact J143 _ _ _ (by rw [Int32.lt_iff_toInt_lt] at hc22_10 hc34_11 hc41_12 hc60_13 hc97_14; rw [← Int32.toInt_inj] at hc106_15; simp only [Int32.reduceToInt] at hc22_10 hc34_11 hc41_12 hc60_13 hc97_14 hc106_15; unfold own_L; (repeat' split); all_goals first | rfl | omega) (by rw [Int32.lt_iff_toInt_lt] at hc22_10 hc34_11 hc41_12 hc60_13 hc97_14; rw [← Int32.toInt_inj] at hc106_15; simp only [Int32.reduceToInt] at hc22_10 hc34_11 hc41_12 hc60_13 hc97_14 hc106_15; unfold own_lo; (repeat' split); all_goals first | rfl | omega) (by rw [Int32.lt_iff_toInt_lt] at hc22_10 hc34_11 hc41_12 hc60_13 hc97_14; rw [← Int32.toInt_inj] at hc106_15; simp only [Int32.reduceToInt] at hc22_10 hc34_11 hc41_12 hc60_13 hc97_14 hc106_15; unfold own_hi; (repeat' split); all_goals first | rfl | omega)
        · refine own_iconst X (v := (3 : Int32)) (pc' := 64) d1_63 rfl (by decide) ?_
          refine own_istoreN X (pc' := 65) (Ls' := #[.val (.ref a), .val (.int (0 : Int32)), .val (.int (c0 &&& (255 : Int32))), .val (.int (3 : Int32)), .val (.int (128 : Int32)), .val (.int (191 : Int32)), .unset, .unset, .unset]) d1_64 rfl rfl ?_
          refine own_iloadN X (pc' := 66) d1_65 rfl rfl ?_
          refine own_sipush X (v := (224 : Int32)) (pc' := 69) d1_66 rfl (by decide) ?_
          refine own_icmp_ne X (pct := 78) (pc' := 72) d1_69 rfl (by decide) (by decide) (fun hc69_17 => ?_) (fun hc69_17 => ?_)
          · refine own_sipush X (v := (128 : Int32)) (pc' := 81) d1_78 rfl (by decide) ?_
            refine own_istore X (pc' := 83) (Ls' := #[.val (.ref a), .val (.int (0 : Int32)), .val (.int (c0 &&& (255 : Int32))), .val (.int (3 : Int32)), .val (.int (128 : Int32)), .val (.int (191 : Int32)), .unset, .unset, .unset]) d1_81 rfl rfl ?_
            refine own_goto X (pc' := 143) d1_83 (by decide) (by decide) ?_
            exact J143 _ _ _ (by rw [Int32.lt_iff_toInt_lt] at hc22_10 hc34_11 hc41_12 hc60_13; rw [← Int32.toInt_inj] at hc69_17; simp only [Int32.reduceToInt] at hc22_10 hc34_11 hc41_12 hc60_13 hc69_17; unfold own_L; (repeat' split); all_goals first | rfl | omega) (by rw [Int32.lt_iff_toInt_lt] at hc22_10 hc34_11 hc41_12 hc60_13; rw [← Int32.toInt_inj] at hc69_17; simp only [Int32.reduceToInt] at hc22_10 hc34_11 hc41_12 hc60_13 hc69_17; unfold own_lo; (repeat' split); all_goals first | rfl | omega) (by rw [Int32.lt_iff_toInt_lt] at hc22_10 hc34_11 hc41_12 hc60_13; rw [← Int32.toInt_inj] at hc69_17; simp only [Int32.reduceToInt] at hc22_10 hc34_11 hc41_12 hc60_13 hc69_17; unfold own_hi; (repeat' split); all_goals first | rfl | omega)
          · refine own_sipush X (v := (160 : Int32)) (pc' := 75) d1_72 rfl (by decide) ?_
            refine own_goto X (pc' := 81) d1_75 (by decide) (by decide) ?_
            refine own_istore X (pc' := 83) (Ls' := #[.val (.ref a), .val (.int (0 : Int32)), .val (.int (c0 &&& (255 : Int32))), .val (.int (3 : Int32)), .val (.int (160 : Int32)), .val (.int (191 : Int32)), .unset, .unset, .unset]) d1_81 rfl rfl ?_
            refine own_goto X (pc' := 143) d1_83 (by decide) (by decide) ?_
            exact J143 _ _ _ (by rw [Int32.lt_iff_toInt_lt] at hc22_10 hc34_11 hc41_12 hc60_13; rw [← Int32.toInt_inj] at hc69_17; simp only [Int32.reduceToInt] at hc22_10 hc34_11 hc41_12 hc60_13 hc69_17; unfold own_L; (repeat' split); all_goals first | rfl | omega) (by rw [Int32.lt_iff_toInt_lt] at hc22_10 hc34_11 hc41_12 hc60_13; rw [← Int32.toInt_inj] at hc69_17; simp only [Int32.reduceToInt] at hc22_10 hc34_11 hc41_12 hc60_13 hc69_17; unfold own_lo; (repeat' split); all_goals first | rfl | omega) (by rw [Int32.lt_iff_toInt_lt] at hc22_10 hc34_11 hc41_12 hc60_13; rw [← Int32.toInt_inj] at hc69_17; simp only [Int32.reduceToInt] at hc22_10 hc34_11 hc41_12 hc60_13 hc69_17; unfold own_hi; (repeat' split); all_goals first | rfl | omega)
      · refine own_iconst X (v := (2 : Int32)) (pc' := 45) d1_44 rfl (by decide) ?_
        refine own_istoreN X (pc' := 46) (Ls' := #[.val (.ref a), .val (.int (0 : Int32)), .val (.int (c0 &&& (255 : Int32))), .val (.int (2 : Int32)), .val (.int (128 : Int32)), .val (.int (191 : Int32)), .unset, .unset, .unset]) d1_45 rfl rfl ?_
        refine own_goto X (pc' := 143) d1_46 (by decide) (by decide) ?_
        exact J143 _ _ _ (by rw [Int32.lt_iff_toInt_lt] at hc22_10 hc34_11 hc41_12; simp only [Int32.reduceToInt] at hc22_10 hc34_11 hc41_12; unfold own_L; (repeat' split); all_goals first | rfl | omega) (by rw [Int32.lt_iff_toInt_lt] at hc22_10 hc34_11 hc41_12; simp only [Int32.reduceToInt] at hc22_10 hc34_11 hc41_12; unfold own_lo; (repeat' split); all_goals first | rfl | omega) (by rw [Int32.lt_iff_toInt_lt] at hc22_10 hc34_11 hc41_12; simp only [Int32.reduceToInt] at hc22_10 hc34_11 hc41_12; unfold own_hi; (repeat' split); all_goals first | rfl | omega)
  · refine own_iconst X (v := (1 : Int32)) (pc' := 26) d1_25 rfl (by decide) ?_
    refine own_istoreN X (pc' := 27) (Ls' := #[.val (.ref a), .val (.int (0 : Int32)), .val (.int (c0 &&& (255 : Int32))), .val (.int (1 : Int32)), .val (.int (128 : Int32)), .val (.int (191 : Int32)), .unset, .unset, .unset]) d1_26 rfl rfl ?_
    refine own_goto X (pc' := 143) d1_27 (by decide) (by decide) ?_
    exact J143 _ _ _ (by rw [Int32.lt_iff_toInt_lt] at hc22_10; simp only [Int32.reduceToInt] at hc22_10; unfold own_L; (repeat' split); all_goals first | rfl | omega) (by rw [Int32.lt_iff_toInt_lt] at hc22_10; simp only [Int32.reduceToInt] at hc22_10; unfold own_lo; (repeat' split); all_goals first | rfl | omega) (by rw [Int32.lt_iff_toInt_lt] at hc22_10; simp only [Int32.reduceToInt] at hc22_10; unfold own_hi; (repeat' split); all_goals first | rfl | omega)
theorem d2_0 : decode method_7_code 0 = .ok (.aload_n 0, 1) := by decide +kernel
theorem d2_1 : decode method_7_code 1 = .ok (.iload_n 1, 1) := by decide +kernel
theorem d2_2 : decode method_7_code 2 = .ok (.invokestatic 18, 3) := by decide +kernel
theorem d2_5 : decode method_7_code 5 = .ok (.istore_n 2, 1) := by decide +kernel
theorem d2_6 : decode method_7_code 6 = .ok (.iload_n 2, 1) := by decide +kernel
theorem d2_7 : decode method_7_code 7 = .ok (.invokestatic 21, 3) := by decide +kernel
theorem d2_10 : decode method_7_code 10 = .ok (.istore_n 3, 1) := by decide +kernel
theorem d2_11 : decode method_7_code 11 = .ok (.aload_n 0, 1) := by decide +kernel
theorem d2_12 : decode method_7_code 12 = .ok (.arraylength, 1) := by decide +kernel
theorem d2_13 : decode method_7_code 13 = .ok (.iload_n 1, 1) := by decide +kernel
theorem d2_14 : decode method_7_code 14 = .ok (.isub, 1) := by decide +kernel
theorem d2_15 : decode method_7_code 15 = .ok (.istore 4, 2) := by decide +kernel
theorem d2_17 : decode method_7_code 17 = .ok (.iconst 1, 1) := by decide +kernel
theorem d2_18 : decode method_7_code 18 = .ok (.istore 5, 2) := by decide +kernel
theorem d2_20 : decode method_7_code 20 = .ok (.iload_n 3, 1) := by decide +kernel
theorem d2_21 : decode method_7_code 21 = .ok (.iconst 2, 1) := by decide +kernel
theorem d2_22 : decode method_7_code 22 = .ok (.if_icmp .lt 80, 3) := by decide +kernel
theorem d2_25 : decode method_7_code 25 = .ok (.iload 4, 2) := by decide +kernel
theorem d2_27 : decode method_7_code 27 = .ok (.iconst 2, 1) := by decide +kernel
theorem d2_28 : decode method_7_code 28 = .ok (.if_icmp .lt 74, 3) := by decide +kernel
theorem d2_31 : decode method_7_code 31 = .ok (.iload_n 2, 1) := by decide +kernel
theorem d2_32 : decode method_7_code 32 = .ok (.aload_n 0, 1) := by decide +kernel
theorem d2_33 : decode method_7_code 33 = .ok (.iload_n 1, 1) := by decide +kernel
theorem d2_34 : decode method_7_code 34 = .ok (.iconst 1, 1) := by decide +kernel
theorem d2_35 : decode method_7_code 35 = .ok (.iadd, 1) := by decide +kernel
theorem d2_36 : decode method_7_code 36 = .ok (.invokestatic 18, 3) := by decide +kernel
theorem d2_39 : decode method_7_code 39 = .ok (.invokestatic 25, 3) := by decide +kernel
theorem d2_42 : decode method_7_code 42 = .ok (.ifCond .eq 60, 3) := by decide +kernel
theorem d2_45 : decode method_7_code 45 = .ok (.iconst 2, 1) := by decide +kernel
theorem d2_46 : decode method_7_code 46 = .ok (.istore 5, 2) := by decide +kernel
theorem d2_48 : decode method_7_code 48 = .ok (.iload_n 3, 1) := by decide +kernel
theorem d2_49 : decode method_7_code 49 = .ok (.iconst 3, 1) := by decide +kernel
theorem d2_50 : decode method_7_code 50 = .ok (.if_icmp .lt 52, 3) := by decide +kernel
theorem d2_53 : decode method_7_code 53 = .ok (.iload 4, 2) := by decide +kernel
theorem d2_55 : decode method_7_code 55 = .ok (.iconst 3, 1) := by decide +kernel
theorem d2_56 : decode method_7_code 56 = .ok (.if_icmp .lt 46, 3) := by decide +kernel
theorem d2_59 : decode method_7_code 59 = .ok (.aload_n 0, 1) := by decide +kernel
theorem d2_60 : decode method_7_code 60 = .ok (.iload_n 1, 1) := by decide +kernel
theorem d2_61 : decode method_7_code 61 = .ok (.iconst 2, 1) := by decide +kernel
theorem d2_62 : decode method_7_code 62 = .ok (.iadd, 1) := by decide +kernel
theorem d2_63 : decode method_7_code 63 = .ok (.invokestatic 18, 3) := by decide +kernel
theorem d2_66 : decode method_7_code 66 = .ok (.invokestatic 29, 3) := by decide +kernel
theorem d2_69 : decode method_7_code 69 = .ok (.ifCond .eq 33, 3) := by decide +kernel
theorem d2_72 : decode method_7_code 72 = .ok (.iconst 3, 1) := by decide +kernel
theorem d2_73 : decode method_7_code 73 = .ok (.istore 5, 2) := by decide +kernel
theorem d2_75 : decode method_7_code 75 = .ok (.iload_n 3, 1) := by decide +kernel
theorem d2_76 : decode method_7_code 76 = .ok (.iconst 4, 1) := by decide +kernel
theorem d2_77 : decode method_7_code 77 = .ok (.if_icmp .lt 25, 3) := by decide +kernel
theorem d2_80 : decode method_7_code 80 = .ok (.iload 4, 2) := by decide +kernel
theorem d2_82 : decode method_7_code 82 = .ok (.iconst 4, 1) := by decide +kernel
theorem d2_83 : decode method_7_code 83 = .ok (.if_icmp .lt 19, 3) := by decide +kernel
theorem d2_86 : decode method_7_code 86 = .ok (.aload_n 0, 1) := by decide +kernel
theorem d2_87 : decode method_7_code 87 = .ok (.iload_n 1, 1) := by decide +kernel
theorem d2_88 : decode method_7_code 88 = .ok (.iconst 3, 1) := by decide +kernel
theorem d2_89 : decode method_7_code 89 = .ok (.iadd, 1) := by decide +kernel
theorem d2_90 : decode method_7_code 90 = .ok (.invokestatic 18, 3) := by decide +kernel
theorem d2_93 : decode method_7_code 93 = .ok (.invokestatic 29, 3) := by decide +kernel
theorem d2_96 : decode method_7_code 96 = .ok (.ifCond .eq 6, 3) := by decide +kernel
theorem d2_99 : decode method_7_code 99 = .ok (.iconst 4, 1) := by decide +kernel
theorem d2_100 : decode method_7_code 100 = .ok (.istore 5, 2) := by decide +kernel
theorem d2_102 : decode method_7_code 102 = .ok (.iload 5, 2) := by decide +kernel
theorem d2_104 : decode method_7_code 104 = .ok (.ireturn, 1) := by decide +kernel
theorem pd_0 : parseMethodDescriptor "([BI)I" = some ⟨[(.array .byte), .int], some .int⟩ := by decide +kernel
theorem pd_1 : parseMethodDescriptor "(I)I" = some ⟨[.int], some .int⟩ := by decide +kernel
theorem pd_2 : parseMethodDescriptor "(II)Z" = some ⟨[.int, .int], some .boolean⟩ := by decide +kernel
theorem pd_3 : parseMethodDescriptor "(I)Z" = some ⟨[.int], some .boolean⟩ := by decide +kernel
theorem pn_rm2_0 : plainFor (⟨"com/example/quern/quern/text/TextBytesSequenceLengthPinLaw", "expected", "([BI)I"⟩ : MethodName) = true := plainFor_of_name (by first | (simp [plainName, overriddenIn]; done) | decide +kernel)
theorem ef_rm2_0 (m : MethodId) (x0 : Addr) (x1 : Int32) : entryFrame m #[(.ref x0), (.int x1)] 6 = mkF m 0 #[.val (.ref x0), .val (.int x1), .unset, .unset, .unset, .unset] [] := by first | (simp [entryFrame, mkF, argsToLocals, Value.category]; done) | rfl
set_option maxRecDepth 65536 in
set_option maxHeartbeats 4000000 in
theorem rm2_0 (l : Launch) (Z : State) (a0 : Array Value) (hw : ∀ d ∈ tables_1, d.before a0 Z = true) (n0 : Nat) (a : Addr) (h0 : Heap) (hn0 : n0 ≤ h0.size) (c0 c1 c2 c3 c4 c5 c6 c7 : Int32) (A : own_A Z h0 a .byte [c0, c1, c2, c3, c4, c5, c6, c7]) :
    own_Met l (⟨"com/example/quern/quern/text/TextBytesSequenceLengthPinLaw", "expected", "([BI)I"⟩ : MethodName) method_7_code 6 (some .int) ({ frames := 1, cells := 0, slots := 0, locals := 20 } : Room) Z n0 #[(.ref a), (.int (0 : Int32))] h0 (some (.int (own_ex (own_L (c0 &&& (255 : Int32))) (c0 &&& (255 : Int32)) [(c1 &&& (255 : Int32)), (c2 &&& (255 : Int32)), (c3 &&& (255 : Int32)), (c4 &&& (255 : Int32)), (c5 &&& (255 : Int32)), (c6 &&& (255 : Int32)), (c7 &&& (255 : Int32))]))) (fun h' => h' = h0) := by
  refine own_met pn_rm2_0 hn0 ?_
  intro p e s m below meth c T X
  refine own_cast (ef_rm2_0 m a (0 : Int32)) ?_
  generalize hΦ : own_Q n0 below s _ _ _ = Φ
  refine own_aloadN X (pc' := 1) d2_0 rfl rfl rfl ?_
  refine own_iloadN X (pc' := 2) d2_1 rfl rfl ?_
  refine own_callS X (W := 0) (argsL := [(.ref a), (.int (0 : Int32))]) (rest := []) (S' := [(.int (c0 &&& (255 : Int32)))]) (pc' := 5) (rm3 l Z a0 hw n0 a (0 : Int32) h0 X.size _ A c0 rfl rfl) (hw _ (List.mem_of_getElem? (i := 9) rfl)) (hw _ (List.mem_of_getElem? (i := 10) rfl)) (hw _ (List.mem_of_getElem? (i := 7) rfl)) (hw _ (List.mem_of_getElem? (i := 11) rfl)) (by decide) (by decide) (by decide) rfl rfl (by decide) (by decide) (lenOf pd_0 rfl) rfl (by first | decide | exact Nat.le_of_eq rfl) rfl d2_2 rfl rfl ?_
  intro T1 h1 X1 qq1
  rw [show h1 = h0 from qq1] at X1
  refine own_istoreN X1 (pc' := 6) (Ls' := #[.val (.ref a), .val (.int (0 : Int32)), .val (.int (c0 &&& (255 : Int32))), .unset, .unset, .unset]) d2_5 rfl rfl ?_
  refine own_iloadN X1 (pc' := 7) d2_6 rfl rfl ?_
  refine own_callS X1 (W := 0) (argsL := [(.int (c0 &&& (255 : Int32)))]) (rest := []) (S' := [(.int (own_L (c0 &&& (255 : Int32))))]) (pc' := 10) (rm4 l Z a0 hw n0 (c0 &&& (255 : Int32)) h0 X1.size) (hw _ (List.mem_of_getElem? (i := 12) rfl)) (hw _ (List.mem_of_getElem? (i := 13) rfl)) (hw _ (List.mem_of_getElem? (i := 7) rfl)) (hw _ (List.mem_of_getElem? (i := 14) rfl)) (by decide) (by decide) (by decide) rfl rfl (by decide) (by decide) (lenOf pd_1 rfl) rfl (by first | decide | exact Nat.le_of_eq rfl) rfl d2_7 rfl rfl ?_
  intro T2 h2 X2 qq2
  rw [show h2 = h0 from qq2] at X2
  refine own_istoreN X2 (pc' := 11) (Ls' := #[.val (.ref a), .val (.int (0 : Int32)), .val (.int (c0 &&& (255 : Int32))), .val (.int (own_L (c0 &&& (255 : Int32)))), .unset, .unset]) d2_10 rfl rfl ?_
  refine own_aloadN X2 (pc' := 12) d2_11 rfl rfl rfl ?_
  refine own_len X2 (v := (8 : Int32)) (pc' := 13) A (by first | rfl | decide) d2_12 rfl ?_
  refine own_iloadN X2 (pc' := 14) d2_13 rfl rfl ?_
  refine own_isub X2 (r := (8 : Int32)) (pc' := 15) d2_14 rfl (by decide) ?_
  refine own_istore X2 (pc' := 17) (Ls' := #[.val (.ref a), .val (.int (0 : Int32)), .val (.int (c0 &&& (255 : Int32))), .val (.int (own_L (c0 &&& (255 : Int32)))), .val (.int (8 : Int32)), .unset]) d2_15 rfl rfl ?_
  refine own_iconst X2 (v := (1 : Int32)) (pc' := 18) d2_17 rfl (by decide) ?_
  refine own_istore X2 (pc' := 20) (Ls' := #[.val (.ref a), .val (.int (0 : Int32)), .val (.int (c0 &&& (255 : Int32))), .val (.int (own_L (c0 &&& (255 : Int32)))), .val (.int (8 : Int32)), .val (.int (1 : Int32))]) d2_18 rfl rfl ?_
  refine own_iloadN X2 (pc' := 21) d2_20 rfl rfl ?_
  refine own_iconst X2 (v := (2 : Int32)) (pc' := 22) d2_21 rfl (by decide) ?_
  refine own_icmp_lt X2 (pct := 102) (pc' := 25) d2_22 rfl (by decide) (by decide) (fun hc22_3 => ?_) (fun hc22_3 => ?_)
  · refine own_iload X2 (pc' := 104) d2_102 rfl rfl ?_
    subst hΦ
    exact own_retI X2 d2_104 (by decide) (by decide) (by rw [own_exc, if_pos hc22_3]) rfl
  · refine own_iload X2 (pc' := 27) d2_25 rfl rfl ?_
    refine own_iconst X2 (v := (2 : Int32)) (pc' := 28) d2_27 rfl (by decide) ?_
    refine own_icmp_lt X2 (pct := 102) (pc' := 31) d2_28 rfl (by decide) (by decide) (fun hc => absurd hc (by decide)) (fun _ => ?_)
    refine own_iloadN X2 (pc' := 32) d2_31 rfl rfl ?_
    refine own_aloadN X2 (pc' := 33) d2_32 rfl rfl rfl ?_
    refine own_iloadN X2 (pc' := 34) d2_33 rfl rfl ?_
    refine own_iconst X2 (v := (1 : Int32)) (pc' := 35) d2_34 rfl (by decide) ?_
    refine own_iadd X2 (r := (1 : Int32)) (pc' := 36) d2_35 rfl (by decide) ?_
    refine own_callS X2 (W := 1) (argsL := [(.ref a), (.int (1 : Int32))]) (rest := [(.int (c0 &&& (255 : Int32)))]) (S' := [(.int (c1 &&& (255 : Int32))), (.int (c0 &&& (255 : Int32)))]) (pc' := 39) (rm3 l Z a0 hw n0 a (1 : Int32) h0 X2.size _ A c1 rfl rfl) (hw _ (List.mem_of_getElem? (i := 9) rfl)) (hw _ (List.mem_of_getElem? (i := 10) rfl)) (hw _ (List.mem_of_getElem? (i := 7) rfl)) (hw _ (List.mem_of_getElem? (i := 11) rfl)) (by decide) (by decide) (by decide) rfl rfl (by decide) (by decide) (lenOf pd_0 rfl) rfl (by first | decide | exact Nat.le_of_eq rfl) rfl d2_36 rfl rfl ?_
    intro T4 h4 X4 qq4
    rw [show h4 = h0 from qq4] at X4
    refine own_callS X4 (W := 0) (argsL := [(.int (c0 &&& (255 : Int32))), (.int (c1 &&& (255 : Int32)))]) (rest := []) (S' := [(.int (own_sf (c0 &&& (255 : Int32)) (c1 &&& (255 : Int32))))]) (pc' := 42) (rm5 l Z a0 hw n0 (c0 &&& (255 : Int32)) (c1 &&& (255 : Int32)) h0 X4.size) (hw _ (List.mem_of_getElem? (i := 15) rfl)) (hw _ (List.mem_of_getElem? (i := 16) rfl)) (hw _ (List.mem_of_getElem? (i := 7) rfl)) (hw _ (List.mem_of_getElem? (i := 17) rfl)) (by decide) (by decide) (by decide) rfl rfl (by decide) (by decide) (lenOf pd_2 rfl) rfl (by first | decide | exact Nat.le_of_eq rfl) rfl d2_39 rfl rfl ?_
    intro T5 h5 X5 qq5
    rw [show h5 = h0 from qq5] at X5
    refine own_if_eq X5 (pct := 102) (pc' := 45) d2_42 rfl (by decide) (by decide) (fun hc42_6 => ?_) (fun hc42_6 => ?_)
    · refine own_iload X5 (pc' := 104) d2_102 rfl rfl ?_
      subst hΦ
      exact own_retI X5 d2_104 (by decide) (by decide) (by rw [own_exc, if_neg hc22_3, if_pos hc42_6]) rfl
    · refine own_iconst X5 (v := (2 : Int32)) (pc' := 46) d2_45 rfl (by decide) ?_
      refine own_istore X5 (pc' := 48) (Ls' := #[.val (.ref a), .val (.int (0 : Int32)), .val (.int (c0 &&& (255 : Int32))), .val (.int (own_L (c0 &&& (255 : Int32)))), .val (.int (8 : Int32)), .val (.int (2 : Int32))]) d2_46 rfl rfl ?_
      refine own_iloadN X5 (pc' := 49) d2_48 rfl rfl ?_
      refine own_iconst X5 (v := (3 : Int32)) (pc' := 50) d2_49 rfl (by decide) ?_
      refine own_icmp_lt X5 (pct := 102) (pc' := 53) d2_50 rfl (by decide) (by decide) (fun hc50_7 => ?_) (fun hc50_7 => ?_)
      · refine own_iload X5 (pc' := 104) d2_102 rfl rfl ?_
        subst hΦ
        exact own_retI X5 d2_104 (by decide) (by decide) (by rw [own_exc, if_neg hc22_3, if_neg hc42_6, own_e2c, if_pos hc50_7]) rfl
      · refine own_iload X5 (pc' := 55) d2_53 rfl rfl ?_
        refine own_iconst X5 (v := (3 : Int32)) (pc' := 56) d2_55 rfl (by decide) ?_
        refine own_icmp_lt X5 (pct := 102) (pc' := 59) d2_56 rfl (by decide) (by decide) (fun hc => absurd hc (by decide)) (fun _ => ?_)
        refine own_aloadN X5 (pc' := 60) d2_59 rfl rfl rfl ?_
        refine own_iloadN X5 (pc' := 61) d2_60 rfl rfl ?_
        refine own_iconst X5 (v := (2 : Int32)) (pc' := 62) d2_61 rfl (by decide) ?_
        refine own_iadd X5 (r := (2 : Int32)) (pc' := 63) d2_62 rfl (by decide) ?_
        refine own_callS X5 (W := 0) (argsL := [(.ref a), (.int (2 : Int32))]) (rest := []) (S' := [(.int (c2 &&& (255 : Int32)))]) (pc' := 66) (rm3 l Z a0 hw n0 a (2 : Int32) h0 X5.size _ A c2 rfl rfl) (hw _ (List.mem_of_getElem? (i := 9) rfl)) (hw _ (List.mem_of_getElem? (i := 10) rfl)) (hw _ (List.mem_of_getElem? (i := 7) rfl)) (hw _ (List.mem_of_getElem? (i := 11) rfl)) (by decide) (by decide) (by decide) rfl rfl (by decide) (by decide) (lenOf pd_0 rfl) rfl (by first | decide | exact Nat.le_of_eq rfl) rfl d2_63 rfl rfl ?_
        intro T8 h8 X8 qq8
        rw [show h8 = h0 from qq8] at X8
        refine own_callS X8 (W := 0) (argsL := [(.int (c2 &&& (255 : Int32)))]) (rest := []) (S' := [(.int (own_ct (c2 &&& (255 : Int32))))]) (pc' := 69) (rm6 l Z a0 hw n0 (c2 &&& (255 : Int32)) h0 X8.size) (hw _ (List.mem_of_getElem? (i := 18) rfl)) (hw _ (List.mem_of_getElem? (i := 19) rfl)) (hw _ (List.mem_of_getElem? (i := 7) rfl)) (hw _ (List.mem_of_getElem? (i := 20) rfl)) (by decide) (by decide) (by decide) rfl rfl (by decide) (by decide) (lenOf pd_3 rfl) rfl (by first | decide | exact Nat.le_of_eq rfl) rfl d2_66 rfl rfl ?_
        intro T9 h9 X9 qq9
        rw [show h9 = h0 from qq9] at X9
        refine own_if_eq X9 (pct := 102) (pc' := 72) d2_69 rfl (by decide) (by decide) (fun hc69_10 => ?_) (fun hc69_10 => ?_)
        · refine own_iload X9 (pc' := 104) d2_102 rfl rfl ?_
          subst hΦ
          exact own_retI X9 d2_104 (by decide) (by decide) (by rw [own_exc, if_neg hc22_3, if_neg hc42_6, own_e2c, if_neg hc50_7, if_pos hc69_10]) rfl
        · refine own_iconst X9 (v := (3 : Int32)) (pc' := 73) d2_72 rfl (by decide) ?_
          refine own_istore X9 (pc' := 75) (Ls' := #[.val (.ref a), .val (.int (0 : Int32)), .val (.int (c0 &&& (255 : Int32))), .val (.int (own_L (c0 &&& (255 : Int32)))), .val (.int (8 : Int32)), .val (.int (3 : Int32))]) d2_73 rfl rfl ?_
          refine own_iloadN X9 (pc' := 76) d2_75 rfl rfl ?_
          refine own_iconst X9 (v := (4 : Int32)) (pc' := 77) d2_76 rfl (by decide) ?_
          refine own_icmp_lt X9 (pct := 102) (pc' := 80) d2_77 rfl (by decide) (by decide) (fun hc77_11 => ?_) (fun hc77_11 => ?_)
          · refine own_iload X9 (pc' := 104) d2_102 rfl rfl ?_
            subst hΦ
            exact own_retI X9 d2_104 (by decide) (by decide) (by rw [own_exc, if_neg hc22_3, if_neg hc42_6, own_e2c, if_neg hc50_7, if_neg hc69_10, own_e3c, if_pos hc77_11]) rfl
          · refine own_iload X9 (pc' := 82) d2_80 rfl rfl ?_
            refine own_iconst X9 (v := (4 : Int32)) (pc' := 83) d2_82 rfl (by decide) ?_
            refine own_icmp_lt X9 (pct := 102) (pc' := 86) d2_83 rfl (by decide) (by decide) (fun hc => absurd hc (by decide)) (fun _ => ?_)
            refine own_aloadN X9 (pc' := 87) d2_86 rfl rfl rfl ?_
            refine own_iloadN X9 (pc' := 88) d2_87 rfl rfl ?_
            refine own_iconst X9 (v := (3 : Int32)) (pc' := 89) d2_88 rfl (by decide) ?_
            refine own_iadd X9 (r := (3 : Int32)) (pc' := 90) d2_89 rfl (by decide) ?_
            refine own_callS X9 (W := 0) (argsL := [(.ref a), (.int (3 : Int32))]) (rest := []) (S' := [(.int (c3 &&& (255 : Int32)))]) (pc' := 93) (rm3 l Z a0 hw n0 a (3 : Int32) h0 X9.size _ A c3 rfl rfl) (hw _ (List.mem_of_getElem? (i := 9) rfl)) (hw _ (List.mem_of_getElem? (i := 10) rfl)) (hw _ (List.mem_of_getElem? (i := 7) rfl)) (hw _ (List.mem_of_getElem? (i := 11) rfl)) (by decide) (by decide) (by decide) rfl rfl (by decide) (by decide) (lenOf pd_0 rfl) rfl (by first | decide | exact Nat.le_of_eq rfl) rfl d2_90 rfl rfl ?_
            intro T12 h12 X12 qq12
            rw [show h12 = h0 from qq12] at X12
            refine own_callS X12 (W := 0) (argsL := [(.int (c3 &&& (255 : Int32)))]) (rest := []) (S' := [(.int (own_ct (c3 &&& (255 : Int32))))]) (pc' := 96) (rm6 l Z a0 hw n0 (c3 &&& (255 : Int32)) h0 X12.size) (hw _ (List.mem_of_getElem? (i := 18) rfl)) (hw _ (List.mem_of_getElem? (i := 19) rfl)) (hw _ (List.mem_of_getElem? (i := 7) rfl)) (hw _ (List.mem_of_getElem? (i := 20) rfl)) (by decide) (by decide) (by decide) rfl rfl (by decide) (by decide) (lenOf pd_3 rfl) rfl (by first | decide | exact Nat.le_of_eq rfl) rfl d2_93 rfl rfl ?_
            intro T13 h13 X13 qq13
            rw [show h13 = h0 from qq13] at X13
            refine own_if_eq X13 (pct := 102) (pc' := 99) d2_96 rfl (by decide) (by decide) (fun hc96_14 => ?_) (fun hc96_14 => ?_)
            · refine own_iload X13 (pc' := 104) d2_102 rfl rfl ?_
              subst hΦ
              exact own_retI X13 d2_104 (by decide) (by decide) (by rw [own_exc, if_neg hc22_3, if_neg hc42_6, own_e2c, if_neg hc50_7, if_neg hc69_10, own_e3c, if_neg hc77_11, if_pos hc96_14]) rfl
            · refine own_iconst X13 (v := (4 : Int32)) (pc' := 100) d2_99 rfl (by decide) ?_
              refine own_istore X13 (pc' := 102) (Ls' := #[.val (.ref a), .val (.int (0 : Int32)), .val (.int (c0 &&& (255 : Int32))), .val (.int (own_L (c0 &&& (255 : Int32)))), .val (.int (8 : Int32)), .val (.int (4 : Int32))]) d2_100 rfl rfl ?_
              refine own_iload X13 (pc' := 104) d2_102 rfl rfl ?_
              subst hΦ
              exact own_retI X13 d2_104 (by decide) (by decide) (by rw [own_exc, if_neg hc22_3, if_neg hc42_6, own_e2c, if_neg hc50_7, if_neg hc69_10, own_e3c, if_neg hc77_11, if_neg hc96_14]) rfl
theorem pn_rm1_1 : plainFor (⟨"com/example/quern/quern/text/TextBytes", "sequenceLength", "([BI)I"⟩ : MethodName) = true := plainFor_of_name (by first | (simp [plainName, overriddenIn]; done) | decide +kernel)
theorem ef_rm1_1 (m : MethodId) (x0 : Addr) (x1 : Int32) : entryFrame m #[(.ref x0), (.int x1)] 9 = mkF m 0 #[.val (.ref x0), .val (.int x1), .unset, .unset, .unset, .unset, .unset, .unset, .unset] [] := by first | (simp [entryFrame, mkF, argsToLocals, Value.category]; done) | rfl
set_option maxRecDepth 65536 in
set_option maxHeartbeats 4000000 in
theorem rm1_1 (l : Launch) (Z : State) (a0 : Array Value) (hw : ∀ d ∈ tables_1, d.before a0 Z = true) (n0 : Nat) (a : Addr) (h0 : Heap) (hn0 : n0 ≤ h0.size) (c0 c1 c2 c3 c4 c5 c6 c7 : Int32) (A : own_A Z h0 a .byte [c0, c1, c2, c3, c4, c5, c6, c7]) :
    own_Met l (⟨"com/example/quern/quern/text/TextBytes", "sequenceLength", "([BI)I"⟩ : MethodName) prog_310_method_5_code 9 (some .int) ({ frames := 0, cells := 0, slots := 0, locals := 0 } : Room) Z n0 #[(.ref a), (.int (1 : Int32))] h0 (some (.int (own_sq (own_L (c1 &&& (255 : Int32))) (own_lo (c1 &&& (255 : Int32))) (own_hi (c1 &&& (255 : Int32))) [(c2 &&& (255 : Int32)), (c3 &&& (255 : Int32)), (c4 &&& (255 : Int32)), (c5 &&& (255 : Int32)), (c6 &&& (255 : Int32)), (c7 &&& (255 : Int32))]))) (fun h' => h' = h0) := by
  refine own_met pn_rm1_1 hn0 ?_
  intro p e s m below meth c T X
  refine own_cast (ef_rm1_1 m a (1 : Int32)) ?_
  generalize hΦ : own_Q n0 below s _ _ _ = Φ
  refine own_aloadN X (pc' := 1) d1_0 rfl rfl rfl ?_
  refine own_iloadN X (pc' := 2) d1_1 rfl rfl ?_
  refine own_baload X (v := c1) (pc' := 3) A rfl rfl d1_2 rfl ?_
  refine own_sipush X (v := (255 : Int32)) (pc' := 6) d1_3 rfl (by decide) ?_
  refine own_iand X (r := (c1 &&& (255 : Int32))) (pc' := 7) d1_6 rfl rfl ?_
  refine own_istoreN X (pc' := 8) (Ls' := #[.val (.ref a), .val (.int (1 : Int32)), .val (.int (c1 &&& (255 : Int32))), .unset, .unset, .unset, .unset, .unset, .unset]) d1_7 rfl rfl ?_
  refine own_sipush X (v := (128 : Int32)) (pc' := 11) d1_8 rfl (by decide) ?_
  refine own_istore X (pc' := 13) (Ls' := #[.val (.ref a), .val (.int (1 : Int32)), .val (.int (c1 &&& (255 : Int32))), .unset, .val (.int (128 : Int32)), .unset, .unset, .unset, .unset]) d1_11 rfl rfl ?_
  refine own_sipush X (v := (191 : Int32)) (pc' := 16) d1_13 rfl (by decide) ?_
  refine own_istore X (pc' := 18) (Ls' := #[.val (.ref a), .val (.int (1 : Int32)), .val (.int (c1 &&& (255 : Int32))), .unset, .val (.int (128 : Int32)), .val (.int (191 : Int32)), .unset, .unset, .unset]) d1_16 rfl rfl ?_
  have J143 : ∀ (len sec top : Int32) (_ : len = own_L (c1 &&& (255 : Int32))) (_ : sec = own_lo (c1 &&& (255 : Int32))) (_ : top = own_hi (c1 &&& (255 : Int32))), own_G p e below Φ T (mkF m 143 #[.val (.ref a), .val (.int (1 : Int32)), .val (.int (c1 &&& (255 : Int32))), .val (.int len), .val (.int sec), .val (.int top), .unset, .unset, .unset] []) := by
    intro len sec top j1 j2 j3
    refine own_iconst X (v := (1 : Int32)) (pc' := 144) d1_143 rfl (by decide) ?_
    refine own_istore X (pc' := 146) (Ls' := #[.val (.ref a), .val (.int (1 : Int32)), .val (.int (c1 &&& (255 : Int32))), .val (.int len), .val (.int sec), .val (.int top), .val (.int (1 : Int32)), .unset, .unset]) d1_144 rfl rfl ?_
    refine own_iload X (pc' := 148) d1_146 rfl rfl ?_
    refine own_iloadN X (pc' := 149) d1_148 rfl rfl ?_
    refine own_icmp_ge X (pct := 238) (pc' := 152) d1_149 rfl (by decide) (by decide) (fun hc149_1 => ?_) (fun hc149_1 => ?_)
    · refine own_iload X (pc' := 240) d1_238 rfl rfl ?_
      subst hΦ
      exact own_retI X d1_240 (by decide) (by decide) (by rw [← j1, ← j2, ← j3, own_sqc, if_neg hc149_1]) rfl
    · refine own_iloadN X (pc' := 153) d1_152 rfl rfl ?_
      refine own_iload X (pc' := 155) d1_153 rfl rfl ?_
      refine own_iadd X (r := (2 : Int32)) (pc' := 156) d1_155 rfl (by decide) ?_
      refine own_aloadN X (pc' := 157) d1_156 rfl rfl rfl ?_
      refine own_len X (v := (8 : Int32)) (pc' := 158) A (by first | rfl | decide) d1_157 rfl ?_
      refine own_icmp_ge X (pct := 238) (pc' := 161) d1_158 rfl (by decide) (by decide) (fun hc => absurd hc (by decide)) (fun _ => ?_)
      refine own_aloadN X (pc' := 162) d1_161 rfl rfl rfl ?_
      refine own_iloadN X (pc' := 163) d1_162 rfl rfl ?_
      refine own_iload X (pc' := 165) d1_163 rfl rfl ?_
      refine own_iadd X (r := (2 : Int32)) (pc' := 166) d1_165 rfl (by decide) ?_
      refine own_baload X (v := c2) (pc' := 167) A rfl rfl d1_166 rfl ?_
      refine own_sipush X (v := (255 : Int32)) (pc' := 170) d1_167 rfl (by decide) ?_
      refine own_iand X (r := (c2 &&& (255 : Int32))) (pc' := 171) d1_170 rfl rfl ?_
      refine own_istore X (pc' := 173) (Ls' := #[.val (.ref a), .val (.int (1 : Int32)), .val (.int (c1 &&& (255 : Int32))), .val (.int len), .val (.int sec), .val (.int top), .val (.int (1 : Int32)), .val (.int (c2 &&& (255 : Int32))), .unset]) d1_171 rfl rfl ?_
      refine own_iload X (pc' := 175) d1_173 rfl rfl ?_
      refine own_iconst X (v := (1 : Int32)) (pc' := 176) d1_175 rfl (by decide) ?_
      refine own_icmp_ne X (pct := 201) (pc' := 179) d1_176 rfl (by decide) (by decide) (fun hc => absurd hc (by decide)) (fun _ => ?_)
      refine own_iload X (pc' := 181) d1_179 rfl rfl ?_
      refine own_iload X (pc' := 183) d1_181 rfl rfl ?_
      refine own_icmp_lt X (pct := 197) (pc' := 186) d1_183 rfl (by decide) (by decide) (fun hc183_2 => ?_) (fun hc183_2 => ?_)
      · refine own_iconst X (v := (0 : Int32)) (pc' := 198) d1_197 rfl (by decide) ?_
        refine own_goto X (pc' := 222) d1_198 (by decide) (by decide) ?_
        refine own_istore X (pc' := 224) (Ls' := #[.val (.ref a), .val (.int (1 : Int32)), .val (.int (c1 &&& (255 : Int32))), .val (.int len), .val (.int sec), .val (.int top), .val (.int (1 : Int32)), .val (.int (c2 &&& (255 : Int32))), .val (.int (0 : Int32))]) d1_222 rfl rfl ?_
        refine own_iload X (pc' := 226) d1_224 rfl rfl ?_
        refine own_if_ne X (pct := 232) (pc' := 229) d1_226 rfl (by decide) (by decide) (fun hc => absurd hc (by decide)) (fun _ => ?_)
        refine own_goto X (pc' := 238) d1_229 (by decide) (by decide) ?_
        refine own_iload X (pc' := 240) d1_238 rfl rfl ?_
        subst hΦ
        exact own_retI X d1_240 (by decide) (by decide) (by rw [← j1, ← j2, ← j3, own_sqc, if_pos hc149_1, if_pos hc183_2]) rfl
      · refine own_iload X (pc' := 188) d1_186 rfl rfl ?_
        refine own_iload X (pc' := 190) d1_188 rfl rfl ?_
        refine own_icmp_gt X (pct := 197) (pc' := 193) d1_190 rfl (by decide) (by decide) (fun hc190_3 => ?_) (fun hc190_3 => ?_)
        · refine own_iconst X (v := (0 : Int32)) (pc' := 198) d1_197 rfl (by decide) ?_
          refine own_goto X (pc' := 222) d1_198 (by decide) (by decide) ?_
          refine own_istore X (pc' := 224) (Ls' := #[.val (.ref a), .val (.int (1 : Int32)), .val (.int (c1 &&& (255 : Int32))), .val (.int len), .val (.int sec), .val (.int top), .val (.int (1 : Int32)), .val (.int (c2 &&& (255 : Int32))), .val (.int (0 : Int32))]) d1_222 rfl rfl ?_
          refine own_iload X (pc' := 226) d1_224 rfl rfl ?_
          refine own_if_ne X (pct := 232) (pc' := 229) d1_226 rfl (by decide) (by decide) (fun hc => absurd hc (by decide)) (fun _ => ?_)
          refine own_goto X (pc' := 238) d1_229 (by decide) (by decide) ?_
          refine own_iload X (pc' := 240) d1_238 rfl rfl ?_
          subst hΦ
          exact own_retI X d1_240 (by decide) (by decide) (by rw [← j1, ← j2, ← j3, own_sqc, if_pos hc149_1, if_neg hc183_2, if_pos hc190_3]) rfl
        · refine own_iconst X (v := (1 : Int32)) (pc' := 194) d1_193 rfl (by decide) ?_
          refine own_goto X (pc' := 222) d1_194 (by decide) (by decide) ?_
          refine own_istore X (pc' := 224) (Ls' := #[.val (.ref a), .val (.int (1 : Int32)), .val (.int (c1 &&& (255 : Int32))), .val (.int len), .val (.int sec), .val (.int top), .val (.int (1 : Int32)), .val (.int (c2 &&& (255 : Int32))), .val (.int (1 : Int32))]) d1_222 rfl rfl ?_
          refine own_iload X (pc' := 226) d1_224 rfl rfl ?_
          refine own_if_ne X (pct := 232) (pc' := 229) d1_226 rfl (by decide) (by decide) (fun _ => ?_) (fun hc => absurd hc (by decide))
          refine own_iinc X (pc' := 235) (Ls' := #[.val (.ref a), .val (.int (1 : Int32)), .val (.int (c1 &&& (255 : Int32))), .val (.int len), .val (.int sec), .val (.int top), .val (.int (2 : Int32)), .val (.int (c2 &&& (255 : Int32))), .val (.int (1 : Int32))]) (w := (2 : Int32)) d1_232 rfl rfl (by decide) rfl ?_
          refine own_goto X (pc' := 146) d1_235 (by decide) (by decide) ?_
          refine own_iload X (pc' := 148) d1_146 rfl rfl ?_
          refine own_iloadN X (pc' := 149) d1_148 rfl rfl ?_
          refine own_icmp_ge X (pct := 238) (pc' := 152) d1_149 rfl (by decide) (by decide) (fun hc149_4 => ?_) (fun hc149_4 => ?_)
          · refine own_iload X (pc' := 240) d1_238 rfl rfl ?_
            subst hΦ
            exact own_retI X d1_240 (by decide) (by decide) (by rw [← j1, ← j2, ← j3, own_sqc, if_pos hc149_1, if_neg hc183_2, if_neg hc190_3, own_l2c, if_neg hc149_4]) rfl
          · refine own_iloadN X (pc' := 153) d1_152 rfl rfl ?_
            refine own_iload X (pc' := 155) d1_153 rfl rfl ?_
            refine own_iadd X (r := (3 : Int32)) (pc' := 156) d1_155 rfl (by decide) ?_
            refine own_aloadN X (pc' := 157) d1_156 rfl rfl rfl ?_
            refine own_len X (v := (8 : Int32)) (pc' := 158) A (by first | rfl | decide) d1_157 rfl ?_
            refine own_icmp_ge X (pct := 238) (pc' := 161) d1_158 rfl (by decide) (by decide) (fun hc => absurd hc (by decide)) (fun _ => ?_)
            refine own_aloadN X (pc' := 162) d1_161 rfl rfl rfl ?_
            refine own_iloadN X (pc' := 163) d1_162 rfl rfl ?_
            refine own_iload X (pc' := 165) d1_163 rfl rfl ?_
            refine own_iadd X (r := (3 : Int32)) (pc' := 166) d1_165 rfl (by decide) ?_
            refine own_baload X (v := c3) (pc' := 167) A rfl rfl d1_166 rfl ?_
            refine own_sipush X (v := (255 : Int32)) (pc' := 170) d1_167 rfl (by decide) ?_
            refine own_iand X (r := (c3 &&& (255 : Int32))) (pc' := 171) d1_170 rfl rfl ?_
            refine own_istore X (pc' := 173) (Ls' := #[.val (.ref a), .val (.int (1 : Int32)), .val (.int (c1 &&& (255 : Int32))), .val (.int len), .val (.int sec), .val (.int top), .val (.int (2 : Int32)), .val (.int (c3 &&& (255 : Int32))), .val (.int (1 : Int32))]) d1_171 rfl rfl ?_
            refine own_iload X (pc' := 175) d1_173 rfl rfl ?_
            refine own_iconst X (v := (1 : Int32)) (pc' := 176) d1_175 rfl (by decide) ?_
            refine own_icmp_ne X (pct := 201) (pc' := 179) d1_176 rfl (by decide) (by decide) (fun _ => ?_) (fun hc => absurd hc (by decide))
            refine own_iload X (pc' := 203) d1_201 rfl rfl ?_
            refine own_sipush X (v := (128 : Int32)) (pc' := 206) d1_203 rfl (by decide) ?_
            refine own_icmp_lt X (pct := 221) (pc' := 209) d1_206 rfl (by decide) (by decide) (fun hc206_5 => ?_) (fun hc206_5 => ?_)
            · refine own_iconst X (v := (0 : Int32)) (pc' := 222) d1_221 rfl (by decide) ?_
              refine own_istore X (pc' := 224) (Ls' := #[.val (.ref a), .val (.int (1 : Int32)), .val (.int (c1 &&& (255 : Int32))), .val (.int len), .val (.int sec), .val (.int top), .val (.int (2 : Int32)), .val (.int (c3 &&& (255 : Int32))), .val (.int (0 : Int32))]) d1_222 rfl rfl ?_
              refine own_iload X (pc' := 226) d1_224 rfl rfl ?_
              refine own_if_ne X (pct := 232) (pc' := 229) d1_226 rfl (by decide) (by decide) (fun hc => absurd hc (by decide)) (fun _ => ?_)
              refine own_goto X (pc' := 238) d1_229 (by decide) (by decide) ?_
              refine own_iload X (pc' := 240) d1_238 rfl rfl ?_
              subst hΦ
              exact own_retI X d1_240 (by decide) (by decide) (by rw [← j1, ← j2, ← j3, own_sqc, if_pos hc149_1, if_neg hc183_2, if_neg hc190_3, own_l2c, if_pos hc149_4, if_pos hc206_5]) rfl
            · refine own_iload X (pc' := 211) d1_209 rfl rfl ?_
              refine own_sipush X (v := (191 : Int32)) (pc' := 214) d1_211 rfl (by decide) ?_
              refine own_icmp_gt X (pct := 221) (pc' := 217) d1_214 rfl (by decide) (by decide) (fun hc214_6 => ?_) (fun hc214_6 => ?_)
              · refine own_iconst X (v := (0 : Int32)) (pc' := 222) d1_221 rfl (by decide) ?_
                refine own_istore X (pc' := 224) (Ls' := #[.val (.ref a), .val (.int (1 : Int32)), .val (.int (c1 &&& (255 : Int32))), .val (.int len), .val (.int sec), .val (.int top), .val (.int (2 : Int32)), .val (.int (c3 &&& (255 : Int32))), .val (.int (0 : Int32))]) d1_222 rfl rfl ?_
                refine own_iload X (pc' := 226) d1_224 rfl rfl ?_
                refine own_if_ne X (pct := 232) (pc' := 229) d1_226 rfl (by decide) (by decide) (fun hc => absurd hc (by decide)) (fun _ => ?_)
                refine own_goto X (pc' := 238) d1_229 (by decide) (by decide) ?_
                refine own_iload X (pc' := 240) d1_238 rfl rfl ?_
                subst hΦ
                exact own_retI X d1_240 (by decide) (by decide) (by rw [← j1, ← j2, ← j3, own_sqc, if_pos hc149_1, if_neg hc183_2, if_neg hc190_3, own_l2c, if_pos hc149_4, if_neg hc206_5, if_pos hc214_6]) rfl
              · refine own_iconst X (v := (1 : Int32)) (pc' := 218) d1_217 rfl (by decide) ?_
                refine own_goto X (pc' := 222) d1_218 (by decide) (by decide) ?_
                refine own_istore X (pc' := 224) (Ls' := #[.val (.ref a), .val (.int (1 : Int32)), .val (.int (c1 &&& (255 : Int32))), .val (.int len), .val (.int sec), .val (.int top), .val (.int (2 : Int32)), .val (.int (c3 &&& (255 : Int32))), .val (.int (1 : Int32))]) d1_222 rfl rfl ?_
                refine own_iload X (pc' := 226) d1_224 rfl rfl ?_
                refine own_if_ne X (pct := 232) (pc' := 229) d1_226 rfl (by decide) (by decide) (fun _ => ?_) (fun hc => absurd hc (by decide))
                refine own_iinc X (pc' := 235) (Ls' := #[.val (.ref a), .val (.int (1 : Int32)), .val (.int (c1 &&& (255 : Int32))), .val (.int len), .val (.int sec), .val (.int top), .val (.int (3 : Int32)), .val (.int (c3 &&& (255 : Int32))), .val (.int (1 : Int32))]) (w := (3 : Int32)) d1_232 rfl rfl (by decide) rfl ?_
                refine own_goto X (pc' := 146) d1_235 (by decide) (by decide) ?_
                refine own_iload X (pc' := 148) d1_146 rfl rfl ?_
                refine own_iloadN X (pc' := 149) d1_148 rfl rfl ?_
                refine own_icmp_ge X (pct := 238) (pc' := 152) d1_149 rfl (by decide) (by decide) (fun hc149_7 => ?_) (fun hc149_7 => ?_)
                · refine own_iload X (pc' := 240) d1_238 rfl rfl ?_
                  subst hΦ
                  exact own_retI X d1_240 (by decide) (by decide) (by rw [← j1, ← j2, ← j3, own_sqc, if_pos hc149_1, if_neg hc183_2, if_neg hc190_3, own_l2c, if_pos hc149_4, if_neg hc206_5, if_neg hc214_6, own_l3c, if_neg hc149_7]) rfl
                · refine own_iloadN X (pc' := 153) d1_152 rfl rfl ?_
                  refine own_iload X (pc' := 155) d1_153 rfl rfl ?_
                  refine own_iadd X (r := (4 : Int32)) (pc' := 156) d1_155 rfl (by decide) ?_
                  refine own_aloadN X (pc' := 157) d1_156 rfl rfl rfl ?_
                  refine own_len X (v := (8 : Int32)) (pc' := 158) A (by first | rfl | decide) d1_157 rfl ?_
                  refine own_icmp_ge X (pct := 238) (pc' := 161) d1_158 rfl (by decide) (by decide) (fun hc => absurd hc (by decide)) (fun _ => ?_)
                  refine own_aloadN X (pc' := 162) d1_161 rfl rfl rfl ?_
                  refine own_iloadN X (pc' := 163) d1_162 rfl rfl ?_
                  refine own_iload X (pc' := 165) d1_163 rfl rfl ?_
                  refine own_iadd X (r := (4 : Int32)) (pc' := 166) d1_165 rfl (by decide) ?_
                  refine own_baload X (v := c4) (pc' := 167) A rfl rfl d1_166 rfl ?_
                  refine own_sipush X (v := (255 : Int32)) (pc' := 170) d1_167 rfl (by decide) ?_
                  refine own_iand X (r := (c4 &&& (255 : Int32))) (pc' := 171) d1_170 rfl rfl ?_
                  refine own_istore X (pc' := 173) (Ls' := #[.val (.ref a), .val (.int (1 : Int32)), .val (.int (c1 &&& (255 : Int32))), .val (.int len), .val (.int sec), .val (.int top), .val (.int (3 : Int32)), .val (.int (c4 &&& (255 : Int32))), .val (.int (1 : Int32))]) d1_171 rfl rfl ?_
                  refine own_iload X (pc' := 175) d1_173 rfl rfl ?_
                  refine own_iconst X (v := (1 : Int32)) (pc' := 176) d1_175 rfl (by decide) ?_
                  refine own_icmp_ne X (pct := 201) (pc' := 179) d1_176 rfl (by decide) (by decide) (fun _ => ?_) (fun hc => absurd hc (by decide))
                  refine own_iload X (pc' := 203) d1_201 rfl rfl ?_
                  refine own_sipush X (v := (128 : Int32)) (pc' := 206) d1_203 rfl (by decide) ?_
                  refine own_icmp_lt X (pct := 221) (pc' := 209) d1_206 rfl (by decide) (by decide) (fun hc206_8 => ?_) (fun hc206_8 => ?_)
                  · refine own_iconst X (v := (0 : Int32)) (pc' := 222) d1_221 rfl (by decide) ?_
                    refine own_istore X (pc' := 224) (Ls' := #[.val (.ref a), .val (.int (1 : Int32)), .val (.int (c1 &&& (255 : Int32))), .val (.int len), .val (.int sec), .val (.int top), .val (.int (3 : Int32)), .val (.int (c4 &&& (255 : Int32))), .val (.int (0 : Int32))]) d1_222 rfl rfl ?_
                    refine own_iload X (pc' := 226) d1_224 rfl rfl ?_
                    refine own_if_ne X (pct := 232) (pc' := 229) d1_226 rfl (by decide) (by decide) (fun hc => absurd hc (by decide)) (fun _ => ?_)
                    refine own_goto X (pc' := 238) d1_229 (by decide) (by decide) ?_
                    refine own_iload X (pc' := 240) d1_238 rfl rfl ?_
                    subst hΦ
                    exact own_retI X d1_240 (by decide) (by decide) (by rw [← j1, ← j2, ← j3, own_sqc, if_pos hc149_1, if_neg hc183_2, if_neg hc190_3, own_l2c, if_pos hc149_4, if_neg hc206_5, if_neg hc214_6, own_l3c, if_pos hc149_7, if_pos hc206_8]) rfl
                  · refine own_iload X (pc' := 211) d1_209 rfl rfl ?_
                    refine own_sipush X (v := (191 : Int32)) (pc' := 214) d1_211 rfl (by decide) ?_
                    refine own_icmp_gt X (pct := 221) (pc' := 217) d1_214 rfl (by decide) (by decide) (fun hc214_9 => ?_) (fun hc214_9 => ?_)
                    · refine own_iconst X (v := (0 : Int32)) (pc' := 222) d1_221 rfl (by decide) ?_
                      refine own_istore X (pc' := 224) (Ls' := #[.val (.ref a), .val (.int (1 : Int32)), .val (.int (c1 &&& (255 : Int32))), .val (.int len), .val (.int sec), .val (.int top), .val (.int (3 : Int32)), .val (.int (c4 &&& (255 : Int32))), .val (.int (0 : Int32))]) d1_222 rfl rfl ?_
                      refine own_iload X (pc' := 226) d1_224 rfl rfl ?_
                      refine own_if_ne X (pct := 232) (pc' := 229) d1_226 rfl (by decide) (by decide) (fun hc => absurd hc (by decide)) (fun _ => ?_)
                      refine own_goto X (pc' := 238) d1_229 (by decide) (by decide) ?_
                      refine own_iload X (pc' := 240) d1_238 rfl rfl ?_
                      subst hΦ
                      exact own_retI X d1_240 (by decide) (by decide) (by rw [← j1, ← j2, ← j3, own_sqc, if_pos hc149_1, if_neg hc183_2, if_neg hc190_3, own_l2c, if_pos hc149_4, if_neg hc206_5, if_neg hc214_6, own_l3c, if_pos hc149_7, if_neg hc206_8, if_pos hc214_9]) rfl
                    · refine own_iconst X (v := (1 : Int32)) (pc' := 218) d1_217 rfl (by decide) ?_
                      refine own_goto X (pc' := 222) d1_218 (by decide) (by decide) ?_
                      refine own_istore X (pc' := 224) (Ls' := #[.val (.ref a), .val (.int (1 : Int32)), .val (.int (c1 &&& (255 : Int32))), .val (.int len), .val (.int sec), .val (.int top), .val (.int (3 : Int32)), .val (.int (c4 &&& (255 : Int32))), .val (.int (1 : Int32))]) d1_222 rfl rfl ?_
                      refine own_iload X (pc' := 226) d1_224 rfl rfl ?_
                      refine own_if_ne X (pct := 232) (pc' := 229) d1_226 rfl (by decide) (by decide) (fun _ => ?_) (fun hc => absurd hc (by decide))
                      refine own_iinc X (pc' := 235) (Ls' := #[.val (.ref a), .val (.int (1 : Int32)), .val (.int (c1 &&& (255 : Int32))), .val (.int len), .val (.int sec), .val (.int top), .val (.int (4 : Int32)), .val (.int (c4 &&& (255 : Int32))), .val (.int (1 : Int32))]) (w := (4 : Int32)) d1_232 rfl rfl (by decide) rfl ?_
                      refine own_goto X (pc' := 146) d1_235 (by decide) (by decide) ?_
                      refine own_iload X (pc' := 148) d1_146 rfl rfl ?_
                      refine own_iloadN X (pc' := 149) d1_148 rfl rfl ?_
                      refine own_icmp_ge X (pct := 238) (pc' := 152) d1_149 rfl (by decide) (by decide) (fun _ => ?_) (fun hc => absurd hc (by rw [j1]; exact own_L4 _))
                      refine own_iload X (pc' := 240) d1_238 rfl rfl ?_
                      subst hΦ
                      exact own_retI X d1_240 (by decide) (by decide) (by rw [← j1, ← j2, ← j3, own_sqc, if_pos hc149_1, if_neg hc183_2, if_neg hc190_3, own_l2c, if_pos hc149_4, if_neg hc206_5, if_neg hc214_6, own_l3c, if_pos hc149_7, if_neg hc206_8, if_neg hc214_9]) rfl
  refine own_iloadN X (pc' := 19) d1_18 rfl rfl ?_
  refine own_sipush X (v := (128 : Int32)) (pc' := 22) d1_19 rfl (by decide) ?_
  refine own_icmp_ge X (pct := 30) (pc' := 25) d1_22 rfl (by decide) (by decide) (fun hc22_10 => ?_) (fun hc22_10 => ?_)
  · refine own_iloadN X (pc' := 31) d1_30 rfl rfl ?_
    refine own_sipush X (v := (194 : Int32)) (pc' := 34) d1_31 rfl (by decide) ?_
    refine own_icmp_lt X (pct := 49) (pc' := 37) d1_34 rfl (by decide) (by decide) (fun hc34_11 => ?_) (fun hc34_11 => ?_)
    · refine own_iloadN X (pc' := 50) d1_49 rfl rfl ?_
      refine own_sipush X (v := (224 : Int32)) (pc' := 53) d1_50 rfl (by decide) ?_
      refine own_icmp_lt X (pct := 86) (pc' := 56) d1_53 rfl (by decide) (by decide) (fun _ => ?_) (fun hc => absurd hc (by simp only [Int32.lt_iff_toInt_lt, ← Int32.toInt_inj, Int32.reduceToInt] at hc22_10 hc34_11 ⊢; omega))
      refine own_iloadN X (pc' := 87) d1_86 rfl rfl ?_
      refine own_sipush X (v := (240 : Int32)) (pc' := 90) d1_87 rfl (by decide) ?_
      refine own_icmp_lt X (pct := 141) (pc' := 93) d1_90 rfl (by decide) (by decide) (fun _ => ?_) (fun hc => absurd hc (by simp only [Int32.lt_iff_toInt_lt, ← Int32.toInt_inj, Int32.reduceToInt] at hc22_10 hc34_11 ⊢; omega))
      refine own_iconst X (v := (1 : Int32)) (pc' := 142) d1_141 rfl (by decide) ?_
      refine own_istoreN X (pc' := 143) (Ls' := #[.val (.ref a), .val (.int (1 : Int32)), .val (.int (c1 &&& (255 : Int32))), .val (.int (1 : Int32)), .val (.int (128 : Int32)), .val (.int (191 : Int32)), .unset, .unset, .unset]) d1_142 rfl rfl ?_
      exact J143 _ _ _ (by rw [Int32.lt_iff_toInt_lt] at hc22_10 hc34_11; simp only [Int32.reduceToInt] at hc22_10 hc34_11; unfold own_L; (repeat' split); all_goals first | rfl | omega) (by rw [Int32.lt_iff_toInt_lt] at hc22_10 hc34_11; simp only [Int32.reduceToInt] at hc22_10 hc34_11; unfold own_lo; (repeat' split); all_goals first | rfl | omega) (by rw [Int32.lt_iff_toInt_lt] at hc22_10 hc34_11; simp only [Int32.reduceToInt] at hc22_10 hc34_11; unfold own_hi; (repeat' split); all_goals first | rfl | omega)
    · refine own_iloadN X (pc' := 38) d1_37 rfl rfl ?_
      refine own_sipush X (v := (223 : Int32)) (pc' := 41) d1_38 rfl (by decide) ?_
      refine own_icmp_gt X (pct := 49) (pc' := 44) d1_41 rfl (by decide) (by decide) (fun hc41_12 => ?_) (fun hc41_12 => ?_)
      · refine own_iloadN X (pc' := 50) d1_49 rfl rfl ?_
        refine own_sipush X (v := (224 : Int32)) (pc' := 53) d1_50 rfl (by decide) ?_
        refine own_icmp_lt X (pct := 86) (pc' := 56) d1_53 rfl (by decide) (by decide) (fun hc => absurd hc (by simp only [Int32.lt_iff_toInt_lt, ← Int32.toInt_inj, Int32.reduceToInt] at hc22_10 hc34_11 hc41_12 ⊢; omega)) (fun _ => ?_)
        refine own_iloadN X (pc' := 57) d1_56 rfl rfl ?_
        refine own_sipush X (v := (239 : Int32)) (pc' := 60) d1_57 rfl (by decide) ?_
        refine own_icmp_gt X (pct := 86) (pc' := 63) d1_60 rfl (by decide) (by decide) (fun hc60_13 => ?_) (fun hc60_13 => ?_)
        · refine own_iloadN X (pc' := 87) d1_86 rfl rfl ?_
          refine own_sipush X (v := (240 : Int32)) (pc' := 90) d1_87 rfl (by decide) ?_
          refine own_icmp_lt X (pct := 141) (pc' := 93) d1_90 rfl (by decide) (by decide) (fun hc => absurd hc (by simp only [Int32.lt_iff_toInt_lt, ← Int32.toInt_inj, Int32.reduceToInt] at hc22_10 hc34_11 hc41_12 hc60_13 ⊢; omega)) (fun _ => ?_)
          refine own_iloadN X (pc' := 94) d1_93 rfl rfl ?_
          refine own_sipush X (v := (244 : Int32)) (pc' := 97) d1_94 rfl (by decide) ?_
          refine own_icmp_gt X (pct := 141) (pc' := 100) d1_97 rfl (by decide) (by decide) (fun hc97_14 => ?_) (fun hc97_14 => ?_)
          · refine own_iconst X (v := (1 : Int32)) (pc' := 142) d1_141 rfl (by decide) ?_
            refine own_istoreN X (pc' := 143) (Ls' := #[.val (.ref a), .val (.int (1 : Int32)), .val (.int (c1 &&& (255 : Int32))), .val (.int (1 : Int32)), .val (.int (128 : Int32)), .val (.int (191 : Int32)), .unset, .unset, .unset]) d1_142 rfl rfl ?_
            exact J143 _ _ _ (by rw [Int32.lt_iff_toInt_lt] at hc22_10 hc34_11 hc41_12 hc60_13 hc97_14; simp only [Int32.reduceToInt] at hc22_10 hc34_11 hc41_12 hc60_13 hc97_14; unfold own_L; (repeat' split); all_goals first | rfl | omega) (by rw [Int32.lt_iff_toInt_lt] at hc22_10 hc34_11 hc41_12 hc60_13 hc97_14; simp only [Int32.reduceToInt] at hc22_10 hc34_11 hc41_12 hc60_13 hc97_14; unfold own_lo; (repeat' split); all_goals first | rfl | omega) (by rw [Int32.lt_iff_toInt_lt] at hc22_10 hc34_11 hc41_12 hc60_13 hc97_14; simp only [Int32.reduceToInt] at hc22_10 hc34_11 hc41_12 hc60_13 hc97_14; unfold own_hi; (repeat' split); all_goals first | rfl | omega)
          · refine own_iconst X (v := (4 : Int32)) (pc' := 101) d1_100 rfl (by decide) ?_
            refine own_istoreN X (pc' := 102) (Ls' := #[.val (.ref a), .val (.int (1 : Int32)), .val (.int (c1 &&& (255 : Int32))), .val (.int (4 : Int32)), .val (.int (128 : Int32)), .val (.int (191 : Int32)), .unset, .unset, .unset]) d1_101 rfl rfl ?_
            refine own_iloadN X (pc' := 103) d1_102 rfl rfl ?_
            refine own_sipush X (v := (240 : Int32)) (pc' := 106) d1_103 rfl (by decide) ?_
            refine own_icmp_ne X (pct := 115) (pc' := 109) d1_106 rfl (by decide) (by decide) (fun hc106_15 => ?_) (fun hc106_15 => ?_)
            · refine own_sipush X (v := (128 : Int32)) (pc' := 118) d1_115 rfl (by decide) ?_
              refine own_istore X (pc' := 120) (Ls' := #[.val (.ref a), .val (.int (1 : Int32)), .val (.int (c1 &&& (255 : Int32))), .val (.int (4 : Int32)), .val (.int (128 : Int32)), .val (.int (191 : Int32)), .unset, .unset, .unset]) d1_118 rfl rfl ?_
              refine own_iloadN X (pc' := 121) d1_120 rfl rfl ?_
              refine own_sipush X (v := (244 : Int32)) (pc' := 124) d1_121 rfl (by decide) ?_
              refine own_icmp_ne X (pct := 133) (pc' := 127) d1_124 rfl (by decide) (by decide) (fun hc124_16 => ?_) (fun hc124_16 => ?_)
              · refine own_sipush X (v := (191 : Int32)) (pc' := 136) d1_133 rfl (by decide) ?_
                refine own_istore X (pc' := 138) (Ls' := #[.val (.ref a), .val (.int (1 : Int32)), .val (.int (c1 &&& (255 : Int32))), .val (.int (4 : Int32)), .val (.int (128 : Int32)), .val (.int (191 : Int32)), .unset, .unset, .unset]) d1_136 rfl rfl ?_
                refine own_goto X (pc' := 143) d1_138 (by decide) (by decide) ?_
                exact J143 _ _ _ (by rw [Int32.lt_iff_toInt_lt] at hc22_10 hc34_11 hc41_12 hc60_13 hc97_14; rw [← Int32.toInt_inj] at hc106_15 hc124_16; simp only [Int32.reduceToInt] at hc22_10 hc34_11 hc41_12 hc60_13 hc97_14 hc106_15 hc124_16; unfold own_L; (repeat' split); all_goals first | rfl | omega) (by rw [Int32.lt_iff_toInt_lt] at hc22_10 hc34_11 hc41_12 hc60_13 hc97_14; rw [← Int32.toInt_inj] at hc106_15 hc124_16; simp only [Int32.reduceToInt] at hc22_10 hc34_11 hc41_12 hc60_13 hc97_14 hc106_15 hc124_16; unfold own_lo; (repeat' split); all_goals first | rfl | omega) (by rw [Int32.lt_iff_toInt_lt] at hc22_10 hc34_11 hc41_12 hc60_13 hc97_14; rw [← Int32.toInt_inj] at hc106_15 hc124_16; simp only [Int32.reduceToInt] at hc22_10 hc34_11 hc41_12 hc60_13 hc97_14 hc106_15 hc124_16; unfold own_hi; (repeat' split); all_goals first | rfl | omega)
              · refine own_sipush X (v := (143 : Int32)) (pc' := 130) d1_127 rfl (by decide) ?_
                refine own_goto X (pc' := 136) d1_130 (by decide) (by decide) ?_
                refine own_istore X (pc' := 138) (Ls' := #[.val (.ref a), .val (.int (1 : Int32)), .val (.int (c1 &&& (255 : Int32))), .val (.int (4 : Int32)), .val (.int (128 : Int32)), .val (.int (143 : Int32)), .unset, .unset, .unset]) d1_136 rfl rfl ?_
                refine own_goto X (pc' := 143) d1_138 (by decide) (by decide) ?_
                exact J143 _ _ _ (by rw [Int32.lt_iff_toInt_lt] at hc22_10 hc34_11 hc41_12 hc60_13 hc97_14; rw [← Int32.toInt_inj] at hc106_15 hc124_16; simp only [Int32.reduceToInt] at hc22_10 hc34_11 hc41_12 hc60_13 hc97_14 hc106_15 hc124_16; unfold own_L; (repeat' split); all_goals first | rfl | omega) (by rw [Int32.lt_iff_toInt_lt] at hc22_10 hc34_11 hc41_12 hc60_13 hc97_14; rw [← Int32.toInt_inj] at hc106_15 hc124_16; simp only [Int32.reduceToInt] at hc22_10 hc34_11 hc41_12 hc60_13 hc97_14 hc106_15 hc124_16; unfold own_lo; (repeat' split); all_goals first | rfl | omega) (by rw [Int32.lt_iff_toInt_lt] at hc22_10 hc34_11 hc41_12 hc60_13 hc97_14; rw [← Int32.toInt_inj] at hc106_15 hc124_16; simp only [Int32.reduceToInt] at hc22_10 hc34_11 hc41_12 hc60_13 hc97_14 hc106_15 hc124_16; unfold own_hi; (repeat' split); all_goals first | rfl | omega)
            · refine own_sipush X (v := (144 : Int32)) (pc' := 112) d1_109 rfl (by decide) ?_
              refine own_goto X (pc' := 118) d1_112 (by decide) (by decide) ?_
              refine own_istore X (pc' := 120) (Ls' := #[.val (.ref a), .val (.int (1 : Int32)), .val (.int (c1 &&& (255 : Int32))), .val (.int (4 : Int32)), .val (.int (144 : Int32)), .val (.int (191 : Int32)), .unset, .unset, .unset]) d1_118 rfl rfl ?_
              refine own_iloadN X (pc' := 121) d1_120 rfl rfl ?_
              refine own_sipush X (v := (244 : Int32)) (pc' := 124) d1_121 rfl (by decide) ?_
              refine own_icmp_ne X (pct := 133) (pc' := 127) d1_124 rfl (by decide) (by decide) (fun _ => ?_) (fun hc => absurd hc (by simp only [Int32.lt_iff_toInt_lt, ← Int32.toInt_inj, Int32.reduceToInt] at hc22_10 hc34_11 hc41_12 hc60_13 hc97_14 hc106_15 ⊢; omega))
              refine own_sipush X (v := (191 : Int32)) (pc' := 136) d1_133 rfl (by decide) ?_
              refine own_istore X (pc' := 138) (Ls' := #[.val (.ref a), .val (.int (1 : Int32)), .val (.int (c1 &&& (255 : Int32))), .val (.int (4 : Int32)), .val (.int (144 : Int32)), .val (.int (191 : Int32)), .unset, .unset, .unset]) d1_136 rfl rfl ?_
              refine own_goto X (pc' := 143) d1_138 (by decide) (by decide) ?_
              exact J143 _ _ _ (by rw [Int32.lt_iff_toInt_lt] at hc22_10 hc34_11 hc41_12 hc60_13 hc97_14; rw [← Int32.toInt_inj] at hc106_15; simp only [Int32.reduceToInt] at hc22_10 hc34_11 hc41_12 hc60_13 hc97_14 hc106_15; unfold own_L; (repeat' split); all_goals first | rfl | omega) (by rw [Int32.lt_iff_toInt_lt] at hc22_10 hc34_11 hc41_12 hc60_13 hc97_14; rw [← Int32.toInt_inj] at hc106_15; simp only [Int32.reduceToInt] at hc22_10 hc34_11 hc41_12 hc60_13 hc97_14 hc106_15; unfold own_lo; (repeat' split); all_goals first | rfl | omega) (by rw [Int32.lt_iff_toInt_lt] at hc22_10 hc34_11 hc41_12 hc60_13 hc97_14; rw [← Int32.toInt_inj] at hc106_15; simp only [Int32.reduceToInt] at hc22_10 hc34_11 hc41_12 hc60_13 hc97_14 hc106_15; unfold own_hi; (repeat' split); all_goals first | rfl | omega)
        · refine own_iconst X (v := (3 : Int32)) (pc' := 64) d1_63 rfl (by decide) ?_
          refine own_istoreN X (pc' := 65) (Ls' := #[.val (.ref a), .val (.int (1 : Int32)), .val (.int (c1 &&& (255 : Int32))), .val (.int (3 : Int32)), .val (.int (128 : Int32)), .val (.int (191 : Int32)), .unset, .unset, .unset]) d1_64 rfl rfl ?_
          refine own_iloadN X (pc' := 66) d1_65 rfl rfl ?_
          refine own_sipush X (v := (224 : Int32)) (pc' := 69) d1_66 rfl (by decide) ?_
          refine own_icmp_ne X (pct := 78) (pc' := 72) d1_69 rfl (by decide) (by decide) (fun hc69_17 => ?_) (fun hc69_17 => ?_)
          · refine own_sipush X (v := (128 : Int32)) (pc' := 81) d1_78 rfl (by decide) ?_
            refine own_istore X (pc' := 83) (Ls' := #[.val (.ref a), .val (.int (1 : Int32)), .val (.int (c1 &&& (255 : Int32))), .val (.int (3 : Int32)), .val (.int (128 : Int32)), .val (.int (191 : Int32)), .unset, .unset, .unset]) d1_81 rfl rfl ?_
            refine own_goto X (pc' := 143) d1_83 (by decide) (by decide) ?_
            exact J143 _ _ _ (by rw [Int32.lt_iff_toInt_lt] at hc22_10 hc34_11 hc41_12 hc60_13; rw [← Int32.toInt_inj] at hc69_17; simp only [Int32.reduceToInt] at hc22_10 hc34_11 hc41_12 hc60_13 hc69_17; unfold own_L; (repeat' split); all_goals first | rfl | omega) (by rw [Int32.lt_iff_toInt_lt] at hc22_10 hc34_11 hc41_12 hc60_13; rw [← Int32.toInt_inj] at hc69_17; simp only [Int32.reduceToInt] at hc22_10 hc34_11 hc41_12 hc60_13 hc69_17; unfold own_lo; (repeat' split); all_goals first | rfl | omega) (by rw [Int32.lt_iff_toInt_lt] at hc22_10 hc34_11 hc41_12 hc60_13; rw [← Int32.toInt_inj] at hc69_17; simp only [Int32.reduceToInt] at hc22_10 hc34_11 hc41_12 hc60_13 hc69_17; unfold own_hi; (repeat' split); all_goals first | rfl | omega)
          · refine own_sipush X (v := (160 : Int32)) (pc' := 75) d1_72 rfl (by decide) ?_
            refine own_goto X (pc' := 81) d1_75 (by decide) (by decide) ?_
            refine own_istore X (pc' := 83) (Ls' := #[.val (.ref a), .val (.int (1 : Int32)), .val (.int (c1 &&& (255 : Int32))), .val (.int (3 : Int32)), .val (.int (160 : Int32)), .val (.int (191 : Int32)), .unset, .unset, .unset]) d1_81 rfl rfl ?_
            refine own_goto X (pc' := 143) d1_83 (by decide) (by decide) ?_
            exact J143 _ _ _ (by rw [Int32.lt_iff_toInt_lt] at hc22_10 hc34_11 hc41_12 hc60_13; rw [← Int32.toInt_inj] at hc69_17; simp only [Int32.reduceToInt] at hc22_10 hc34_11 hc41_12 hc60_13 hc69_17; unfold own_L; (repeat' split); all_goals first | rfl | omega) (by rw [Int32.lt_iff_toInt_lt] at hc22_10 hc34_11 hc41_12 hc60_13; rw [← Int32.toInt_inj] at hc69_17; simp only [Int32.reduceToInt] at hc22_10 hc34_11 hc41_12 hc60_13 hc69_17; unfold own_lo; (repeat' split); all_goals first | rfl | omega) (by rw [Int32.lt_iff_toInt_lt] at hc22_10 hc34_11 hc41_12 hc60_13; rw [← Int32.toInt_inj] at hc69_17; simp only [Int32.reduceToInt] at hc22_10 hc34_11 hc41_12 hc60_13 hc69_17; unfold own_hi; (repeat' split); all_goals first | rfl | omega)
      · refine own_iconst X (v := (2 : Int32)) (pc' := 45) d1_44 rfl (by decide) ?_
        refine own_istoreN X (pc' := 46) (Ls' := #[.val (.ref a), .val (.int (1 : Int32)), .val (.int (c1 &&& (255 : Int32))), .val (.int (2 : Int32)), .val (.int (128 : Int32)), .val (.int (191 : Int32)), .unset, .unset, .unset]) d1_45 rfl rfl ?_
        refine own_goto X (pc' := 143) d1_46 (by decide) (by decide) ?_
        exact J143 _ _ _ (by rw [Int32.lt_iff_toInt_lt] at hc22_10 hc34_11 hc41_12; simp only [Int32.reduceToInt] at hc22_10 hc34_11 hc41_12; unfold own_L; (repeat' split); all_goals first | rfl | omega) (by rw [Int32.lt_iff_toInt_lt] at hc22_10 hc34_11 hc41_12; simp only [Int32.reduceToInt] at hc22_10 hc34_11 hc41_12; unfold own_lo; (repeat' split); all_goals first | rfl | omega) (by rw [Int32.lt_iff_toInt_lt] at hc22_10 hc34_11 hc41_12; simp only [Int32.reduceToInt] at hc22_10 hc34_11 hc41_12; unfold own_hi; (repeat' split); all_goals first | rfl | omega)
  · refine own_iconst X (v := (1 : Int32)) (pc' := 26) d1_25 rfl (by decide) ?_
    refine own_istoreN X (pc' := 27) (Ls' := #[.val (.ref a), .val (.int (1 : Int32)), .val (.int (c1 &&& (255 : Int32))), .val (.int (1 : Int32)), .val (.int (128 : Int32)), .val (.int (191 : Int32)), .unset, .unset, .unset]) d1_26 rfl rfl ?_
    refine own_goto X (pc' := 143) d1_27 (by decide) (by decide) ?_
    exact J143 _ _ _ (by rw [Int32.lt_iff_toInt_lt] at hc22_10; simp only [Int32.reduceToInt] at hc22_10; unfold own_L; (repeat' split); all_goals first | rfl | omega) (by rw [Int32.lt_iff_toInt_lt] at hc22_10; simp only [Int32.reduceToInt] at hc22_10; unfold own_lo; (repeat' split); all_goals first | rfl | omega) (by rw [Int32.lt_iff_toInt_lt] at hc22_10; simp only [Int32.reduceToInt] at hc22_10; unfold own_hi; (repeat' split); all_goals first | rfl | omega)
theorem pn_rm2_1 : plainFor (⟨"com/example/quern/quern/text/TextBytesSequenceLengthPinLaw", "expected", "([BI)I"⟩ : MethodName) = true := plainFor_of_name (by first | (simp [plainName, overriddenIn]; done) | decide +kernel)
theorem ef_rm2_1 (m : MethodId) (x0 : Addr) (x1 : Int32) : entryFrame m #[(.ref x0), (.int x1)] 6 = mkF m 0 #[.val (.ref x0), .val (.int x1), .unset, .unset, .unset, .unset] [] := by first | (simp [entryFrame, mkF, argsToLocals, Value.category]; done) | rfl
set_option maxRecDepth 65536 in
set_option maxHeartbeats 4000000 in
theorem rm2_1 (l : Launch) (Z : State) (a0 : Array Value) (hw : ∀ d ∈ tables_1, d.before a0 Z = true) (n0 : Nat) (a : Addr) (h0 : Heap) (hn0 : n0 ≤ h0.size) (c0 c1 c2 c3 c4 c5 c6 c7 : Int32) (A : own_A Z h0 a .byte [c0, c1, c2, c3, c4, c5, c6, c7]) :
    own_Met l (⟨"com/example/quern/quern/text/TextBytesSequenceLengthPinLaw", "expected", "([BI)I"⟩ : MethodName) method_7_code 6 (some .int) ({ frames := 1, cells := 0, slots := 0, locals := 20 } : Room) Z n0 #[(.ref a), (.int (1 : Int32))] h0 (some (.int (own_ex (own_L (c1 &&& (255 : Int32))) (c1 &&& (255 : Int32)) [(c2 &&& (255 : Int32)), (c3 &&& (255 : Int32)), (c4 &&& (255 : Int32)), (c5 &&& (255 : Int32)), (c6 &&& (255 : Int32)), (c7 &&& (255 : Int32))]))) (fun h' => h' = h0) := by
  refine own_met pn_rm2_1 hn0 ?_
  intro p e s m below meth c T X
  refine own_cast (ef_rm2_1 m a (1 : Int32)) ?_
  generalize hΦ : own_Q n0 below s _ _ _ = Φ
  refine own_aloadN X (pc' := 1) d2_0 rfl rfl rfl ?_
  refine own_iloadN X (pc' := 2) d2_1 rfl rfl ?_
  refine own_callS X (W := 0) (argsL := [(.ref a), (.int (1 : Int32))]) (rest := []) (S' := [(.int (c1 &&& (255 : Int32)))]) (pc' := 5) (rm3 l Z a0 hw n0 a (1 : Int32) h0 X.size _ A c1 rfl rfl) (hw _ (List.mem_of_getElem? (i := 9) rfl)) (hw _ (List.mem_of_getElem? (i := 10) rfl)) (hw _ (List.mem_of_getElem? (i := 7) rfl)) (hw _ (List.mem_of_getElem? (i := 11) rfl)) (by decide) (by decide) (by decide) rfl rfl (by decide) (by decide) (lenOf pd_0 rfl) rfl (by first | decide | exact Nat.le_of_eq rfl) rfl d2_2 rfl rfl ?_
  intro T1 h1 X1 qq1
  rw [show h1 = h0 from qq1] at X1
  refine own_istoreN X1 (pc' := 6) (Ls' := #[.val (.ref a), .val (.int (1 : Int32)), .val (.int (c1 &&& (255 : Int32))), .unset, .unset, .unset]) d2_5 rfl rfl ?_
  refine own_iloadN X1 (pc' := 7) d2_6 rfl rfl ?_
  refine own_callS X1 (W := 0) (argsL := [(.int (c1 &&& (255 : Int32)))]) (rest := []) (S' := [(.int (own_L (c1 &&& (255 : Int32))))]) (pc' := 10) (rm4 l Z a0 hw n0 (c1 &&& (255 : Int32)) h0 X1.size) (hw _ (List.mem_of_getElem? (i := 12) rfl)) (hw _ (List.mem_of_getElem? (i := 13) rfl)) (hw _ (List.mem_of_getElem? (i := 7) rfl)) (hw _ (List.mem_of_getElem? (i := 14) rfl)) (by decide) (by decide) (by decide) rfl rfl (by decide) (by decide) (lenOf pd_1 rfl) rfl (by first | decide | exact Nat.le_of_eq rfl) rfl d2_7 rfl rfl ?_
  intro T2 h2 X2 qq2
  rw [show h2 = h0 from qq2] at X2
  refine own_istoreN X2 (pc' := 11) (Ls' := #[.val (.ref a), .val (.int (1 : Int32)), .val (.int (c1 &&& (255 : Int32))), .val (.int (own_L (c1 &&& (255 : Int32)))), .unset, .unset]) d2_10 rfl rfl ?_
  refine own_aloadN X2 (pc' := 12) d2_11 rfl rfl rfl ?_
  refine own_len X2 (v := (8 : Int32)) (pc' := 13) A (by first | rfl | decide) d2_12 rfl ?_
  refine own_iloadN X2 (pc' := 14) d2_13 rfl rfl ?_
  refine own_isub X2 (r := (7 : Int32)) (pc' := 15) d2_14 rfl (by decide) ?_
  refine own_istore X2 (pc' := 17) (Ls' := #[.val (.ref a), .val (.int (1 : Int32)), .val (.int (c1 &&& (255 : Int32))), .val (.int (own_L (c1 &&& (255 : Int32)))), .val (.int (7 : Int32)), .unset]) d2_15 rfl rfl ?_
  refine own_iconst X2 (v := (1 : Int32)) (pc' := 18) d2_17 rfl (by decide) ?_
  refine own_istore X2 (pc' := 20) (Ls' := #[.val (.ref a), .val (.int (1 : Int32)), .val (.int (c1 &&& (255 : Int32))), .val (.int (own_L (c1 &&& (255 : Int32)))), .val (.int (7 : Int32)), .val (.int (1 : Int32))]) d2_18 rfl rfl ?_
  refine own_iloadN X2 (pc' := 21) d2_20 rfl rfl ?_
  refine own_iconst X2 (v := (2 : Int32)) (pc' := 22) d2_21 rfl (by decide) ?_
  refine own_icmp_lt X2 (pct := 102) (pc' := 25) d2_22 rfl (by decide) (by decide) (fun hc22_3 => ?_) (fun hc22_3 => ?_)
  · refine own_iload X2 (pc' := 104) d2_102 rfl rfl ?_
    subst hΦ
    exact own_retI X2 d2_104 (by decide) (by decide) (by rw [own_exc, if_pos hc22_3]) rfl
  · refine own_iload X2 (pc' := 27) d2_25 rfl rfl ?_
    refine own_iconst X2 (v := (2 : Int32)) (pc' := 28) d2_27 rfl (by decide) ?_
    refine own_icmp_lt X2 (pct := 102) (pc' := 31) d2_28 rfl (by decide) (by decide) (fun hc => absurd hc (by decide)) (fun _ => ?_)
    refine own_iloadN X2 (pc' := 32) d2_31 rfl rfl ?_
    refine own_aloadN X2 (pc' := 33) d2_32 rfl rfl rfl ?_
    refine own_iloadN X2 (pc' := 34) d2_33 rfl rfl ?_
    refine own_iconst X2 (v := (1 : Int32)) (pc' := 35) d2_34 rfl (by decide) ?_
    refine own_iadd X2 (r := (2 : Int32)) (pc' := 36) d2_35 rfl (by decide) ?_
    refine own_callS X2 (W := 1) (argsL := [(.ref a), (.int (2 : Int32))]) (rest := [(.int (c1 &&& (255 : Int32)))]) (S' := [(.int (c2 &&& (255 : Int32))), (.int (c1 &&& (255 : Int32)))]) (pc' := 39) (rm3 l Z a0 hw n0 a (2 : Int32) h0 X2.size _ A c2 rfl rfl) (hw _ (List.mem_of_getElem? (i := 9) rfl)) (hw _ (List.mem_of_getElem? (i := 10) rfl)) (hw _ (List.mem_of_getElem? (i := 7) rfl)) (hw _ (List.mem_of_getElem? (i := 11) rfl)) (by decide) (by decide) (by decide) rfl rfl (by decide) (by decide) (lenOf pd_0 rfl) rfl (by first | decide | exact Nat.le_of_eq rfl) rfl d2_36 rfl rfl ?_
    intro T4 h4 X4 qq4
    rw [show h4 = h0 from qq4] at X4
    refine own_callS X4 (W := 0) (argsL := [(.int (c1 &&& (255 : Int32))), (.int (c2 &&& (255 : Int32)))]) (rest := []) (S' := [(.int (own_sf (c1 &&& (255 : Int32)) (c2 &&& (255 : Int32))))]) (pc' := 42) (rm5 l Z a0 hw n0 (c1 &&& (255 : Int32)) (c2 &&& (255 : Int32)) h0 X4.size) (hw _ (List.mem_of_getElem? (i := 15) rfl)) (hw _ (List.mem_of_getElem? (i := 16) rfl)) (hw _ (List.mem_of_getElem? (i := 7) rfl)) (hw _ (List.mem_of_getElem? (i := 17) rfl)) (by decide) (by decide) (by decide) rfl rfl (by decide) (by decide) (lenOf pd_2 rfl) rfl (by first | decide | exact Nat.le_of_eq rfl) rfl d2_39 rfl rfl ?_
    intro T5 h5 X5 qq5
    rw [show h5 = h0 from qq5] at X5
    refine own_if_eq X5 (pct := 102) (pc' := 45) d2_42 rfl (by decide) (by decide) (fun hc42_6 => ?_) (fun hc42_6 => ?_)
    · refine own_iload X5 (pc' := 104) d2_102 rfl rfl ?_
      subst hΦ
      exact own_retI X5 d2_104 (by decide) (by decide) (by rw [own_exc, if_neg hc22_3, if_pos hc42_6]) rfl
    · refine own_iconst X5 (v := (2 : Int32)) (pc' := 46) d2_45 rfl (by decide) ?_
      refine own_istore X5 (pc' := 48) (Ls' := #[.val (.ref a), .val (.int (1 : Int32)), .val (.int (c1 &&& (255 : Int32))), .val (.int (own_L (c1 &&& (255 : Int32)))), .val (.int (7 : Int32)), .val (.int (2 : Int32))]) d2_46 rfl rfl ?_
      refine own_iloadN X5 (pc' := 49) d2_48 rfl rfl ?_
      refine own_iconst X5 (v := (3 : Int32)) (pc' := 50) d2_49 rfl (by decide) ?_
      refine own_icmp_lt X5 (pct := 102) (pc' := 53) d2_50 rfl (by decide) (by decide) (fun hc50_7 => ?_) (fun hc50_7 => ?_)
      · refine own_iload X5 (pc' := 104) d2_102 rfl rfl ?_
        subst hΦ
        exact own_retI X5 d2_104 (by decide) (by decide) (by rw [own_exc, if_neg hc22_3, if_neg hc42_6, own_e2c, if_pos hc50_7]) rfl
      · refine own_iload X5 (pc' := 55) d2_53 rfl rfl ?_
        refine own_iconst X5 (v := (3 : Int32)) (pc' := 56) d2_55 rfl (by decide) ?_
        refine own_icmp_lt X5 (pct := 102) (pc' := 59) d2_56 rfl (by decide) (by decide) (fun hc => absurd hc (by decide)) (fun _ => ?_)
        refine own_aloadN X5 (pc' := 60) d2_59 rfl rfl rfl ?_
        refine own_iloadN X5 (pc' := 61) d2_60 rfl rfl ?_
        refine own_iconst X5 (v := (2 : Int32)) (pc' := 62) d2_61 rfl (by decide) ?_
        refine own_iadd X5 (r := (3 : Int32)) (pc' := 63) d2_62 rfl (by decide) ?_
        refine own_callS X5 (W := 0) (argsL := [(.ref a), (.int (3 : Int32))]) (rest := []) (S' := [(.int (c3 &&& (255 : Int32)))]) (pc' := 66) (rm3 l Z a0 hw n0 a (3 : Int32) h0 X5.size _ A c3 rfl rfl) (hw _ (List.mem_of_getElem? (i := 9) rfl)) (hw _ (List.mem_of_getElem? (i := 10) rfl)) (hw _ (List.mem_of_getElem? (i := 7) rfl)) (hw _ (List.mem_of_getElem? (i := 11) rfl)) (by decide) (by decide) (by decide) rfl rfl (by decide) (by decide) (lenOf pd_0 rfl) rfl (by first | decide | exact Nat.le_of_eq rfl) rfl d2_63 rfl rfl ?_
        intro T8 h8 X8 qq8
        rw [show h8 = h0 from qq8] at X8
        refine own_callS X8 (W := 0) (argsL := [(.int (c3 &&& (255 : Int32)))]) (rest := []) (S' := [(.int (own_ct (c3 &&& (255 : Int32))))]) (pc' := 69) (rm6 l Z a0 hw n0 (c3 &&& (255 : Int32)) h0 X8.size) (hw _ (List.mem_of_getElem? (i := 18) rfl)) (hw _ (List.mem_of_getElem? (i := 19) rfl)) (hw _ (List.mem_of_getElem? (i := 7) rfl)) (hw _ (List.mem_of_getElem? (i := 20) rfl)) (by decide) (by decide) (by decide) rfl rfl (by decide) (by decide) (lenOf pd_3 rfl) rfl (by first | decide | exact Nat.le_of_eq rfl) rfl d2_66 rfl rfl ?_
        intro T9 h9 X9 qq9
        rw [show h9 = h0 from qq9] at X9
        refine own_if_eq X9 (pct := 102) (pc' := 72) d2_69 rfl (by decide) (by decide) (fun hc69_10 => ?_) (fun hc69_10 => ?_)
        · refine own_iload X9 (pc' := 104) d2_102 rfl rfl ?_
          subst hΦ
          exact own_retI X9 d2_104 (by decide) (by decide) (by rw [own_exc, if_neg hc22_3, if_neg hc42_6, own_e2c, if_neg hc50_7, if_pos hc69_10]) rfl
        · refine own_iconst X9 (v := (3 : Int32)) (pc' := 73) d2_72 rfl (by decide) ?_
          refine own_istore X9 (pc' := 75) (Ls' := #[.val (.ref a), .val (.int (1 : Int32)), .val (.int (c1 &&& (255 : Int32))), .val (.int (own_L (c1 &&& (255 : Int32)))), .val (.int (7 : Int32)), .val (.int (3 : Int32))]) d2_73 rfl rfl ?_
          refine own_iloadN X9 (pc' := 76) d2_75 rfl rfl ?_
          refine own_iconst X9 (v := (4 : Int32)) (pc' := 77) d2_76 rfl (by decide) ?_
          refine own_icmp_lt X9 (pct := 102) (pc' := 80) d2_77 rfl (by decide) (by decide) (fun hc77_11 => ?_) (fun hc77_11 => ?_)
          · refine own_iload X9 (pc' := 104) d2_102 rfl rfl ?_
            subst hΦ
            exact own_retI X9 d2_104 (by decide) (by decide) (by rw [own_exc, if_neg hc22_3, if_neg hc42_6, own_e2c, if_neg hc50_7, if_neg hc69_10, own_e3c, if_pos hc77_11]) rfl
          · refine own_iload X9 (pc' := 82) d2_80 rfl rfl ?_
            refine own_iconst X9 (v := (4 : Int32)) (pc' := 83) d2_82 rfl (by decide) ?_
            refine own_icmp_lt X9 (pct := 102) (pc' := 86) d2_83 rfl (by decide) (by decide) (fun hc => absurd hc (by decide)) (fun _ => ?_)
            refine own_aloadN X9 (pc' := 87) d2_86 rfl rfl rfl ?_
            refine own_iloadN X9 (pc' := 88) d2_87 rfl rfl ?_
            refine own_iconst X9 (v := (3 : Int32)) (pc' := 89) d2_88 rfl (by decide) ?_
            refine own_iadd X9 (r := (4 : Int32)) (pc' := 90) d2_89 rfl (by decide) ?_
            refine own_callS X9 (W := 0) (argsL := [(.ref a), (.int (4 : Int32))]) (rest := []) (S' := [(.int (c4 &&& (255 : Int32)))]) (pc' := 93) (rm3 l Z a0 hw n0 a (4 : Int32) h0 X9.size _ A c4 rfl rfl) (hw _ (List.mem_of_getElem? (i := 9) rfl)) (hw _ (List.mem_of_getElem? (i := 10) rfl)) (hw _ (List.mem_of_getElem? (i := 7) rfl)) (hw _ (List.mem_of_getElem? (i := 11) rfl)) (by decide) (by decide) (by decide) rfl rfl (by decide) (by decide) (lenOf pd_0 rfl) rfl (by first | decide | exact Nat.le_of_eq rfl) rfl d2_90 rfl rfl ?_
            intro T12 h12 X12 qq12
            rw [show h12 = h0 from qq12] at X12
            refine own_callS X12 (W := 0) (argsL := [(.int (c4 &&& (255 : Int32)))]) (rest := []) (S' := [(.int (own_ct (c4 &&& (255 : Int32))))]) (pc' := 96) (rm6 l Z a0 hw n0 (c4 &&& (255 : Int32)) h0 X12.size) (hw _ (List.mem_of_getElem? (i := 18) rfl)) (hw _ (List.mem_of_getElem? (i := 19) rfl)) (hw _ (List.mem_of_getElem? (i := 7) rfl)) (hw _ (List.mem_of_getElem? (i := 20) rfl)) (by decide) (by decide) (by decide) rfl rfl (by decide) (by decide) (lenOf pd_3 rfl) rfl (by first | decide | exact Nat.le_of_eq rfl) rfl d2_93 rfl rfl ?_
            intro T13 h13 X13 qq13
            rw [show h13 = h0 from qq13] at X13
            refine own_if_eq X13 (pct := 102) (pc' := 99) d2_96 rfl (by decide) (by decide) (fun hc96_14 => ?_) (fun hc96_14 => ?_)
            · refine own_iload X13 (pc' := 104) d2_102 rfl rfl ?_
              subst hΦ
              exact own_retI X13 d2_104 (by decide) (by decide) (by rw [own_exc, if_neg hc22_3, if_neg hc42_6, own_e2c, if_neg hc50_7, if_neg hc69_10, own_e3c, if_neg hc77_11, if_pos hc96_14]) rfl
            · refine own_iconst X13 (v := (4 : Int32)) (pc' := 100) d2_99 rfl (by decide) ?_
              refine own_istore X13 (pc' := 102) (Ls' := #[.val (.ref a), .val (.int (1 : Int32)), .val (.int (c1 &&& (255 : Int32))), .val (.int (own_L (c1 &&& (255 : Int32)))), .val (.int (7 : Int32)), .val (.int (4 : Int32))]) d2_100 rfl rfl ?_
              refine own_iload X13 (pc' := 104) d2_102 rfl rfl ?_
              subst hΦ
              exact own_retI X13 d2_104 (by decide) (by decide) (by rw [own_exc, if_neg hc22_3, if_neg hc42_6, own_e2c, if_neg hc50_7, if_neg hc69_10, own_e3c, if_neg hc77_11, if_neg hc96_14]) rfl
theorem pn_rm1_2 : plainFor (⟨"com/example/quern/quern/text/TextBytes", "sequenceLength", "([BI)I"⟩ : MethodName) = true := plainFor_of_name (by first | (simp [plainName, overriddenIn]; done) | decide +kernel)
theorem ef_rm1_2 (m : MethodId) (x0 : Addr) (x1 : Int32) : entryFrame m #[(.ref x0), (.int x1)] 9 = mkF m 0 #[.val (.ref x0), .val (.int x1), .unset, .unset, .unset, .unset, .unset, .unset, .unset] [] := by first | (simp [entryFrame, mkF, argsToLocals, Value.category]; done) | rfl
set_option maxRecDepth 65536 in
set_option maxHeartbeats 4000000 in
theorem rm1_2 (l : Launch) (Z : State) (a0 : Array Value) (hw : ∀ d ∈ tables_1, d.before a0 Z = true) (n0 : Nat) (a : Addr) (h0 : Heap) (hn0 : n0 ≤ h0.size) (c0 c1 c2 c3 c4 c5 c6 c7 : Int32) (A : own_A Z h0 a .byte [c0, c1, c2, c3, c4, c5, c6, c7]) :
    own_Met l (⟨"com/example/quern/quern/text/TextBytes", "sequenceLength", "([BI)I"⟩ : MethodName) prog_310_method_5_code 9 (some .int) ({ frames := 0, cells := 0, slots := 0, locals := 0 } : Room) Z n0 #[(.ref a), (.int (2 : Int32))] h0 (some (.int (own_sq (own_L (c2 &&& (255 : Int32))) (own_lo (c2 &&& (255 : Int32))) (own_hi (c2 &&& (255 : Int32))) [(c3 &&& (255 : Int32)), (c4 &&& (255 : Int32)), (c5 &&& (255 : Int32)), (c6 &&& (255 : Int32)), (c7 &&& (255 : Int32))]))) (fun h' => h' = h0) := by
  refine own_met pn_rm1_2 hn0 ?_
  intro p e s m below meth c T X
  refine own_cast (ef_rm1_2 m a (2 : Int32)) ?_
  generalize hΦ : own_Q n0 below s _ _ _ = Φ
  refine own_aloadN X (pc' := 1) d1_0 rfl rfl rfl ?_
  refine own_iloadN X (pc' := 2) d1_1 rfl rfl ?_
  refine own_baload X (v := c2) (pc' := 3) A rfl rfl d1_2 rfl ?_
  refine own_sipush X (v := (255 : Int32)) (pc' := 6) d1_3 rfl (by decide) ?_
  refine own_iand X (r := (c2 &&& (255 : Int32))) (pc' := 7) d1_6 rfl rfl ?_
  refine own_istoreN X (pc' := 8) (Ls' := #[.val (.ref a), .val (.int (2 : Int32)), .val (.int (c2 &&& (255 : Int32))), .unset, .unset, .unset, .unset, .unset, .unset]) d1_7 rfl rfl ?_
  refine own_sipush X (v := (128 : Int32)) (pc' := 11) d1_8 rfl (by decide) ?_
  refine own_istore X (pc' := 13) (Ls' := #[.val (.ref a), .val (.int (2 : Int32)), .val (.int (c2 &&& (255 : Int32))), .unset, .val (.int (128 : Int32)), .unset, .unset, .unset, .unset]) d1_11 rfl rfl ?_
  refine own_sipush X (v := (191 : Int32)) (pc' := 16) d1_13 rfl (by decide) ?_
  refine own_istore X (pc' := 18) (Ls' := #[.val (.ref a), .val (.int (2 : Int32)), .val (.int (c2 &&& (255 : Int32))), .unset, .val (.int (128 : Int32)), .val (.int (191 : Int32)), .unset, .unset, .unset]) d1_16 rfl rfl ?_
  have J143 : ∀ (len sec top : Int32) (_ : len = own_L (c2 &&& (255 : Int32))) (_ : sec = own_lo (c2 &&& (255 : Int32))) (_ : top = own_hi (c2 &&& (255 : Int32))), own_G p e below Φ T (mkF m 143 #[.val (.ref a), .val (.int (2 : Int32)), .val (.int (c2 &&& (255 : Int32))), .val (.int len), .val (.int sec), .val (.int top), .unset, .unset, .unset] []) := by
    intro len sec top j1 j2 j3
    refine own_iconst X (v := (1 : Int32)) (pc' := 144) d1_143 rfl (by decide) ?_
    refine own_istore X (pc' := 146) (Ls' := #[.val (.ref a), .val (.int (2 : Int32)), .val (.int (c2 &&& (255 : Int32))), .val (.int len), .val (.int sec), .val (.int top), .val (.int (1 : Int32)), .unset, .unset]) d1_144 rfl rfl ?_
    refine own_iload X (pc' := 148) d1_146 rfl rfl ?_
    refine own_iloadN X (pc' := 149) d1_148 rfl rfl ?_
    refine own_icmp_ge X (pct := 238) (pc' := 152) d1_149 rfl (by decide) (by decide) (fun hc149_1 => ?_) (fun hc149_1 => ?_)
    · refine own_iload X (pc' := 240) d1_238 rfl rfl ?_
      subst hΦ
      exact own_retI X d1_240 (by decide) (by decide) (by rw [← j1, ← j2, ← j3, own_sqc, if_neg hc149_1]) rfl
    · refine own_iloadN X (pc' := 153) d1_152 rfl rfl ?_
      refine own_iload X (pc' := 155) d1_153 rfl rfl ?_
      refine own_iadd X (r := (3 : Int32)) (pc' := 156) d1_155 rfl (by decide) ?_
      refine own_aloadN X (pc' := 157) d1_156 rfl rfl rfl ?_
      refine own_len X (v := (8 : Int32)) (pc' := 158) A (by first | rfl | decide) d1_157 rfl ?_
      refine own_icmp_ge X (pct := 238) (pc' := 161) d1_158 rfl (by decide) (by decide) (fun hc => absurd hc (by decide)) (fun _ => ?_)
      refine own_aloadN X (pc' := 162) d1_161 rfl rfl rfl ?_
      refine own_iloadN X (pc' := 163) d1_162 rfl rfl ?_
      refine own_iload X (pc' := 165) d1_163 rfl rfl ?_
      refine own_iadd X (r := (3 : Int32)) (pc' := 166) d1_165 rfl (by decide) ?_
      refine own_baload X (v := c3) (pc' := 167) A rfl rfl d1_166 rfl ?_
      refine own_sipush X (v := (255 : Int32)) (pc' := 170) d1_167 rfl (by decide) ?_
      refine own_iand X (r := (c3 &&& (255 : Int32))) (pc' := 171) d1_170 rfl rfl ?_
      refine own_istore X (pc' := 173) (Ls' := #[.val (.ref a), .val (.int (2 : Int32)), .val (.int (c2 &&& (255 : Int32))), .val (.int len), .val (.int sec), .val (.int top), .val (.int (1 : Int32)), .val (.int (c3 &&& (255 : Int32))), .unset]) d1_171 rfl rfl ?_
      refine own_iload X (pc' := 175) d1_173 rfl rfl ?_
      refine own_iconst X (v := (1 : Int32)) (pc' := 176) d1_175 rfl (by decide) ?_
      refine own_icmp_ne X (pct := 201) (pc' := 179) d1_176 rfl (by decide) (by decide) (fun hc => absurd hc (by decide)) (fun _ => ?_)
      refine own_iload X (pc' := 181) d1_179 rfl rfl ?_
      refine own_iload X (pc' := 183) d1_181 rfl rfl ?_
      refine own_icmp_lt X (pct := 197) (pc' := 186) d1_183 rfl (by decide) (by decide) (fun hc183_2 => ?_) (fun hc183_2 => ?_)
      · refine own_iconst X (v := (0 : Int32)) (pc' := 198) d1_197 rfl (by decide) ?_
        refine own_goto X (pc' := 222) d1_198 (by decide) (by decide) ?_
        refine own_istore X (pc' := 224) (Ls' := #[.val (.ref a), .val (.int (2 : Int32)), .val (.int (c2 &&& (255 : Int32))), .val (.int len), .val (.int sec), .val (.int top), .val (.int (1 : Int32)), .val (.int (c3 &&& (255 : Int32))), .val (.int (0 : Int32))]) d1_222 rfl rfl ?_
        refine own_iload X (pc' := 226) d1_224 rfl rfl ?_
        refine own_if_ne X (pct := 232) (pc' := 229) d1_226 rfl (by decide) (by decide) (fun hc => absurd hc (by decide)) (fun _ => ?_)
        refine own_goto X (pc' := 238) d1_229 (by decide) (by decide) ?_
        refine own_iload X (pc' := 240) d1_238 rfl rfl ?_
        subst hΦ
        exact own_retI X d1_240 (by decide) (by decide) (by rw [← j1, ← j2, ← j3, own_sqc, if_pos hc149_1, if_pos hc183_2]) rfl
      · refine own_iload X (pc' := 188) d1_186 rfl rfl ?_
        refine own_iload X (pc' := 190) d1_188 rfl rfl ?_
        refine own_icmp_gt X (pct := 197) (pc' := 193) d1_190 rfl (by decide) (by decide) (fun hc190_3 => ?_) (fun hc190_3 => ?_)
        · refine own_iconst X (v := (0 : Int32)) (pc' := 198) d1_197 rfl (by decide) ?_
          refine own_goto X (pc' := 222) d1_198 (by decide) (by decide) ?_
          refine own_istore X (pc' := 224) (Ls' := #[.val (.ref a), .val (.int (2 : Int32)), .val (.int (c2 &&& (255 : Int32))), .val (.int len), .val (.int sec), .val (.int top), .val (.int (1 : Int32)), .val (.int (c3 &&& (255 : Int32))), .val (.int (0 : Int32))]) d1_222 rfl rfl ?_
          refine own_iload X (pc' := 226) d1_224 rfl rfl ?_
          refine own_if_ne X (pct := 232) (pc' := 229) d1_226 rfl (by decide) (by decide) (fun hc => absurd hc (by decide)) (fun _ => ?_)
          refine own_goto X (pc' := 238) d1_229 (by decide) (by decide) ?_
          refine own_iload X (pc' := 240) d1_238 rfl rfl ?_
          subst hΦ
          exact own_retI X d1_240 (by decide) (by decide) (by rw [← j1, ← j2, ← j3, own_sqc, if_pos hc149_1, if_neg hc183_2, if_pos hc190_3]) rfl
        · refine own_iconst X (v := (1 : Int32)) (pc' := 194) d1_193 rfl (by decide) ?_
          refine own_goto X (pc' := 222) d1_194 (by decide) (by decide) ?_
          refine own_istore X (pc' := 224) (Ls' := #[.val (.ref a), .val (.int (2 : Int32)), .val (.int (c2 &&& (255 : Int32))), .val (.int len), .val (.int sec), .val (.int top), .val (.int (1 : Int32)), .val (.int (c3 &&& (255 : Int32))), .val (.int (1 : Int32))]) d1_222 rfl rfl ?_
          refine own_iload X (pc' := 226) d1_224 rfl rfl ?_
          refine own_if_ne X (pct := 232) (pc' := 229) d1_226 rfl (by decide) (by decide) (fun _ => ?_) (fun hc => absurd hc (by decide))
          refine own_iinc X (pc' := 235) (Ls' := #[.val (.ref a), .val (.int (2 : Int32)), .val (.int (c2 &&& (255 : Int32))), .val (.int len), .val (.int sec), .val (.int top), .val (.int (2 : Int32)), .val (.int (c3 &&& (255 : Int32))), .val (.int (1 : Int32))]) (w := (2 : Int32)) d1_232 rfl rfl (by decide) rfl ?_
          refine own_goto X (pc' := 146) d1_235 (by decide) (by decide) ?_
          refine own_iload X (pc' := 148) d1_146 rfl rfl ?_
          refine own_iloadN X (pc' := 149) d1_148 rfl rfl ?_
          refine own_icmp_ge X (pct := 238) (pc' := 152) d1_149 rfl (by decide) (by decide) (fun hc149_4 => ?_) (fun hc149_4 => ?_)
          · refine own_iload X (pc' := 240) d1_238 rfl rfl ?_
            subst hΦ
            exact own_retI X d1_240 (by decide) (by decide) (by rw [← j1, ← j2, ← j3, own_sqc, if_pos hc149_1, if_neg hc183_2, if_neg hc190_3, own_l2c, if_neg hc149_4]) rfl
          · refine own_iloadN X (pc' := 153) d1_152 rfl rfl ?_
            refine own_iload X (pc' := 155) d1_153 rfl rfl ?_
            refine own_iadd X (r := (4 : Int32)) (pc' := 156) d1_155 rfl (by decide) ?_
            refine own_aloadN X (pc' := 157) d1_156 rfl rfl rfl ?_
            refine own_len X (v := (8 : Int32)) (pc' := 158) A (by first | rfl | decide) d1_157 rfl ?_
            refine own_icmp_ge X (pct := 238) (pc' := 161) d1_158 rfl (by decide) (by decide) (fun hc => absurd hc (by decide)) (fun _ => ?_)
            refine own_aloadN X (pc' := 162) d1_161 rfl rfl rfl ?_
            refine own_iloadN X (pc' := 163) d1_162 rfl rfl ?_
            refine own_iload X (pc' := 165) d1_163 rfl rfl ?_
            refine own_iadd X (r := (4 : Int32)) (pc' := 166) d1_165 rfl (by decide) ?_
            refine own_baload X (v := c4) (pc' := 167) A rfl rfl d1_166 rfl ?_
            refine own_sipush X (v := (255 : Int32)) (pc' := 170) d1_167 rfl (by decide) ?_
            refine own_iand X (r := (c4 &&& (255 : Int32))) (pc' := 171) d1_170 rfl rfl ?_
            refine own_istore X (pc' := 173) (Ls' := #[.val (.ref a), .val (.int (2 : Int32)), .val (.int (c2 &&& (255 : Int32))), .val (.int len), .val (.int sec), .val (.int top), .val (.int (2 : Int32)), .val (.int (c4 &&& (255 : Int32))), .val (.int (1 : Int32))]) d1_171 rfl rfl ?_
            refine own_iload X (pc' := 175) d1_173 rfl rfl ?_
            refine own_iconst X (v := (1 : Int32)) (pc' := 176) d1_175 rfl (by decide) ?_
            refine own_icmp_ne X (pct := 201) (pc' := 179) d1_176 rfl (by decide) (by decide) (fun _ => ?_) (fun hc => absurd hc (by decide))
            refine own_iload X (pc' := 203) d1_201 rfl rfl ?_
            refine own_sipush X (v := (128 : Int32)) (pc' := 206) d1_203 rfl (by decide) ?_
            refine own_icmp_lt X (pct := 221) (pc' := 209) d1_206 rfl (by decide) (by decide) (fun hc206_5 => ?_) (fun hc206_5 => ?_)
            · refine own_iconst X (v := (0 : Int32)) (pc' := 222) d1_221 rfl (by decide) ?_
              refine own_istore X (pc' := 224) (Ls' := #[.val (.ref a), .val (.int (2 : Int32)), .val (.int (c2 &&& (255 : Int32))), .val (.int len), .val (.int sec), .val (.int top), .val (.int (2 : Int32)), .val (.int (c4 &&& (255 : Int32))), .val (.int (0 : Int32))]) d1_222 rfl rfl ?_
              refine own_iload X (pc' := 226) d1_224 rfl rfl ?_
              refine own_if_ne X (pct := 232) (pc' := 229) d1_226 rfl (by decide) (by decide) (fun hc => absurd hc (by decide)) (fun _ => ?_)
              refine own_goto X (pc' := 238) d1_229 (by decide) (by decide) ?_
              refine own_iload X (pc' := 240) d1_238 rfl rfl ?_
              subst hΦ
              exact own_retI X d1_240 (by decide) (by decide) (by rw [← j1, ← j2, ← j3, own_sqc, if_pos hc149_1, if_neg hc183_2, if_neg hc190_3, own_l2c, if_pos hc149_4, if_pos hc206_5]) rfl
            · refine own_iload X (pc' := 211) d1_209 rfl rfl ?_
              refine own_sipush X (v := (191 : Int32)) (pc' := 214) d1_211 rfl (by decide) ?_
              refine own_icmp_gt X (pct := 221) (pc' := 217) d1_214 rfl (by decide) (by decide) (fun hc214_6 => ?_) (fun hc214_6 => ?_)
              · refine own_iconst X (v := (0 : Int32)) (pc' := 222) d1_221 rfl (by decide) ?_
                refine own_istore X (pc' := 224) (Ls' := #[.val (.ref a), .val (.int (2 : Int32)), .val (.int (c2 &&& (255 : Int32))), .val (.int len), .val (.int sec), .val (.int top), .val (.int (2 : Int32)), .val (.int (c4 &&& (255 : Int32))), .val (.int (0 : Int32))]) d1_222 rfl rfl ?_
                refine own_iload X (pc' := 226) d1_224 rfl rfl ?_
                refine own_if_ne X (pct := 232) (pc' := 229) d1_226 rfl (by decide) (by decide) (fun hc => absurd hc (by decide)) (fun _ => ?_)
                refine own_goto X (pc' := 238) d1_229 (by decide) (by decide) ?_
                refine own_iload X (pc' := 240) d1_238 rfl rfl ?_
                subst hΦ
                exact own_retI X d1_240 (by decide) (by decide) (by rw [← j1, ← j2, ← j3, own_sqc, if_pos hc149_1, if_neg hc183_2, if_neg hc190_3, own_l2c, if_pos hc149_4, if_neg hc206_5, if_pos hc214_6]) rfl
              · refine own_iconst X (v := (1 : Int32)) (pc' := 218) d1_217 rfl (by decide) ?_
                refine own_goto X (pc' := 222) d1_218 (by decide) (by decide) ?_
                refine own_istore X (pc' := 224) (Ls' := #[.val (.ref a), .val (.int (2 : Int32)), .val (.int (c2 &&& (255 : Int32))), .val (.int len), .val (.int sec), .val (.int top), .val (.int (2 : Int32)), .val (.int (c4 &&& (255 : Int32))), .val (.int (1 : Int32))]) d1_222 rfl rfl ?_
                refine own_iload X (pc' := 226) d1_224 rfl rfl ?_
                refine own_if_ne X (pct := 232) (pc' := 229) d1_226 rfl (by decide) (by decide) (fun _ => ?_) (fun hc => absurd hc (by decide))
                refine own_iinc X (pc' := 235) (Ls' := #[.val (.ref a), .val (.int (2 : Int32)), .val (.int (c2 &&& (255 : Int32))), .val (.int len), .val (.int sec), .val (.int top), .val (.int (3 : Int32)), .val (.int (c4 &&& (255 : Int32))), .val (.int (1 : Int32))]) (w := (3 : Int32)) d1_232 rfl rfl (by decide) rfl ?_
                refine own_goto X (pc' := 146) d1_235 (by decide) (by decide) ?_
                refine own_iload X (pc' := 148) d1_146 rfl rfl ?_
                refine own_iloadN X (pc' := 149) d1_148 rfl rfl ?_
                refine own_icmp_ge X (pct := 238) (pc' := 152) d1_149 rfl (by decide) (by decide) (fun hc149_7 => ?_) (fun hc149_7 => ?_)
                · refine own_iload X (pc' := 240) d1_238 rfl rfl ?_
                  subst hΦ
                  exact own_retI X d1_240 (by decide) (by decide) (by rw [← j1, ← j2, ← j3, own_sqc, if_pos hc149_1, if_neg hc183_2, if_neg hc190_3, own_l2c, if_pos hc149_4, if_neg hc206_5, if_neg hc214_6, own_l3c, if_neg hc149_7]) rfl
                · refine own_iloadN X (pc' := 153) d1_152 rfl rfl ?_
                  refine own_iload X (pc' := 155) d1_153 rfl rfl ?_
                  refine own_iadd X (r := (5 : Int32)) (pc' := 156) d1_155 rfl (by decide) ?_
                  refine own_aloadN X (pc' := 157) d1_156 rfl rfl rfl ?_
                  refine own_len X (v := (8 : Int32)) (pc' := 158) A (by first | rfl | decide) d1_157 rfl ?_
                  refine own_icmp_ge X (pct := 238) (pc' := 161) d1_158 rfl (by decide) (by decide) (fun hc => absurd hc (by decide)) (fun _ => ?_)
                  refine own_aloadN X (pc' := 162) d1_161 rfl rfl rfl ?_
                  refine own_iloadN X (pc' := 163) d1_162 rfl rfl ?_
                  refine own_iload X (pc' := 165) d1_163 rfl rfl ?_
                  refine own_iadd X (r := (5 : Int32)) (pc' := 166) d1_165 rfl (by decide) ?_
                  refine own_baload X (v := c5) (pc' := 167) A rfl rfl d1_166 rfl ?_
                  refine own_sipush X (v := (255 : Int32)) (pc' := 170) d1_167 rfl (by decide) ?_
                  refine own_iand X (r := (c5 &&& (255 : Int32))) (pc' := 171) d1_170 rfl rfl ?_
                  refine own_istore X (pc' := 173) (Ls' := #[.val (.ref a), .val (.int (2 : Int32)), .val (.int (c2 &&& (255 : Int32))), .val (.int len), .val (.int sec), .val (.int top), .val (.int (3 : Int32)), .val (.int (c5 &&& (255 : Int32))), .val (.int (1 : Int32))]) d1_171 rfl rfl ?_
                  refine own_iload X (pc' := 175) d1_173 rfl rfl ?_
                  refine own_iconst X (v := (1 : Int32)) (pc' := 176) d1_175 rfl (by decide) ?_
                  refine own_icmp_ne X (pct := 201) (pc' := 179) d1_176 rfl (by decide) (by decide) (fun _ => ?_) (fun hc => absurd hc (by decide))
                  refine own_iload X (pc' := 203) d1_201 rfl rfl ?_
                  refine own_sipush X (v := (128 : Int32)) (pc' := 206) d1_203 rfl (by decide) ?_
                  refine own_icmp_lt X (pct := 221) (pc' := 209) d1_206 rfl (by decide) (by decide) (fun hc206_8 => ?_) (fun hc206_8 => ?_)
                  · refine own_iconst X (v := (0 : Int32)) (pc' := 222) d1_221 rfl (by decide) ?_
                    refine own_istore X (pc' := 224) (Ls' := #[.val (.ref a), .val (.int (2 : Int32)), .val (.int (c2 &&& (255 : Int32))), .val (.int len), .val (.int sec), .val (.int top), .val (.int (3 : Int32)), .val (.int (c5 &&& (255 : Int32))), .val (.int (0 : Int32))]) d1_222 rfl rfl ?_
                    refine own_iload X (pc' := 226) d1_224 rfl rfl ?_
                    refine own_if_ne X (pct := 232) (pc' := 229) d1_226 rfl (by decide) (by decide) (fun hc => absurd hc (by decide)) (fun _ => ?_)
                    refine own_goto X (pc' := 238) d1_229 (by decide) (by decide) ?_
                    refine own_iload X (pc' := 240) d1_238 rfl rfl ?_
                    subst hΦ
                    exact own_retI X d1_240 (by decide) (by decide) (by rw [← j1, ← j2, ← j3, own_sqc, if_pos hc149_1, if_neg hc183_2, if_neg hc190_3, own_l2c, if_pos hc149_4, if_neg hc206_5, if_neg hc214_6, own_l3c, if_pos hc149_7, if_pos hc206_8]) rfl
                  · refine own_iload X (pc' := 211) d1_209 rfl rfl ?_
                    refine own_sipush X (v := (191 : Int32)) (pc' := 214) d1_211 rfl (by decide) ?_
                    refine own_icmp_gt X (pct := 221) (pc' := 217) d1_214 rfl (by decide) (by decide) (fun hc214_9 => ?_) (fun hc214_9 => ?_)
                    · refine own_iconst X (v := (0 : Int32)) (pc' := 222) d1_221 rfl (by decide) ?_
                      refine own_istore X (pc' := 224) (Ls' := #[.val (.ref a), .val (.int (2 : Int32)), .val (.int (c2 &&& (255 : Int32))), .val (.int len), .val (.int sec), .val (.int top), .val (.int (3 : Int32)), .val (.int (c5 &&& (255 : Int32))), .val (.int (0 : Int32))]) d1_222 rfl rfl ?_
                      refine own_iload X (pc' := 226) d1_224 rfl rfl ?_
                      refine own_if_ne X (pct := 232) (pc' := 229) d1_226 rfl (by decide) (by decide) (fun hc => absurd hc (by decide)) (fun _ => ?_)
                      refine own_goto X (pc' := 238) d1_229 (by decide) (by decide) ?_
                      refine own_iload X (pc' := 240) d1_238 rfl rfl ?_
                      subst hΦ
                      exact own_retI X d1_240 (by decide) (by decide) (by rw [← j1, ← j2, ← j3, own_sqc, if_pos hc149_1, if_neg hc183_2, if_neg hc190_3, own_l2c, if_pos hc149_4, if_neg hc206_5, if_neg hc214_6, own_l3c, if_pos hc149_7, if_neg hc206_8, if_pos hc214_9]) rfl
                    · refine own_iconst X (v := (1 : Int32)) (pc' := 218) d1_217 rfl (by decide) ?_
                      refine own_goto X (pc' := 222) d1_218 (by decide) (by decide) ?_
                      refine own_istore X (pc' := 224) (Ls' := #[.val (.ref a), .val (.int (2 : Int32)), .val (.int (c2 &&& (255 : Int32))), .val (.int len), .val (.int sec), .val (.int top), .val (.int (3 : Int32)), .val (.int (c5 &&& (255 : Int32))), .val (.int (1 : Int32))]) d1_222 rfl rfl ?_
                      refine own_iload X (pc' := 226) d1_224 rfl rfl ?_
                      refine own_if_ne X (pct := 232) (pc' := 229) d1_226 rfl (by decide) (by decide) (fun _ => ?_) (fun hc => absurd hc (by decide))
                      refine own_iinc X (pc' := 235) (Ls' := #[.val (.ref a), .val (.int (2 : Int32)), .val (.int (c2 &&& (255 : Int32))), .val (.int len), .val (.int sec), .val (.int top), .val (.int (4 : Int32)), .val (.int (c5 &&& (255 : Int32))), .val (.int (1 : Int32))]) (w := (4 : Int32)) d1_232 rfl rfl (by decide) rfl ?_
                      refine own_goto X (pc' := 146) d1_235 (by decide) (by decide) ?_
                      refine own_iload X (pc' := 148) d1_146 rfl rfl ?_
                      refine own_iloadN X (pc' := 149) d1_148 rfl rfl ?_
                      refine own_icmp_ge X (pct := 238) (pc' := 152) d1_149 rfl (by decide) (by decide) (fun _ => ?_) (fun hc => absurd hc (by rw [j1]; exact own_L4 _))
                      refine own_iload X (pc' := 240) d1_238 rfl rfl ?_
                      subst hΦ
                      exact own_retI X d1_240 (by decide) (by decide) (by rw [← j1, ← j2, ← j3, own_sqc, if_pos hc149_1, if_neg hc183_2, if_neg hc190_3, own_l2c, if_pos hc149_4, if_neg hc206_5, if_neg hc214_6, own_l3c, if_pos hc149_7, if_neg hc206_8, if_neg hc214_9]) rfl
  refine own_iloadN X (pc' := 19) d1_18 rfl rfl ?_
  refine own_sipush X (v := (128 : Int32)) (pc' := 22) d1_19 rfl (by decide) ?_
  refine own_icmp_ge X (pct := 30) (pc' := 25) d1_22 rfl (by decide) (by decide) (fun hc22_10 => ?_) (fun hc22_10 => ?_)
  · refine own_iloadN X (pc' := 31) d1_30 rfl rfl ?_
    refine own_sipush X (v := (194 : Int32)) (pc' := 34) d1_31 rfl (by decide) ?_
    refine own_icmp_lt X (pct := 49) (pc' := 37) d1_34 rfl (by decide) (by decide) (fun hc34_11 => ?_) (fun hc34_11 => ?_)
    · refine own_iloadN X (pc' := 50) d1_49 rfl rfl ?_
      refine own_sipush X (v := (224 : Int32)) (pc' := 53) d1_50 rfl (by decide) ?_
      refine own_icmp_lt X (pct := 86) (pc' := 56) d1_53 rfl (by decide) (by decide) (fun _ => ?_) (fun hc => absurd hc (by simp only [Int32.lt_iff_toInt_lt, ← Int32.toInt_inj, Int32.reduceToInt] at hc22_10 hc34_11 ⊢; omega))
      refine own_iloadN X (pc' := 87) d1_86 rfl rfl ?_
      refine own_sipush X (v := (240 : Int32)) (pc' := 90) d1_87 rfl (by decide) ?_
      refine own_icmp_lt X (pct := 141) (pc' := 93) d1_90 rfl (by decide) (by decide) (fun _ => ?_) (fun hc => absurd hc (by simp only [Int32.lt_iff_toInt_lt, ← Int32.toInt_inj, Int32.reduceToInt] at hc22_10 hc34_11 ⊢; omega))
      refine own_iconst X (v := (1 : Int32)) (pc' := 142) d1_141 rfl (by decide) ?_
      refine own_istoreN X (pc' := 143) (Ls' := #[.val (.ref a), .val (.int (2 : Int32)), .val (.int (c2 &&& (255 : Int32))), .val (.int (1 : Int32)), .val (.int (128 : Int32)), .val (.int (191 : Int32)), .unset, .unset, .unset]) d1_142 rfl rfl ?_
      exact J143 _ _ _ (by rw [Int32.lt_iff_toInt_lt] at hc22_10 hc34_11; simp only [Int32.reduceToInt] at hc22_10 hc34_11; unfold own_L; (repeat' split); all_goals first | rfl | omega) (by rw [Int32.lt_iff_toInt_lt] at hc22_10 hc34_11; simp only [Int32.reduceToInt] at hc22_10 hc34_11; unfold own_lo; (repeat' split); all_goals first | rfl | omega) (by rw [Int32.lt_iff_toInt_lt] at hc22_10 hc34_11; simp only [Int32.reduceToInt] at hc22_10 hc34_11; unfold own_hi; (repeat' split); all_goals first | rfl | omega)
    · refine own_iloadN X (pc' := 38) d1_37 rfl rfl ?_
      refine own_sipush X (v := (223 : Int32)) (pc' := 41) d1_38 rfl (by decide) ?_
      refine own_icmp_gt X (pct := 49) (pc' := 44) d1_41 rfl (by decide) (by decide) (fun hc41_12 => ?_) (fun hc41_12 => ?_)
      · refine own_iloadN X (pc' := 50) d1_49 rfl rfl ?_
        refine own_sipush X (v := (224 : Int32)) (pc' := 53) d1_50 rfl (by decide) ?_
        refine own_icmp_lt X (pct := 86) (pc' := 56) d1_53 rfl (by decide) (by decide) (fun hc => absurd hc (by simp only [Int32.lt_iff_toInt_lt, ← Int32.toInt_inj, Int32.reduceToInt] at hc22_10 hc34_11 hc41_12 ⊢; omega)) (fun _ => ?_)
        refine own_iloadN X (pc' := 57) d1_56 rfl rfl ?_
        refine own_sipush X (v := (239 : Int32)) (pc' := 60) d1_57 rfl (by decide) ?_
        refine own_icmp_gt X (pct := 86) (pc' := 63) d1_60 rfl (by decide) (by decide) (fun hc60_13 => ?_) (fun hc60_13 => ?_)
        · refine own_iloadN X (pc' := 87) d1_86 rfl rfl ?_
          refine own_sipush X (v := (240 : Int32)) (pc' := 90) d1_87 rfl (by decide) ?_
          refine own_icmp_lt X (pct := 141) (pc' := 93) d1_90 rfl (by decide) (by decide) (fun hc => absurd hc (by simp only [Int32.lt_iff_toInt_lt, ← Int32.toInt_inj, Int32.reduceToInt] at hc22_10 hc34_11 hc41_12 hc60_13 ⊢; omega)) (fun _ => ?_)
          refine own_iloadN X (pc' := 94) d1_93 rfl rfl ?_
          refine own_sipush X (v := (244 : Int32)) (pc' := 97) d1_94 rfl (by decide) ?_
          refine own_icmp_gt X (pct := 141) (pc' := 100) d1_97 rfl (by decide) (by decide) (fun hc97_14 => ?_) (fun hc97_14 => ?_)
          · refine own_iconst X (v := (1 : Int32)) (pc' := 142) d1_141 rfl (by decide) ?_
            refine own_istoreN X (pc' := 143) (Ls' := #[.val (.ref a), .val (.int (2 : Int32)), .val (.int (c2 &&& (255 : Int32))), .val (.int (1 : Int32)), .val (.int (128 : Int32)), .val (.int (191 : Int32)), .unset, .unset, .unset]) d1_142 rfl rfl ?_
            exact J143 _ _ _ (by rw [Int32.lt_iff_toInt_lt] at hc22_10 hc34_11 hc41_12 hc60_13 hc97_14; simp only [Int32.reduceToInt] at hc22_10 hc34_11 hc41_12 hc60_13 hc97_14; unfold own_L; (repeat' split); all_goals first | rfl | omega) (by rw [Int32.lt_iff_toInt_lt] at hc22_10 hc34_11 hc41_12 hc60_13 hc97_14; simp only [Int32.reduceToInt] at hc22_10 hc34_11 hc41_12 hc60_13 hc97_14; unfold own_lo; (repeat' split); all_goals first | rfl | omega) (by rw [Int32.lt_iff_toInt_lt] at hc22_10 hc34_11 hc41_12 hc60_13 hc97_14; simp only [Int32.reduceToInt] at hc22_10 hc34_11 hc41_12 hc60_13 hc97_14; unfold own_hi; (repeat' split); all_goals first | rfl | omega)
          · refine own_iconst X (v := (4 : Int32)) (pc' := 101) d1_100 rfl (by decide) ?_
            refine own_istoreN X (pc' := 102) (Ls' := #[.val (.ref a), .val (.int (2 : Int32)), .val (.int (c2 &&& (255 : Int32))), .val (.int (4 : Int32)), .val (.int (128 : Int32)), .val (.int (191 : Int32)), .unset, .unset, .unset]) d1_101 rfl rfl ?_
            refine own_iloadN X (pc' := 103) d1_102 rfl rfl ?_
            refine own_sipush X (v := (240 : Int32)) (pc' := 106) d1_103 rfl (by decide) ?_
            refine own_icmp_ne X (pct := 115) (pc' := 109) d1_106 rfl (by decide) (by decide) (fun hc106_15 => ?_) (fun hc106_15 => ?_)
            · refine own_sipush X (v := (128 : Int32)) (pc' := 118) d1_115 rfl (by decide) ?_
              refine own_istore X (pc' := 120) (Ls' := #[.val (.ref a), .val (.int (2 : Int32)), .val (.int (c2 &&& (255 : Int32))), .val (.int (4 : Int32)), .val (.int (128 : Int32)), .val (.int (191 : Int32)), .unset, .unset, .unset]) d1_118 rfl rfl ?_
              refine own_iloadN X (pc' := 121) d1_120 rfl rfl ?_
              refine own_sipush X (v := (244 : Int32)) (pc' := 124) d1_121 rfl (by decide) ?_
              refine own_icmp_ne X (pct := 133) (pc' := 127) d1_124 rfl (by decide) (by decide) (fun hc124_16 => ?_) (fun hc124_16 => ?_)
              · refine own_sipush X (v := (191 : Int32)) (pc' := 136) d1_133 rfl (by decide) ?_
                refine own_istore X (pc' := 138) (Ls' := #[.val (.ref a), .val (.int (2 : Int32)), .val (.int (c2 &&& (255 : Int32))), .val (.int (4 : Int32)), .val (.int (128 : Int32)), .val (.int (191 : Int32)), .unset, .unset, .unset]) d1_136 rfl rfl ?_
                refine own_goto X (pc' := 143) d1_138 (by decide) (by decide) ?_
                exact J143 _ _ _ (by rw [Int32.lt_iff_toInt_lt] at hc22_10 hc34_11 hc41_12 hc60_13 hc97_14; rw [← Int32.toInt_inj] at hc106_15 hc124_16; simp only [Int32.reduceToInt] at hc22_10 hc34_11 hc41_12 hc60_13 hc97_14 hc106_15 hc124_16; unfold own_L; (repeat' split); all_goals first | rfl | omega) (by rw [Int32.lt_iff_toInt_lt] at hc22_10 hc34_11 hc41_12 hc60_13 hc97_14; rw [← Int32.toInt_inj] at hc106_15 hc124_16; simp only [Int32.reduceToInt] at hc22_10 hc34_11 hc41_12 hc60_13 hc97_14 hc106_15 hc124_16; unfold own_lo; (repeat' split); all_goals first | rfl | omega) (by rw [Int32.lt_iff_toInt_lt] at hc22_10 hc34_11 hc41_12 hc60_13 hc97_14; rw [← Int32.toInt_inj] at hc106_15 hc124_16; simp only [Int32.reduceToInt] at hc22_10 hc34_11 hc41_12 hc60_13 hc97_14 hc106_15 hc124_16; unfold own_hi; (repeat' split); all_goals first | rfl | omega)
              · refine own_sipush X (v := (143 : Int32)) (pc' := 130) d1_127 rfl (by decide) ?_
                refine own_goto X (pc' := 136) d1_130 (by decide) (by decide) ?_
                refine own_istore X (pc' := 138) (Ls' := #[.val (.ref a), .val (.int (2 : Int32)), .val (.int (c2 &&& (255 : Int32))), .val (.int (4 : Int32)), .val (.int (128 : Int32)), .val (.int (143 : Int32)), .unset, .unset, .unset]) d1_136 rfl rfl ?_
                refine own_goto X (pc' := 143) d1_138 (by decide) (by decide) ?_
                exact J143 _ _ _ (by rw [Int32.lt_iff_toInt_lt] at hc22_10 hc34_11 hc41_12 hc60_13 hc97_14; rw [← Int32.toInt_inj] at hc106_15 hc124_16; simp only [Int32.reduceToInt] at hc22_10 hc34_11 hc41_12 hc60_13 hc97_14 hc106_15 hc124_16; unfold own_L; (repeat' split); all_goals first | rfl | omega) (by rw [Int32.lt_iff_toInt_lt] at hc22_10 hc34_11 hc41_12 hc60_13 hc97_14; rw [← Int32.toInt_inj] at hc106_15 hc124_16; simp only [Int32.reduceToInt] at hc22_10 hc34_11 hc41_12 hc60_13 hc97_14 hc106_15 hc124_16; unfold own_lo; (repeat' split); all_goals first | rfl | omega) (by rw [Int32.lt_iff_toInt_lt] at hc22_10 hc34_11 hc41_12 hc60_13 hc97_14; rw [← Int32.toInt_inj] at hc106_15 hc124_16; simp only [Int32.reduceToInt] at hc22_10 hc34_11 hc41_12 hc60_13 hc97_14 hc106_15 hc124_16; unfold own_hi; (repeat' split); all_goals first | rfl | omega)
            · refine own_sipush X (v := (144 : Int32)) (pc' := 112) d1_109 rfl (by decide) ?_
              refine own_goto X (pc' := 118) d1_112 (by decide) (by decide) ?_
              refine own_istore X (pc' := 120) (Ls' := #[.val (.ref a), .val (.int (2 : Int32)), .val (.int (c2 &&& (255 : Int32))), .val (.int (4 : Int32)), .val (.int (144 : Int32)), .val (.int (191 : Int32)), .unset, .unset, .unset]) d1_118 rfl rfl ?_
              refine own_iloadN X (pc' := 121) d1_120 rfl rfl ?_
              refine own_sipush X (v := (244 : Int32)) (pc' := 124) d1_121 rfl (by decide) ?_
              refine own_icmp_ne X (pct := 133) (pc' := 127) d1_124 rfl (by decide) (by decide) (fun _ => ?_) (fun hc => absurd hc (by simp only [Int32.lt_iff_toInt_lt, ← Int32.toInt_inj, Int32.reduceToInt] at hc22_10 hc34_11 hc41_12 hc60_13 hc97_14 hc106_15 ⊢; omega))
              refine own_sipush X (v := (191 : Int32)) (pc' := 136) d1_133 rfl (by decide) ?_
              refine own_istore X (pc' := 138) (Ls' := #[.val (.ref a), .val (.int (2 : Int32)), .val (.int (c2 &&& (255 : Int32))), .val (.int (4 : Int32)), .val (.int (144 : Int32)), .val (.int (191 : Int32)), .unset, .unset, .unset]) d1_136 rfl rfl ?_
              refine own_goto X (pc' := 143) d1_138 (by decide) (by decide) ?_
              exact J143 _ _ _ (by rw [Int32.lt_iff_toInt_lt] at hc22_10 hc34_11 hc41_12 hc60_13 hc97_14; rw [← Int32.toInt_inj] at hc106_15; simp only [Int32.reduceToInt] at hc22_10 hc34_11 hc41_12 hc60_13 hc97_14 hc106_15; unfold own_L; (repeat' split); all_goals first | rfl | omega) (by rw [Int32.lt_iff_toInt_lt] at hc22_10 hc34_11 hc41_12 hc60_13 hc97_14; rw [← Int32.toInt_inj] at hc106_15; simp only [Int32.reduceToInt] at hc22_10 hc34_11 hc41_12 hc60_13 hc97_14 hc106_15; unfold own_lo; (repeat' split); all_goals first | rfl | omega) (by rw [Int32.lt_iff_toInt_lt] at hc22_10 hc34_11 hc41_12 hc60_13 hc97_14; rw [← Int32.toInt_inj] at hc106_15; simp only [Int32.reduceToInt] at hc22_10 hc34_11 hc41_12 hc60_13 hc97_14 hc106_15; unfold own_hi; (repeat' split); all_goals first | rfl | omega)
        · refine own_iconst X (v := (3 : Int32)) (pc' := 64) d1_63 rfl (by decide) ?_
          refine own_istoreN X (pc' := 65) (Ls' := #[.val (.ref a), .val (.int (2 : Int32)), .val (.int (c2 &&& (255 : Int32))), .val (.int (3 : Int32)), .val (.int (128 : Int32)), .val (.int (191 : Int32)), .unset, .unset, .unset]) d1_64 rfl rfl ?_
          refine own_iloadN X (pc' := 66) d1_65 rfl rfl ?_
          refine own_sipush X (v := (224 : Int32)) (pc' := 69) d1_66 rfl (by decide) ?_
          refine own_icmp_ne X (pct := 78) (pc' := 72) d1_69 rfl (by decide) (by decide) (fun hc69_17 => ?_) (fun hc69_17 => ?_)
          · refine own_sipush X (v := (128 : Int32)) (pc' := 81) d1_78 rfl (by decide) ?_
            refine own_istore X (pc' := 83) (Ls' := #[.val (.ref a), .val (.int (2 : Int32)), .val (.int (c2 &&& (255 : Int32))), .val (.int (3 : Int32)), .val (.int (128 : Int32)), .val (.int (191 : Int32)), .unset, .unset, .unset]) d1_81 rfl rfl ?_
            refine own_goto X (pc' := 143) d1_83 (by decide) (by decide) ?_
            exact J143 _ _ _ (by rw [Int32.lt_iff_toInt_lt] at hc22_10 hc34_11 hc41_12 hc60_13; rw [← Int32.toInt_inj] at hc69_17; simp only [Int32.reduceToInt] at hc22_10 hc34_11 hc41_12 hc60_13 hc69_17; unfold own_L; (repeat' split); all_goals first | rfl | omega) (by rw [Int32.lt_iff_toInt_lt] at hc22_10 hc34_11 hc41_12 hc60_13; rw [← Int32.toInt_inj] at hc69_17; simp only [Int32.reduceToInt] at hc22_10 hc34_11 hc41_12 hc60_13 hc69_17; unfold own_lo; (repeat' split); all_goals first | rfl | omega) (by rw [Int32.lt_iff_toInt_lt] at hc22_10 hc34_11 hc41_12 hc60_13; rw [← Int32.toInt_inj] at hc69_17; simp only [Int32.reduceToInt] at hc22_10 hc34_11 hc41_12 hc60_13 hc69_17; unfold own_hi; (repeat' split); all_goals first | rfl | omega)
          · refine own_sipush X (v := (160 : Int32)) (pc' := 75) d1_72 rfl (by decide) ?_
            refine own_goto X (pc' := 81) d1_75 (by decide) (by decide) ?_
            refine own_istore X (pc' := 83) (Ls' := #[.val (.ref a), .val (.int (2 : Int32)), .val (.int (c2 &&& (255 : Int32))), .val (.int (3 : Int32)), .val (.int (160 : Int32)), .val (.int (191 : Int32)), .unset, .unset, .unset]) d1_81 rfl rfl ?_
            refine own_goto X (pc' := 143) d1_83 (by decide) (by decide) ?_
            exact J143 _ _ _ (by rw [Int32.lt_iff_toInt_lt] at hc22_10 hc34_11 hc41_12 hc60_13; rw [← Int32.toInt_inj] at hc69_17; simp only [Int32.reduceToInt] at hc22_10 hc34_11 hc41_12 hc60_13 hc69_17; unfold own_L; (repeat' split); all_goals first | rfl | omega) (by rw [Int32.lt_iff_toInt_lt] at hc22_10 hc34_11 hc41_12 hc60_13; rw [← Int32.toInt_inj] at hc69_17; simp only [Int32.reduceToInt] at hc22_10 hc34_11 hc41_12 hc60_13 hc69_17; unfold own_lo; (repeat' split); all_goals first | rfl | omega) (by rw [Int32.lt_iff_toInt_lt] at hc22_10 hc34_11 hc41_12 hc60_13; rw [← Int32.toInt_inj] at hc69_17; simp only [Int32.reduceToInt] at hc22_10 hc34_11 hc41_12 hc60_13 hc69_17; unfold own_hi; (repeat' split); all_goals first | rfl | omega)
      · refine own_iconst X (v := (2 : Int32)) (pc' := 45) d1_44 rfl (by decide) ?_
        refine own_istoreN X (pc' := 46) (Ls' := #[.val (.ref a), .val (.int (2 : Int32)), .val (.int (c2 &&& (255 : Int32))), .val (.int (2 : Int32)), .val (.int (128 : Int32)), .val (.int (191 : Int32)), .unset, .unset, .unset]) d1_45 rfl rfl ?_
        refine own_goto X (pc' := 143) d1_46 (by decide) (by decide) ?_
        exact J143 _ _ _ (by rw [Int32.lt_iff_toInt_lt] at hc22_10 hc34_11 hc41_12; simp only [Int32.reduceToInt] at hc22_10 hc34_11 hc41_12; unfold own_L; (repeat' split); all_goals first | rfl | omega) (by rw [Int32.lt_iff_toInt_lt] at hc22_10 hc34_11 hc41_12; simp only [Int32.reduceToInt] at hc22_10 hc34_11 hc41_12; unfold own_lo; (repeat' split); all_goals first | rfl | omega) (by rw [Int32.lt_iff_toInt_lt] at hc22_10 hc34_11 hc41_12; simp only [Int32.reduceToInt] at hc22_10 hc34_11 hc41_12; unfold own_hi; (repeat' split); all_goals first | rfl | omega)
  · refine own_iconst X (v := (1 : Int32)) (pc' := 26) d1_25 rfl (by decide) ?_
    refine own_istoreN X (pc' := 27) (Ls' := #[.val (.ref a), .val (.int (2 : Int32)), .val (.int (c2 &&& (255 : Int32))), .val (.int (1 : Int32)), .val (.int (128 : Int32)), .val (.int (191 : Int32)), .unset, .unset, .unset]) d1_26 rfl rfl ?_
    refine own_goto X (pc' := 143) d1_27 (by decide) (by decide) ?_
    exact J143 _ _ _ (by rw [Int32.lt_iff_toInt_lt] at hc22_10; simp only [Int32.reduceToInt] at hc22_10; unfold own_L; (repeat' split); all_goals first | rfl | omega) (by rw [Int32.lt_iff_toInt_lt] at hc22_10; simp only [Int32.reduceToInt] at hc22_10; unfold own_lo; (repeat' split); all_goals first | rfl | omega) (by rw [Int32.lt_iff_toInt_lt] at hc22_10; simp only [Int32.reduceToInt] at hc22_10; unfold own_hi; (repeat' split); all_goals first | rfl | omega)
theorem pn_rm2_2 : plainFor (⟨"com/example/quern/quern/text/TextBytesSequenceLengthPinLaw", "expected", "([BI)I"⟩ : MethodName) = true := plainFor_of_name (by first | (simp [plainName, overriddenIn]; done) | decide +kernel)
theorem ef_rm2_2 (m : MethodId) (x0 : Addr) (x1 : Int32) : entryFrame m #[(.ref x0), (.int x1)] 6 = mkF m 0 #[.val (.ref x0), .val (.int x1), .unset, .unset, .unset, .unset] [] := by first | (simp [entryFrame, mkF, argsToLocals, Value.category]; done) | rfl
set_option maxRecDepth 65536 in
set_option maxHeartbeats 4000000 in
theorem rm2_2 (l : Launch) (Z : State) (a0 : Array Value) (hw : ∀ d ∈ tables_1, d.before a0 Z = true) (n0 : Nat) (a : Addr) (h0 : Heap) (hn0 : n0 ≤ h0.size) (c0 c1 c2 c3 c4 c5 c6 c7 : Int32) (A : own_A Z h0 a .byte [c0, c1, c2, c3, c4, c5, c6, c7]) :
    own_Met l (⟨"com/example/quern/quern/text/TextBytesSequenceLengthPinLaw", "expected", "([BI)I"⟩ : MethodName) method_7_code 6 (some .int) ({ frames := 1, cells := 0, slots := 0, locals := 20 } : Room) Z n0 #[(.ref a), (.int (2 : Int32))] h0 (some (.int (own_ex (own_L (c2 &&& (255 : Int32))) (c2 &&& (255 : Int32)) [(c3 &&& (255 : Int32)), (c4 &&& (255 : Int32)), (c5 &&& (255 : Int32)), (c6 &&& (255 : Int32)), (c7 &&& (255 : Int32))]))) (fun h' => h' = h0) := by
  refine own_met pn_rm2_2 hn0 ?_
  intro p e s m below meth c T X
  refine own_cast (ef_rm2_2 m a (2 : Int32)) ?_
  generalize hΦ : own_Q n0 below s _ _ _ = Φ
  refine own_aloadN X (pc' := 1) d2_0 rfl rfl rfl ?_
  refine own_iloadN X (pc' := 2) d2_1 rfl rfl ?_
  refine own_callS X (W := 0) (argsL := [(.ref a), (.int (2 : Int32))]) (rest := []) (S' := [(.int (c2 &&& (255 : Int32)))]) (pc' := 5) (rm3 l Z a0 hw n0 a (2 : Int32) h0 X.size _ A c2 rfl rfl) (hw _ (List.mem_of_getElem? (i := 9) rfl)) (hw _ (List.mem_of_getElem? (i := 10) rfl)) (hw _ (List.mem_of_getElem? (i := 7) rfl)) (hw _ (List.mem_of_getElem? (i := 11) rfl)) (by decide) (by decide) (by decide) rfl rfl (by decide) (by decide) (lenOf pd_0 rfl) rfl (by first | decide | exact Nat.le_of_eq rfl) rfl d2_2 rfl rfl ?_
  intro T1 h1 X1 qq1
  rw [show h1 = h0 from qq1] at X1
  refine own_istoreN X1 (pc' := 6) (Ls' := #[.val (.ref a), .val (.int (2 : Int32)), .val (.int (c2 &&& (255 : Int32))), .unset, .unset, .unset]) d2_5 rfl rfl ?_
  refine own_iloadN X1 (pc' := 7) d2_6 rfl rfl ?_
  refine own_callS X1 (W := 0) (argsL := [(.int (c2 &&& (255 : Int32)))]) (rest := []) (S' := [(.int (own_L (c2 &&& (255 : Int32))))]) (pc' := 10) (rm4 l Z a0 hw n0 (c2 &&& (255 : Int32)) h0 X1.size) (hw _ (List.mem_of_getElem? (i := 12) rfl)) (hw _ (List.mem_of_getElem? (i := 13) rfl)) (hw _ (List.mem_of_getElem? (i := 7) rfl)) (hw _ (List.mem_of_getElem? (i := 14) rfl)) (by decide) (by decide) (by decide) rfl rfl (by decide) (by decide) (lenOf pd_1 rfl) rfl (by first | decide | exact Nat.le_of_eq rfl) rfl d2_7 rfl rfl ?_
  intro T2 h2 X2 qq2
  rw [show h2 = h0 from qq2] at X2
  refine own_istoreN X2 (pc' := 11) (Ls' := #[.val (.ref a), .val (.int (2 : Int32)), .val (.int (c2 &&& (255 : Int32))), .val (.int (own_L (c2 &&& (255 : Int32)))), .unset, .unset]) d2_10 rfl rfl ?_
  refine own_aloadN X2 (pc' := 12) d2_11 rfl rfl rfl ?_
  refine own_len X2 (v := (8 : Int32)) (pc' := 13) A (by first | rfl | decide) d2_12 rfl ?_
  refine own_iloadN X2 (pc' := 14) d2_13 rfl rfl ?_
  refine own_isub X2 (r := (6 : Int32)) (pc' := 15) d2_14 rfl (by decide) ?_
  refine own_istore X2 (pc' := 17) (Ls' := #[.val (.ref a), .val (.int (2 : Int32)), .val (.int (c2 &&& (255 : Int32))), .val (.int (own_L (c2 &&& (255 : Int32)))), .val (.int (6 : Int32)), .unset]) d2_15 rfl rfl ?_
  refine own_iconst X2 (v := (1 : Int32)) (pc' := 18) d2_17 rfl (by decide) ?_
  refine own_istore X2 (pc' := 20) (Ls' := #[.val (.ref a), .val (.int (2 : Int32)), .val (.int (c2 &&& (255 : Int32))), .val (.int (own_L (c2 &&& (255 : Int32)))), .val (.int (6 : Int32)), .val (.int (1 : Int32))]) d2_18 rfl rfl ?_
  refine own_iloadN X2 (pc' := 21) d2_20 rfl rfl ?_
  refine own_iconst X2 (v := (2 : Int32)) (pc' := 22) d2_21 rfl (by decide) ?_
  refine own_icmp_lt X2 (pct := 102) (pc' := 25) d2_22 rfl (by decide) (by decide) (fun hc22_3 => ?_) (fun hc22_3 => ?_)
  · refine own_iload X2 (pc' := 104) d2_102 rfl rfl ?_
    subst hΦ
    exact own_retI X2 d2_104 (by decide) (by decide) (by rw [own_exc, if_pos hc22_3]) rfl
  · refine own_iload X2 (pc' := 27) d2_25 rfl rfl ?_
    refine own_iconst X2 (v := (2 : Int32)) (pc' := 28) d2_27 rfl (by decide) ?_
    refine own_icmp_lt X2 (pct := 102) (pc' := 31) d2_28 rfl (by decide) (by decide) (fun hc => absurd hc (by decide)) (fun _ => ?_)
    refine own_iloadN X2 (pc' := 32) d2_31 rfl rfl ?_
    refine own_aloadN X2 (pc' := 33) d2_32 rfl rfl rfl ?_
    refine own_iloadN X2 (pc' := 34) d2_33 rfl rfl ?_
    refine own_iconst X2 (v := (1 : Int32)) (pc' := 35) d2_34 rfl (by decide) ?_
    refine own_iadd X2 (r := (3 : Int32)) (pc' := 36) d2_35 rfl (by decide) ?_
    refine own_callS X2 (W := 1) (argsL := [(.ref a), (.int (3 : Int32))]) (rest := [(.int (c2 &&& (255 : Int32)))]) (S' := [(.int (c3 &&& (255 : Int32))), (.int (c2 &&& (255 : Int32)))]) (pc' := 39) (rm3 l Z a0 hw n0 a (3 : Int32) h0 X2.size _ A c3 rfl rfl) (hw _ (List.mem_of_getElem? (i := 9) rfl)) (hw _ (List.mem_of_getElem? (i := 10) rfl)) (hw _ (List.mem_of_getElem? (i := 7) rfl)) (hw _ (List.mem_of_getElem? (i := 11) rfl)) (by decide) (by decide) (by decide) rfl rfl (by decide) (by decide) (lenOf pd_0 rfl) rfl (by first | decide | exact Nat.le_of_eq rfl) rfl d2_36 rfl rfl ?_
    intro T4 h4 X4 qq4
    rw [show h4 = h0 from qq4] at X4
    refine own_callS X4 (W := 0) (argsL := [(.int (c2 &&& (255 : Int32))), (.int (c3 &&& (255 : Int32)))]) (rest := []) (S' := [(.int (own_sf (c2 &&& (255 : Int32)) (c3 &&& (255 : Int32))))]) (pc' := 42) (rm5 l Z a0 hw n0 (c2 &&& (255 : Int32)) (c3 &&& (255 : Int32)) h0 X4.size) (hw _ (List.mem_of_getElem? (i := 15) rfl)) (hw _ (List.mem_of_getElem? (i := 16) rfl)) (hw _ (List.mem_of_getElem? (i := 7) rfl)) (hw _ (List.mem_of_getElem? (i := 17) rfl)) (by decide) (by decide) (by decide) rfl rfl (by decide) (by decide) (lenOf pd_2 rfl) rfl (by first | decide | exact Nat.le_of_eq rfl) rfl d2_39 rfl rfl ?_
    intro T5 h5 X5 qq5
    rw [show h5 = h0 from qq5] at X5
    refine own_if_eq X5 (pct := 102) (pc' := 45) d2_42 rfl (by decide) (by decide) (fun hc42_6 => ?_) (fun hc42_6 => ?_)
    · refine own_iload X5 (pc' := 104) d2_102 rfl rfl ?_
      subst hΦ
      exact own_retI X5 d2_104 (by decide) (by decide) (by rw [own_exc, if_neg hc22_3, if_pos hc42_6]) rfl
    · refine own_iconst X5 (v := (2 : Int32)) (pc' := 46) d2_45 rfl (by decide) ?_
      refine own_istore X5 (pc' := 48) (Ls' := #[.val (.ref a), .val (.int (2 : Int32)), .val (.int (c2 &&& (255 : Int32))), .val (.int (own_L (c2 &&& (255 : Int32)))), .val (.int (6 : Int32)), .val (.int (2 : Int32))]) d2_46 rfl rfl ?_
      refine own_iloadN X5 (pc' := 49) d2_48 rfl rfl ?_
      refine own_iconst X5 (v := (3 : Int32)) (pc' := 50) d2_49 rfl (by decide) ?_
      refine own_icmp_lt X5 (pct := 102) (pc' := 53) d2_50 rfl (by decide) (by decide) (fun hc50_7 => ?_) (fun hc50_7 => ?_)
      · refine own_iload X5 (pc' := 104) d2_102 rfl rfl ?_
        subst hΦ
        exact own_retI X5 d2_104 (by decide) (by decide) (by rw [own_exc, if_neg hc22_3, if_neg hc42_6, own_e2c, if_pos hc50_7]) rfl
      · refine own_iload X5 (pc' := 55) d2_53 rfl rfl ?_
        refine own_iconst X5 (v := (3 : Int32)) (pc' := 56) d2_55 rfl (by decide) ?_
        refine own_icmp_lt X5 (pct := 102) (pc' := 59) d2_56 rfl (by decide) (by decide) (fun hc => absurd hc (by decide)) (fun _ => ?_)
        refine own_aloadN X5 (pc' := 60) d2_59 rfl rfl rfl ?_
        refine own_iloadN X5 (pc' := 61) d2_60 rfl rfl ?_
        refine own_iconst X5 (v := (2 : Int32)) (pc' := 62) d2_61 rfl (by decide) ?_
        refine own_iadd X5 (r := (4 : Int32)) (pc' := 63) d2_62 rfl (by decide) ?_
        refine own_callS X5 (W := 0) (argsL := [(.ref a), (.int (4 : Int32))]) (rest := []) (S' := [(.int (c4 &&& (255 : Int32)))]) (pc' := 66) (rm3 l Z a0 hw n0 a (4 : Int32) h0 X5.size _ A c4 rfl rfl) (hw _ (List.mem_of_getElem? (i := 9) rfl)) (hw _ (List.mem_of_getElem? (i := 10) rfl)) (hw _ (List.mem_of_getElem? (i := 7) rfl)) (hw _ (List.mem_of_getElem? (i := 11) rfl)) (by decide) (by decide) (by decide) rfl rfl (by decide) (by decide) (lenOf pd_0 rfl) rfl (by first | decide | exact Nat.le_of_eq rfl) rfl d2_63 rfl rfl ?_
        intro T8 h8 X8 qq8
        rw [show h8 = h0 from qq8] at X8
        refine own_callS X8 (W := 0) (argsL := [(.int (c4 &&& (255 : Int32)))]) (rest := []) (S' := [(.int (own_ct (c4 &&& (255 : Int32))))]) (pc' := 69) (rm6 l Z a0 hw n0 (c4 &&& (255 : Int32)) h0 X8.size) (hw _ (List.mem_of_getElem? (i := 18) rfl)) (hw _ (List.mem_of_getElem? (i := 19) rfl)) (hw _ (List.mem_of_getElem? (i := 7) rfl)) (hw _ (List.mem_of_getElem? (i := 20) rfl)) (by decide) (by decide) (by decide) rfl rfl (by decide) (by decide) (lenOf pd_3 rfl) rfl (by first | decide | exact Nat.le_of_eq rfl) rfl d2_66 rfl rfl ?_
        intro T9 h9 X9 qq9
        rw [show h9 = h0 from qq9] at X9
        refine own_if_eq X9 (pct := 102) (pc' := 72) d2_69 rfl (by decide) (by decide) (fun hc69_10 => ?_) (fun hc69_10 => ?_)
        · refine own_iload X9 (pc' := 104) d2_102 rfl rfl ?_
          subst hΦ
          exact own_retI X9 d2_104 (by decide) (by decide) (by rw [own_exc, if_neg hc22_3, if_neg hc42_6, own_e2c, if_neg hc50_7, if_pos hc69_10]) rfl
        · refine own_iconst X9 (v := (3 : Int32)) (pc' := 73) d2_72 rfl (by decide) ?_
          refine own_istore X9 (pc' := 75) (Ls' := #[.val (.ref a), .val (.int (2 : Int32)), .val (.int (c2 &&& (255 : Int32))), .val (.int (own_L (c2 &&& (255 : Int32)))), .val (.int (6 : Int32)), .val (.int (3 : Int32))]) d2_73 rfl rfl ?_
          refine own_iloadN X9 (pc' := 76) d2_75 rfl rfl ?_
          refine own_iconst X9 (v := (4 : Int32)) (pc' := 77) d2_76 rfl (by decide) ?_
          refine own_icmp_lt X9 (pct := 102) (pc' := 80) d2_77 rfl (by decide) (by decide) (fun hc77_11 => ?_) (fun hc77_11 => ?_)
          · refine own_iload X9 (pc' := 104) d2_102 rfl rfl ?_
            subst hΦ
            exact own_retI X9 d2_104 (by decide) (by decide) (by rw [own_exc, if_neg hc22_3, if_neg hc42_6, own_e2c, if_neg hc50_7, if_neg hc69_10, own_e3c, if_pos hc77_11]) rfl
          · refine own_iload X9 (pc' := 82) d2_80 rfl rfl ?_
            refine own_iconst X9 (v := (4 : Int32)) (pc' := 83) d2_82 rfl (by decide) ?_
            refine own_icmp_lt X9 (pct := 102) (pc' := 86) d2_83 rfl (by decide) (by decide) (fun hc => absurd hc (by decide)) (fun _ => ?_)
            refine own_aloadN X9 (pc' := 87) d2_86 rfl rfl rfl ?_
            refine own_iloadN X9 (pc' := 88) d2_87 rfl rfl ?_
            refine own_iconst X9 (v := (3 : Int32)) (pc' := 89) d2_88 rfl (by decide) ?_
            refine own_iadd X9 (r := (5 : Int32)) (pc' := 90) d2_89 rfl (by decide) ?_
            refine own_callS X9 (W := 0) (argsL := [(.ref a), (.int (5 : Int32))]) (rest := []) (S' := [(.int (c5 &&& (255 : Int32)))]) (pc' := 93) (rm3 l Z a0 hw n0 a (5 : Int32) h0 X9.size _ A c5 rfl rfl) (hw _ (List.mem_of_getElem? (i := 9) rfl)) (hw _ (List.mem_of_getElem? (i := 10) rfl)) (hw _ (List.mem_of_getElem? (i := 7) rfl)) (hw _ (List.mem_of_getElem? (i := 11) rfl)) (by decide) (by decide) (by decide) rfl rfl (by decide) (by decide) (lenOf pd_0 rfl) rfl (by first | decide | exact Nat.le_of_eq rfl) rfl d2_90 rfl rfl ?_
            intro T12 h12 X12 qq12
            rw [show h12 = h0 from qq12] at X12
            refine own_callS X12 (W := 0) (argsL := [(.int (c5 &&& (255 : Int32)))]) (rest := []) (S' := [(.int (own_ct (c5 &&& (255 : Int32))))]) (pc' := 96) (rm6 l Z a0 hw n0 (c5 &&& (255 : Int32)) h0 X12.size) (hw _ (List.mem_of_getElem? (i := 18) rfl)) (hw _ (List.mem_of_getElem? (i := 19) rfl)) (hw _ (List.mem_of_getElem? (i := 7) rfl)) (hw _ (List.mem_of_getElem? (i := 20) rfl)) (by decide) (by decide) (by decide) rfl rfl (by decide) (by decide) (lenOf pd_3 rfl) rfl (by first | decide | exact Nat.le_of_eq rfl) rfl d2_93 rfl rfl ?_
            intro T13 h13 X13 qq13
            rw [show h13 = h0 from qq13] at X13
            refine own_if_eq X13 (pct := 102) (pc' := 99) d2_96 rfl (by decide) (by decide) (fun hc96_14 => ?_) (fun hc96_14 => ?_)
            · refine own_iload X13 (pc' := 104) d2_102 rfl rfl ?_
              subst hΦ
              exact own_retI X13 d2_104 (by decide) (by decide) (by rw [own_exc, if_neg hc22_3, if_neg hc42_6, own_e2c, if_neg hc50_7, if_neg hc69_10, own_e3c, if_neg hc77_11, if_pos hc96_14]) rfl
            · refine own_iconst X13 (v := (4 : Int32)) (pc' := 100) d2_99 rfl (by decide) ?_
              refine own_istore X13 (pc' := 102) (Ls' := #[.val (.ref a), .val (.int (2 : Int32)), .val (.int (c2 &&& (255 : Int32))), .val (.int (own_L (c2 &&& (255 : Int32)))), .val (.int (6 : Int32)), .val (.int (4 : Int32))]) d2_100 rfl rfl ?_
              refine own_iload X13 (pc' := 104) d2_102 rfl rfl ?_
              subst hΦ
              exact own_retI X13 d2_104 (by decide) (by decide) (by rw [own_exc, if_neg hc22_3, if_neg hc42_6, own_e2c, if_neg hc50_7, if_neg hc69_10, own_e3c, if_neg hc77_11, if_neg hc96_14]) rfl
theorem pn_rm1_3 : plainFor (⟨"com/example/quern/quern/text/TextBytes", "sequenceLength", "([BI)I"⟩ : MethodName) = true := plainFor_of_name (by first | (simp [plainName, overriddenIn]; done) | decide +kernel)
theorem ef_rm1_3 (m : MethodId) (x0 : Addr) (x1 : Int32) : entryFrame m #[(.ref x0), (.int x1)] 9 = mkF m 0 #[.val (.ref x0), .val (.int x1), .unset, .unset, .unset, .unset, .unset, .unset, .unset] [] := by first | (simp [entryFrame, mkF, argsToLocals, Value.category]; done) | rfl
set_option maxRecDepth 65536 in
set_option maxHeartbeats 4000000 in
theorem rm1_3 (l : Launch) (Z : State) (a0 : Array Value) (hw : ∀ d ∈ tables_1, d.before a0 Z = true) (n0 : Nat) (a : Addr) (h0 : Heap) (hn0 : n0 ≤ h0.size) (c0 c1 c2 c3 c4 c5 c6 c7 : Int32) (A : own_A Z h0 a .byte [c0, c1, c2, c3, c4, c5, c6, c7]) :
    own_Met l (⟨"com/example/quern/quern/text/TextBytes", "sequenceLength", "([BI)I"⟩ : MethodName) prog_310_method_5_code 9 (some .int) ({ frames := 0, cells := 0, slots := 0, locals := 0 } : Room) Z n0 #[(.ref a), (.int (3 : Int32))] h0 (some (.int (own_sq (own_L (c3 &&& (255 : Int32))) (own_lo (c3 &&& (255 : Int32))) (own_hi (c3 &&& (255 : Int32))) [(c4 &&& (255 : Int32)), (c5 &&& (255 : Int32)), (c6 &&& (255 : Int32)), (c7 &&& (255 : Int32))]))) (fun h' => h' = h0) := by
  refine own_met pn_rm1_3 hn0 ?_
  intro p e s m below meth c T X
  refine own_cast (ef_rm1_3 m a (3 : Int32)) ?_
  generalize hΦ : own_Q n0 below s _ _ _ = Φ
  refine own_aloadN X (pc' := 1) d1_0 rfl rfl rfl ?_
  refine own_iloadN X (pc' := 2) d1_1 rfl rfl ?_
  refine own_baload X (v := c3) (pc' := 3) A rfl rfl d1_2 rfl ?_
  refine own_sipush X (v := (255 : Int32)) (pc' := 6) d1_3 rfl (by decide) ?_
  refine own_iand X (r := (c3 &&& (255 : Int32))) (pc' := 7) d1_6 rfl rfl ?_
  refine own_istoreN X (pc' := 8) (Ls' := #[.val (.ref a), .val (.int (3 : Int32)), .val (.int (c3 &&& (255 : Int32))), .unset, .unset, .unset, .unset, .unset, .unset]) d1_7 rfl rfl ?_
  refine own_sipush X (v := (128 : Int32)) (pc' := 11) d1_8 rfl (by decide) ?_
  refine own_istore X (pc' := 13) (Ls' := #[.val (.ref a), .val (.int (3 : Int32)), .val (.int (c3 &&& (255 : Int32))), .unset, .val (.int (128 : Int32)), .unset, .unset, .unset, .unset]) d1_11 rfl rfl ?_
  refine own_sipush X (v := (191 : Int32)) (pc' := 16) d1_13 rfl (by decide) ?_
  refine own_istore X (pc' := 18) (Ls' := #[.val (.ref a), .val (.int (3 : Int32)), .val (.int (c3 &&& (255 : Int32))), .unset, .val (.int (128 : Int32)), .val (.int (191 : Int32)), .unset, .unset, .unset]) d1_16 rfl rfl ?_
  have J143 : ∀ (len sec top : Int32) (_ : len = own_L (c3 &&& (255 : Int32))) (_ : sec = own_lo (c3 &&& (255 : Int32))) (_ : top = own_hi (c3 &&& (255 : Int32))), own_G p e below Φ T (mkF m 143 #[.val (.ref a), .val (.int (3 : Int32)), .val (.int (c3 &&& (255 : Int32))), .val (.int len), .val (.int sec), .val (.int top), .unset, .unset, .unset] []) := by
    intro len sec top j1 j2 j3
    refine own_iconst X (v := (1 : Int32)) (pc' := 144) d1_143 rfl (by decide) ?_
    refine own_istore X (pc' := 146) (Ls' := #[.val (.ref a), .val (.int (3 : Int32)), .val (.int (c3 &&& (255 : Int32))), .val (.int len), .val (.int sec), .val (.int top), .val (.int (1 : Int32)), .unset, .unset]) d1_144 rfl rfl ?_
    refine own_iload X (pc' := 148) d1_146 rfl rfl ?_
    refine own_iloadN X (pc' := 149) d1_148 rfl rfl ?_
    refine own_icmp_ge X (pct := 238) (pc' := 152) d1_149 rfl (by decide) (by decide) (fun hc149_1 => ?_) (fun hc149_1 => ?_)
    · refine own_iload X (pc' := 240) d1_238 rfl rfl ?_
      subst hΦ
      exact own_retI X d1_240 (by decide) (by decide) (by rw [← j1, ← j2, ← j3, own_sqc, if_neg hc149_1]) rfl
    · refine own_iloadN X (pc' := 153) d1_152 rfl rfl ?_
      refine own_iload X (pc' := 155) d1_153 rfl rfl ?_
      refine own_iadd X (r := (4 : Int32)) (pc' := 156) d1_155 rfl (by decide) ?_
      refine own_aloadN X (pc' := 157) d1_156 rfl rfl rfl ?_
      refine own_len X (v := (8 : Int32)) (pc' := 158) A (by first | rfl | decide) d1_157 rfl ?_
      refine own_icmp_ge X (pct := 238) (pc' := 161) d1_158 rfl (by decide) (by decide) (fun hc => absurd hc (by decide)) (fun _ => ?_)
      refine own_aloadN X (pc' := 162) d1_161 rfl rfl rfl ?_
      refine own_iloadN X (pc' := 163) d1_162 rfl rfl ?_
      refine own_iload X (pc' := 165) d1_163 rfl rfl ?_
      refine own_iadd X (r := (4 : Int32)) (pc' := 166) d1_165 rfl (by decide) ?_
      refine own_baload X (v := c4) (pc' := 167) A rfl rfl d1_166 rfl ?_
      refine own_sipush X (v := (255 : Int32)) (pc' := 170) d1_167 rfl (by decide) ?_
      refine own_iand X (r := (c4 &&& (255 : Int32))) (pc' := 171) d1_170 rfl rfl ?_
      refine own_istore X (pc' := 173) (Ls' := #[.val (.ref a), .val (.int (3 : Int32)), .val (.int (c3 &&& (255 : Int32))), .val (.int len), .val (.int sec), .val (.int top), .val (.int (1 : Int32)), .val (.int (c4 &&& (255 : Int32))), .unset]) d1_171 rfl rfl ?_
      refine own_iload X (pc' := 175) d1_173 rfl rfl ?_
      refine own_iconst X (v := (1 : Int32)) (pc' := 176) d1_175 rfl (by decide) ?_
      refine own_icmp_ne X (pct := 201) (pc' := 179) d1_176 rfl (by decide) (by decide) (fun hc => absurd hc (by decide)) (fun _ => ?_)
      refine own_iload X (pc' := 181) d1_179 rfl rfl ?_
      refine own_iload X (pc' := 183) d1_181 rfl rfl ?_
      refine own_icmp_lt X (pct := 197) (pc' := 186) d1_183 rfl (by decide) (by decide) (fun hc183_2 => ?_) (fun hc183_2 => ?_)
      · refine own_iconst X (v := (0 : Int32)) (pc' := 198) d1_197 rfl (by decide) ?_
        refine own_goto X (pc' := 222) d1_198 (by decide) (by decide) ?_
        refine own_istore X (pc' := 224) (Ls' := #[.val (.ref a), .val (.int (3 : Int32)), .val (.int (c3 &&& (255 : Int32))), .val (.int len), .val (.int sec), .val (.int top), .val (.int (1 : Int32)), .val (.int (c4 &&& (255 : Int32))), .val (.int (0 : Int32))]) d1_222 rfl rfl ?_
        refine own_iload X (pc' := 226) d1_224 rfl rfl ?_
        refine own_if_ne X (pct := 232) (pc' := 229) d1_226 rfl (by decide) (by decide) (fun hc => absurd hc (by decide)) (fun _ => ?_)
        refine own_goto X (pc' := 238) d1_229 (by decide) (by decide) ?_
        refine own_iload X (pc' := 240) d1_238 rfl rfl ?_
        subst hΦ
        exact own_retI X d1_240 (by decide) (by decide) (by rw [← j1, ← j2, ← j3, own_sqc, if_pos hc149_1, if_pos hc183_2]) rfl
      · refine own_iload X (pc' := 188) d1_186 rfl rfl ?_
        refine own_iload X (pc' := 190) d1_188 rfl rfl ?_
        refine own_icmp_gt X (pct := 197) (pc' := 193) d1_190 rfl (by decide) (by decide) (fun hc190_3 => ?_) (fun hc190_3 => ?_)
        · refine own_iconst X (v := (0 : Int32)) (pc' := 198) d1_197 rfl (by decide) ?_
          refine own_goto X (pc' := 222) d1_198 (by decide) (by decide) ?_
          refine own_istore X (pc' := 224) (Ls' := #[.val (.ref a), .val (.int (3 : Int32)), .val (.int (c3 &&& (255 : Int32))), .val (.int len), .val (.int sec), .val (.int top), .val (.int (1 : Int32)), .val (.int (c4 &&& (255 : Int32))), .val (.int (0 : Int32))]) d1_222 rfl rfl ?_
          refine own_iload X (pc' := 226) d1_224 rfl rfl ?_
          refine own_if_ne X (pct := 232) (pc' := 229) d1_226 rfl (by decide) (by decide) (fun hc => absurd hc (by decide)) (fun _ => ?_)
          refine own_goto X (pc' := 238) d1_229 (by decide) (by decide) ?_
          refine own_iload X (pc' := 240) d1_238 rfl rfl ?_
          subst hΦ
          exact own_retI X d1_240 (by decide) (by decide) (by rw [← j1, ← j2, ← j3, own_sqc, if_pos hc149_1, if_neg hc183_2, if_pos hc190_3]) rfl
        · refine own_iconst X (v := (1 : Int32)) (pc' := 194) d1_193 rfl (by decide) ?_
          refine own_goto X (pc' := 222) d1_194 (by decide) (by decide) ?_
          refine own_istore X (pc' := 224) (Ls' := #[.val (.ref a), .val (.int (3 : Int32)), .val (.int (c3 &&& (255 : Int32))), .val (.int len), .val (.int sec), .val (.int top), .val (.int (1 : Int32)), .val (.int (c4 &&& (255 : Int32))), .val (.int (1 : Int32))]) d1_222 rfl rfl ?_
          refine own_iload X (pc' := 226) d1_224 rfl rfl ?_
          refine own_if_ne X (pct := 232) (pc' := 229) d1_226 rfl (by decide) (by decide) (fun _ => ?_) (fun hc => absurd hc (by decide))
          refine own_iinc X (pc' := 235) (Ls' := #[.val (.ref a), .val (.int (3 : Int32)), .val (.int (c3 &&& (255 : Int32))), .val (.int len), .val (.int sec), .val (.int top), .val (.int (2 : Int32)), .val (.int (c4 &&& (255 : Int32))), .val (.int (1 : Int32))]) (w := (2 : Int32)) d1_232 rfl rfl (by decide) rfl ?_
          refine own_goto X (pc' := 146) d1_235 (by decide) (by decide) ?_
          refine own_iload X (pc' := 148) d1_146 rfl rfl ?_
          refine own_iloadN X (pc' := 149) d1_148 rfl rfl ?_
          refine own_icmp_ge X (pct := 238) (pc' := 152) d1_149 rfl (by decide) (by decide) (fun hc149_4 => ?_) (fun hc149_4 => ?_)
          · refine own_iload X (pc' := 240) d1_238 rfl rfl ?_
            subst hΦ
            exact own_retI X d1_240 (by decide) (by decide) (by rw [← j1, ← j2, ← j3, own_sqc, if_pos hc149_1, if_neg hc183_2, if_neg hc190_3, own_l2c, if_neg hc149_4]) rfl
          · refine own_iloadN X (pc' := 153) d1_152 rfl rfl ?_
            refine own_iload X (pc' := 155) d1_153 rfl rfl ?_
            refine own_iadd X (r := (5 : Int32)) (pc' := 156) d1_155 rfl (by decide) ?_
            refine own_aloadN X (pc' := 157) d1_156 rfl rfl rfl ?_
            refine own_len X (v := (8 : Int32)) (pc' := 158) A (by first | rfl | decide) d1_157 rfl ?_
            refine own_icmp_ge X (pct := 238) (pc' := 161) d1_158 rfl (by decide) (by decide) (fun hc => absurd hc (by decide)) (fun _ => ?_)
            refine own_aloadN X (pc' := 162) d1_161 rfl rfl rfl ?_
            refine own_iloadN X (pc' := 163) d1_162 rfl rfl ?_
            refine own_iload X (pc' := 165) d1_163 rfl rfl ?_
            refine own_iadd X (r := (5 : Int32)) (pc' := 166) d1_165 rfl (by decide) ?_
            refine own_baload X (v := c5) (pc' := 167) A rfl rfl d1_166 rfl ?_
            refine own_sipush X (v := (255 : Int32)) (pc' := 170) d1_167 rfl (by decide) ?_
            refine own_iand X (r := (c5 &&& (255 : Int32))) (pc' := 171) d1_170 rfl rfl ?_
            refine own_istore X (pc' := 173) (Ls' := #[.val (.ref a), .val (.int (3 : Int32)), .val (.int (c3 &&& (255 : Int32))), .val (.int len), .val (.int sec), .val (.int top), .val (.int (2 : Int32)), .val (.int (c5 &&& (255 : Int32))), .val (.int (1 : Int32))]) d1_171 rfl rfl ?_
            refine own_iload X (pc' := 175) d1_173 rfl rfl ?_
            refine own_iconst X (v := (1 : Int32)) (pc' := 176) d1_175 rfl (by decide) ?_
            refine own_icmp_ne X (pct := 201) (pc' := 179) d1_176 rfl (by decide) (by decide) (fun _ => ?_) (fun hc => absurd hc (by decide))
            refine own_iload X (pc' := 203) d1_201 rfl rfl ?_
            refine own_sipush X (v := (128 : Int32)) (pc' := 206) d1_203 rfl (by decide) ?_
            refine own_icmp_lt X (pct := 221) (pc' := 209) d1_206 rfl (by decide) (by decide) (fun hc206_5 => ?_) (fun hc206_5 => ?_)
            · refine own_iconst X (v := (0 : Int32)) (pc' := 222) d1_221 rfl (by decide) ?_
              refine own_istore X (pc' := 224) (Ls' := #[.val (.ref a), .val (.int (3 : Int32)), .val (.int (c3 &&& (255 : Int32))), .val (.int len), .val (.int sec), .val (.int top), .val (.int (2 : Int32)), .val (.int (c5 &&& (255 : Int32))), .val (.int (0 : Int32))]) d1_222 rfl rfl ?_
              refine own_iload X (pc' := 226) d1_224 rfl rfl ?_
              refine own_if_ne X (pct := 232) (pc' := 229) d1_226 rfl (by decide) (by decide) (fun hc => absurd hc (by decide)) (fun _ => ?_)
              refine own_goto X (pc' := 238) d1_229 (by decide) (by decide) ?_
              refine own_iload X (pc' := 240) d1_238 rfl rfl ?_
              subst hΦ
              exact own_retI X d1_240 (by decide) (by decide) (by rw [← j1, ← j2, ← j3, own_sqc, if_pos hc149_1, if_neg hc183_2, if_neg hc190_3, own_l2c, if_pos hc149_4, if_pos hc206_5]) rfl
            · refine own_iload X (pc' := 211) d1_209 rfl rfl ?_
              refine own_sipush X (v := (191 : Int32)) (pc' := 214) d1_211 rfl (by decide) ?_
              refine own_icmp_gt X (pct := 221) (pc' := 217) d1_214 rfl (by decide) (by decide) (fun hc214_6 => ?_) (fun hc214_6 => ?_)
              · refine own_iconst X (v := (0 : Int32)) (pc' := 222) d1_221 rfl (by decide) ?_
                refine own_istore X (pc' := 224) (Ls' := #[.val (.ref a), .val (.int (3 : Int32)), .val (.int (c3 &&& (255 : Int32))), .val (.int len), .val (.int sec), .val (.int top), .val (.int (2 : Int32)), .val (.int (c5 &&& (255 : Int32))), .val (.int (0 : Int32))]) d1_222 rfl rfl ?_
                refine own_iload X (pc' := 226) d1_224 rfl rfl ?_
                refine own_if_ne X (pct := 232) (pc' := 229) d1_226 rfl (by decide) (by decide) (fun hc => absurd hc (by decide)) (fun _ => ?_)
                refine own_goto X (pc' := 238) d1_229 (by decide) (by decide) ?_
                refine own_iload X (pc' := 240) d1_238 rfl rfl ?_
                subst hΦ
                exact own_retI X d1_240 (by decide) (by decide) (by rw [← j1, ← j2, ← j3, own_sqc, if_pos hc149_1, if_neg hc183_2, if_neg hc190_3, own_l2c, if_pos hc149_4, if_neg hc206_5, if_pos hc214_6]) rfl
              · refine own_iconst X (v := (1 : Int32)) (pc' := 218) d1_217 rfl (by decide) ?_
                refine own_goto X (pc' := 222) d1_218 (by decide) (by decide) ?_
                refine own_istore X (pc' := 224) (Ls' := #[.val (.ref a), .val (.int (3 : Int32)), .val (.int (c3 &&& (255 : Int32))), .val (.int len), .val (.int sec), .val (.int top), .val (.int (2 : Int32)), .val (.int (c5 &&& (255 : Int32))), .val (.int (1 : Int32))]) d1_222 rfl rfl ?_
                refine own_iload X (pc' := 226) d1_224 rfl rfl ?_
                refine own_if_ne X (pct := 232) (pc' := 229) d1_226 rfl (by decide) (by decide) (fun _ => ?_) (fun hc => absurd hc (by decide))
                refine own_iinc X (pc' := 235) (Ls' := #[.val (.ref a), .val (.int (3 : Int32)), .val (.int (c3 &&& (255 : Int32))), .val (.int len), .val (.int sec), .val (.int top), .val (.int (3 : Int32)), .val (.int (c5 &&& (255 : Int32))), .val (.int (1 : Int32))]) (w := (3 : Int32)) d1_232 rfl rfl (by decide) rfl ?_
                refine own_goto X (pc' := 146) d1_235 (by decide) (by decide) ?_
                refine own_iload X (pc' := 148) d1_146 rfl rfl ?_
                refine own_iloadN X (pc' := 149) d1_148 rfl rfl ?_
                refine own_icmp_ge X (pct := 238) (pc' := 152) d1_149 rfl (by decide) (by decide) (fun hc149_7 => ?_) (fun hc149_7 => ?_)
                · refine own_iload X (pc' := 240) d1_238 rfl rfl ?_
                  subst hΦ
                  exact own_retI X d1_240 (by decide) (by decide) (by rw [← j1, ← j2, ← j3, own_sqc, if_pos hc149_1, if_neg hc183_2, if_neg hc190_3, own_l2c, if_pos hc149_4, if_neg hc206_5, if_neg hc214_6, own_l3c, if_neg hc149_7]) rfl
                · refine own_iloadN X (pc' := 153) d1_152 rfl rfl ?_
                  refine own_iload X (pc' := 155) d1_153 rfl rfl ?_
                  refine own_iadd X (r := (6 : Int32)) (pc' := 156) d1_155 rfl (by decide) ?_
                  refine own_aloadN X (pc' := 157) d1_156 rfl rfl rfl ?_
                  refine own_len X (v := (8 : Int32)) (pc' := 158) A (by first | rfl | decide) d1_157 rfl ?_
                  refine own_icmp_ge X (pct := 238) (pc' := 161) d1_158 rfl (by decide) (by decide) (fun hc => absurd hc (by decide)) (fun _ => ?_)
                  refine own_aloadN X (pc' := 162) d1_161 rfl rfl rfl ?_
                  refine own_iloadN X (pc' := 163) d1_162 rfl rfl ?_
                  refine own_iload X (pc' := 165) d1_163 rfl rfl ?_
                  refine own_iadd X (r := (6 : Int32)) (pc' := 166) d1_165 rfl (by decide) ?_
                  refine own_baload X (v := c6) (pc' := 167) A rfl rfl d1_166 rfl ?_
                  refine own_sipush X (v := (255 : Int32)) (pc' := 170) d1_167 rfl (by decide) ?_
                  refine own_iand X (r := (c6 &&& (255 : Int32))) (pc' := 171) d1_170 rfl rfl ?_
                  refine own_istore X (pc' := 173) (Ls' := #[.val (.ref a), .val (.int (3 : Int32)), .val (.int (c3 &&& (255 : Int32))), .val (.int len), .val (.int sec), .val (.int top), .val (.int (3 : Int32)), .val (.int (c6 &&& (255 : Int32))), .val (.int (1 : Int32))]) d1_171 rfl rfl ?_
                  refine own_iload X (pc' := 175) d1_173 rfl rfl ?_
                  refine own_iconst X (v := (1 : Int32)) (pc' := 176) d1_175 rfl (by decide) ?_
                  refine own_icmp_ne X (pct := 201) (pc' := 179) d1_176 rfl (by decide) (by decide) (fun _ => ?_) (fun hc => absurd hc (by decide))
                  refine own_iload X (pc' := 203) d1_201 rfl rfl ?_
                  refine own_sipush X (v := (128 : Int32)) (pc' := 206) d1_203 rfl (by decide) ?_
                  refine own_icmp_lt X (pct := 221) (pc' := 209) d1_206 rfl (by decide) (by decide) (fun hc206_8 => ?_) (fun hc206_8 => ?_)
                  · refine own_iconst X (v := (0 : Int32)) (pc' := 222) d1_221 rfl (by decide) ?_
                    refine own_istore X (pc' := 224) (Ls' := #[.val (.ref a), .val (.int (3 : Int32)), .val (.int (c3 &&& (255 : Int32))), .val (.int len), .val (.int sec), .val (.int top), .val (.int (3 : Int32)), .val (.int (c6 &&& (255 : Int32))), .val (.int (0 : Int32))]) d1_222 rfl rfl ?_
                    refine own_iload X (pc' := 226) d1_224 rfl rfl ?_
                    refine own_if_ne X (pct := 232) (pc' := 229) d1_226 rfl (by decide) (by decide) (fun hc => absurd hc (by decide)) (fun _ => ?_)
                    refine own_goto X (pc' := 238) d1_229 (by decide) (by decide) ?_
                    refine own_iload X (pc' := 240) d1_238 rfl rfl ?_
                    subst hΦ
                    exact own_retI X d1_240 (by decide) (by decide) (by rw [← j1, ← j2, ← j3, own_sqc, if_pos hc149_1, if_neg hc183_2, if_neg hc190_3, own_l2c, if_pos hc149_4, if_neg hc206_5, if_neg hc214_6, own_l3c, if_pos hc149_7, if_pos hc206_8]) rfl
                  · refine own_iload X (pc' := 211) d1_209 rfl rfl ?_
                    refine own_sipush X (v := (191 : Int32)) (pc' := 214) d1_211 rfl (by decide) ?_
                    refine own_icmp_gt X (pct := 221) (pc' := 217) d1_214 rfl (by decide) (by decide) (fun hc214_9 => ?_) (fun hc214_9 => ?_)
                    · refine own_iconst X (v := (0 : Int32)) (pc' := 222) d1_221 rfl (by decide) ?_
                      refine own_istore X (pc' := 224) (Ls' := #[.val (.ref a), .val (.int (3 : Int32)), .val (.int (c3 &&& (255 : Int32))), .val (.int len), .val (.int sec), .val (.int top), .val (.int (3 : Int32)), .val (.int (c6 &&& (255 : Int32))), .val (.int (0 : Int32))]) d1_222 rfl rfl ?_
                      refine own_iload X (pc' := 226) d1_224 rfl rfl ?_
                      refine own_if_ne X (pct := 232) (pc' := 229) d1_226 rfl (by decide) (by decide) (fun hc => absurd hc (by decide)) (fun _ => ?_)
                      refine own_goto X (pc' := 238) d1_229 (by decide) (by decide) ?_
                      refine own_iload X (pc' := 240) d1_238 rfl rfl ?_
                      subst hΦ
                      exact own_retI X d1_240 (by decide) (by decide) (by rw [← j1, ← j2, ← j3, own_sqc, if_pos hc149_1, if_neg hc183_2, if_neg hc190_3, own_l2c, if_pos hc149_4, if_neg hc206_5, if_neg hc214_6, own_l3c, if_pos hc149_7, if_neg hc206_8, if_pos hc214_9]) rfl
                    · refine own_iconst X (v := (1 : Int32)) (pc' := 218) d1_217 rfl (by decide) ?_
                      refine own_goto X (pc' := 222) d1_218 (by decide) (by decide) ?_
                      refine own_istore X (pc' := 224) (Ls' := #[.val (.ref a), .val (.int (3 : Int32)), .val (.int (c3 &&& (255 : Int32))), .val (.int len), .val (.int sec), .val (.int top), .val (.int (3 : Int32)), .val (.int (c6 &&& (255 : Int32))), .val (.int (1 : Int32))]) d1_222 rfl rfl ?_
                      refine own_iload X (pc' := 226) d1_224 rfl rfl ?_
                      refine own_if_ne X (pct := 232) (pc' := 229) d1_226 rfl (by decide) (by decide) (fun _ => ?_) (fun hc => absurd hc (by decide))
                      refine own_iinc X (pc' := 235) (Ls' := #[.val (.ref a), .val (.int (3 : Int32)), .val (.int (c3 &&& (255 : Int32))), .val (.int len), .val (.int sec), .val (.int top), .val (.int (4 : Int32)), .val (.int (c6 &&& (255 : Int32))), .val (.int (1 : Int32))]) (w := (4 : Int32)) d1_232 rfl rfl (by decide) rfl ?_
                      refine own_goto X (pc' := 146) d1_235 (by decide) (by decide) ?_
                      refine own_iload X (pc' := 148) d1_146 rfl rfl ?_
                      refine own_iloadN X (pc' := 149) d1_148 rfl rfl ?_
                      refine own_icmp_ge X (pct := 238) (pc' := 152) d1_149 rfl (by decide) (by decide) (fun _ => ?_) (fun hc => absurd hc (by rw [j1]; exact own_L4 _))
                      refine own_iload X (pc' := 240) d1_238 rfl rfl ?_
                      subst hΦ
                      exact own_retI X d1_240 (by decide) (by decide) (by rw [← j1, ← j2, ← j3, own_sqc, if_pos hc149_1, if_neg hc183_2, if_neg hc190_3, own_l2c, if_pos hc149_4, if_neg hc206_5, if_neg hc214_6, own_l3c, if_pos hc149_7, if_neg hc206_8, if_neg hc214_9]) rfl
  refine own_iloadN X (pc' := 19) d1_18 rfl rfl ?_
  refine own_sipush X (v := (128 : Int32)) (pc' := 22) d1_19 rfl (by decide) ?_
  refine own_icmp_ge X (pct := 30) (pc' := 25) d1_22 rfl (by decide) (by decide) (fun hc22_10 => ?_) (fun hc22_10 => ?_)
  · refine own_iloadN X (pc' := 31) d1_30 rfl rfl ?_
    refine own_sipush X (v := (194 : Int32)) (pc' := 34) d1_31 rfl (by decide) ?_
    refine own_icmp_lt X (pct := 49) (pc' := 37) d1_34 rfl (by decide) (by decide) (fun hc34_11 => ?_) (fun hc34_11 => ?_)
    · refine own_iloadN X (pc' := 50) d1_49 rfl rfl ?_
      refine own_sipush X (v := (224 : Int32)) (pc' := 53) d1_50 rfl (by decide) ?_
      refine own_icmp_lt X (pct := 86) (pc' := 56) d1_53 rfl (by decide) (by decide) (fun _ => ?_) (fun hc => absurd hc (by simp only [Int32.lt_iff_toInt_lt, ← Int32.toInt_inj, Int32.reduceToInt] at hc22_10 hc34_11 ⊢; omega))
      refine own_iloadN X (pc' := 87) d1_86 rfl rfl ?_
      refine own_sipush X (v := (240 : Int32)) (pc' := 90) d1_87 rfl (by decide) ?_
      refine own_icmp_lt X (pct := 141) (pc' := 93) d1_90 rfl (by decide) (by decide) (fun _ => ?_) (fun hc => absurd hc (by simp only [Int32.lt_iff_toInt_lt, ← Int32.toInt_inj, Int32.reduceToInt] at hc22_10 hc34_11 ⊢; omega))
      refine own_iconst X (v := (1 : Int32)) (pc' := 142) d1_141 rfl (by decide) ?_
      refine own_istoreN X (pc' := 143) (Ls' := #[.val (.ref a), .val (.int (3 : Int32)), .val (.int (c3 &&& (255 : Int32))), .val (.int (1 : Int32)), .val (.int (128 : Int32)), .val (.int (191 : Int32)), .unset, .unset, .unset]) d1_142 rfl rfl ?_
      exact J143 _ _ _ (by rw [Int32.lt_iff_toInt_lt] at hc22_10 hc34_11; simp only [Int32.reduceToInt] at hc22_10 hc34_11; unfold own_L; (repeat' split); all_goals first | rfl | omega) (by rw [Int32.lt_iff_toInt_lt] at hc22_10 hc34_11; simp only [Int32.reduceToInt] at hc22_10 hc34_11; unfold own_lo; (repeat' split); all_goals first | rfl | omega) (by rw [Int32.lt_iff_toInt_lt] at hc22_10 hc34_11; simp only [Int32.reduceToInt] at hc22_10 hc34_11; unfold own_hi; (repeat' split); all_goals first | rfl | omega)
    · refine own_iloadN X (pc' := 38) d1_37 rfl rfl ?_
      refine own_sipush X (v := (223 : Int32)) (pc' := 41) d1_38 rfl (by decide) ?_
      refine own_icmp_gt X (pct := 49) (pc' := 44) d1_41 rfl (by decide) (by decide) (fun hc41_12 => ?_) (fun hc41_12 => ?_)
      · refine own_iloadN X (pc' := 50) d1_49 rfl rfl ?_
        refine own_sipush X (v := (224 : Int32)) (pc' := 53) d1_50 rfl (by decide) ?_
        refine own_icmp_lt X (pct := 86) (pc' := 56) d1_53 rfl (by decide) (by decide) (fun hc => absurd hc (by simp only [Int32.lt_iff_toInt_lt, ← Int32.toInt_inj, Int32.reduceToInt] at hc22_10 hc34_11 hc41_12 ⊢; omega)) (fun _ => ?_)
        refine own_iloadN X (pc' := 57) d1_56 rfl rfl ?_
        refine own_sipush X (v := (239 : Int32)) (pc' := 60) d1_57 rfl (by decide) ?_
        refine own_icmp_gt X (pct := 86) (pc' := 63) d1_60 rfl (by decide) (by decide) (fun hc60_13 => ?_) (fun hc60_13 => ?_)
        · refine own_iloadN X (pc' := 87) d1_86 rfl rfl ?_
          refine own_sipush X (v := (240 : Int32)) (pc' := 90) d1_87 rfl (by decide) ?_
          refine own_icmp_lt X (pct := 141) (pc' := 93) d1_90 rfl (by decide) (by decide) (fun hc => absurd hc (by simp only [Int32.lt_iff_toInt_lt, ← Int32.toInt_inj, Int32.reduceToInt] at hc22_10 hc34_11 hc41_12 hc60_13 ⊢; omega)) (fun _ => ?_)
          refine own_iloadN X (pc' := 94) d1_93 rfl rfl ?_
          refine own_sipush X (v := (244 : Int32)) (pc' := 97) d1_94 rfl (by decide) ?_
          refine own_icmp_gt X (pct := 141) (pc' := 100) d1_97 rfl (by decide) (by decide) (fun hc97_14 => ?_) (fun hc97_14 => ?_)
          · refine own_iconst X (v := (1 : Int32)) (pc' := 142) d1_141 rfl (by decide) ?_
            refine own_istoreN X (pc' := 143) (Ls' := #[.val (.ref a), .val (.int (3 : Int32)), .val (.int (c3 &&& (255 : Int32))), .val (.int (1 : Int32)), .val (.int (128 : Int32)), .val (.int (191 : Int32)), .unset, .unset, .unset]) d1_142 rfl rfl ?_
            exact J143 _ _ _ (by rw [Int32.lt_iff_toInt_lt] at hc22_10 hc34_11 hc41_12 hc60_13 hc97_14; simp only [Int32.reduceToInt] at hc22_10 hc34_11 hc41_12 hc60_13 hc97_14; unfold own_L; (repeat' split); all_goals first | rfl | omega) (by rw [Int32.lt_iff_toInt_lt] at hc22_10 hc34_11 hc41_12 hc60_13 hc97_14; simp only [Int32.reduceToInt] at hc22_10 hc34_11 hc41_12 hc60_13 hc97_14; unfold own_lo; (repeat' split); all_goals first | rfl | omega) (by rw [Int32.lt_iff_toInt_lt] at hc22_10 hc34_11 hc41_12 hc60_13 hc97_14; simp only [Int32.reduceToInt] at hc22_10 hc34_11 hc41_12 hc60_13 hc97_14; unfold own_hi; (repeat' split); all_goals first | rfl | omega)
          · refine own_iconst X (v := (4 : Int32)) (pc' := 101) d1_100 rfl (by decide) ?_
            refine own_istoreN X (pc' := 102) (Ls' := #[.val (.ref a), .val (.int (3 : Int32)), .val (.int (c3 &&& (255 : Int32))), .val (.int (4 : Int32)), .val (.int (128 : Int32)), .val (.int (191 : Int32)), .unset, .unset, .unset]) d1_101 rfl rfl ?_
            refine own_iloadN X (pc' := 103) d1_102 rfl rfl ?_
            refine own_sipush X (v := (240 : Int32)) (pc' := 106) d1_103 rfl (by decide) ?_
            refine own_icmp_ne X (pct := 115) (pc' := 109) d1_106 rfl (by decide) (by decide) (fun hc106_15 => ?_) (fun hc106_15 => ?_)
            · refine own_sipush X (v := (128 : Int32)) (pc' := 118) d1_115 rfl (by decide) ?_
              refine own_istore X (pc' := 120) (Ls' := #[.val (.ref a), .val (.int (3 : Int32)), .val (.int (c3 &&& (255 : Int32))), .val (.int (4 : Int32)), .val (.int (128 : Int32)), .val (.int (191 : Int32)), .unset, .unset, .unset]) d1_118 rfl rfl ?_
              refine own_iloadN X (pc' := 121) d1_120 rfl rfl ?_
              refine own_sipush X (v := (244 : Int32)) (pc' := 124) d1_121 rfl (by decide) ?_
              refine own_icmp_ne X (pct := 133) (pc' := 127) d1_124 rfl (by decide) (by decide) (fun hc124_16 => ?_) (fun hc124_16 => ?_)
              · refine own_sipush X (v := (191 : Int32)) (pc' := 136) d1_133 rfl (by decide) ?_
                refine own_istore X (pc' := 138) (Ls' := #[.val (.ref a), .val (.int (3 : Int32)), .val (.int (c3 &&& (255 : Int32))), .val (.int (4 : Int32)), .val (.int (128 : Int32)), .val (.int (191 : Int32)), .unset, .unset, .unset]) d1_136 rfl rfl ?_
                refine own_goto X (pc' := 143) d1_138 (by decide) (by decide) ?_
                exact J143 _ _ _ (by rw [Int32.lt_iff_toInt_lt] at hc22_10 hc34_11 hc41_12 hc60_13 hc97_14; rw [← Int32.toInt_inj] at hc106_15 hc124_16; simp only [Int32.reduceToInt] at hc22_10 hc34_11 hc41_12 hc60_13 hc97_14 hc106_15 hc124_16; unfold own_L; (repeat' split); all_goals first | rfl | omega) (by rw [Int32.lt_iff_toInt_lt] at hc22_10 hc34_11 hc41_12 hc60_13 hc97_14; rw [← Int32.toInt_inj] at hc106_15 hc124_16; simp only [Int32.reduceToInt] at hc22_10 hc34_11 hc41_12 hc60_13 hc97_14 hc106_15 hc124_16; unfold own_lo; (repeat' split); all_goals first | rfl | omega) (by rw [Int32.lt_iff_toInt_lt] at hc22_10 hc34_11 hc41_12 hc60_13 hc97_14; rw [← Int32.toInt_inj] at hc106_15 hc124_16; simp only [Int32.reduceToInt] at hc22_10 hc34_11 hc41_12 hc60_13 hc97_14 hc106_15 hc124_16; unfold own_hi; (repeat' split); all_goals first | rfl | omega)
              · refine own_sipush X (v := (143 : Int32)) (pc' := 130) d1_127 rfl (by decide) ?_
                refine own_goto X (pc' := 136) d1_130 (by decide) (by decide) ?_
                refine own_istore X (pc' := 138) (Ls' := #[.val (.ref a), .val (.int (3 : Int32)), .val (.int (c3 &&& (255 : Int32))), .val (.int (4 : Int32)), .val (.int (128 : Int32)), .val (.int (143 : Int32)), .unset, .unset, .unset]) d1_136 rfl rfl ?_
                refine own_goto X (pc' := 143) d1_138 (by decide) (by decide) ?_
                exact J143 _ _ _ (by rw [Int32.lt_iff_toInt_lt] at hc22_10 hc34_11 hc41_12 hc60_13 hc97_14; rw [← Int32.toInt_inj] at hc106_15 hc124_16; simp only [Int32.reduceToInt] at hc22_10 hc34_11 hc41_12 hc60_13 hc97_14 hc106_15 hc124_16; unfold own_L; (repeat' split); all_goals first | rfl | omega) (by rw [Int32.lt_iff_toInt_lt] at hc22_10 hc34_11 hc41_12 hc60_13 hc97_14; rw [← Int32.toInt_inj] at hc106_15 hc124_16; simp only [Int32.reduceToInt] at hc22_10 hc34_11 hc41_12 hc60_13 hc97_14 hc106_15 hc124_16; unfold own_lo; (repeat' split); all_goals first | rfl | omega) (by rw [Int32.lt_iff_toInt_lt] at hc22_10 hc34_11 hc41_12 hc60_13 hc97_14; rw [← Int32.toInt_inj] at hc106_15 hc124_16; simp only [Int32.reduceToInt] at hc22_10 hc34_11 hc41_12 hc60_13 hc97_14 hc106_15 hc124_16; unfold own_hi; (repeat' split); all_goals first | rfl | omega)
            · refine own_sipush X (v := (144 : Int32)) (pc' := 112) d1_109 rfl (by decide) ?_
              refine own_goto X (pc' := 118) d1_112 (by decide) (by decide) ?_
              refine own_istore X (pc' := 120) (Ls' := #[.val (.ref a), .val (.int (3 : Int32)), .val (.int (c3 &&& (255 : Int32))), .val (.int (4 : Int32)), .val (.int (144 : Int32)), .val (.int (191 : Int32)), .unset, .unset, .unset]) d1_118 rfl rfl ?_
              refine own_iloadN X (pc' := 121) d1_120 rfl rfl ?_
              refine own_sipush X (v := (244 : Int32)) (pc' := 124) d1_121 rfl (by decide) ?_
              refine own_icmp_ne X (pct := 133) (pc' := 127) d1_124 rfl (by decide) (by decide) (fun _ => ?_) (fun hc => absurd hc (by simp only [Int32.lt_iff_toInt_lt, ← Int32.toInt_inj, Int32.reduceToInt] at hc22_10 hc34_11 hc41_12 hc60_13 hc97_14 hc106_15 ⊢; omega))
              refine own_sipush X (v := (191 : Int32)) (pc' := 136) d1_133 rfl (by decide) ?_
              refine own_istore X (pc' := 138) (Ls' := #[.val (.ref a), .val (.int (3 : Int32)), .val (.int (c3 &&& (255 : Int32))), .val (.int (4 : Int32)), .val (.int (144 : Int32)), .val (.int (191 : Int32)), .unset, .unset, .unset]) d1_136 rfl rfl ?_
              refine own_goto X (pc' := 143) d1_138 (by decide) (by decide) ?_
              exact J143 _ _ _ (by rw [Int32.lt_iff_toInt_lt] at hc22_10 hc34_11 hc41_12 hc60_13 hc97_14; rw [← Int32.toInt_inj] at hc106_15; simp only [Int32.reduceToInt] at hc22_10 hc34_11 hc41_12 hc60_13 hc97_14 hc106_15; unfold own_L; (repeat' split); all_goals first | rfl | omega) (by rw [Int32.lt_iff_toInt_lt] at hc22_10 hc34_11 hc41_12 hc60_13 hc97_14; rw [← Int32.toInt_inj] at hc106_15; simp only [Int32.reduceToInt] at hc22_10 hc34_11 hc41_12 hc60_13 hc97_14 hc106_15; unfold own_lo; (repeat' split); all_goals first | rfl | omega) (by rw [Int32.lt_iff_toInt_lt] at hc22_10 hc34_11 hc41_12 hc60_13 hc97_14; rw [← Int32.toInt_inj] at hc106_15; simp only [Int32.reduceToInt] at hc22_10 hc34_11 hc41_12 hc60_13 hc97_14 hc106_15; unfold own_hi; (repeat' split); all_goals first | rfl | omega)
        · refine own_iconst X (v := (3 : Int32)) (pc' := 64) d1_63 rfl (by decide) ?_
          refine own_istoreN X (pc' := 65) (Ls' := #[.val (.ref a), .val (.int (3 : Int32)), .val (.int (c3 &&& (255 : Int32))), .val (.int (3 : Int32)), .val (.int (128 : Int32)), .val (.int (191 : Int32)), .unset, .unset, .unset]) d1_64 rfl rfl ?_
          refine own_iloadN X (pc' := 66) d1_65 rfl rfl ?_
          refine own_sipush X (v := (224 : Int32)) (pc' := 69) d1_66 rfl (by decide) ?_
          refine own_icmp_ne X (pct := 78) (pc' := 72) d1_69 rfl (by decide) (by decide) (fun hc69_17 => ?_) (fun hc69_17 => ?_)
          · refine own_sipush X (v := (128 : Int32)) (pc' := 81) d1_78 rfl (by decide) ?_
            refine own_istore X (pc' := 83) (Ls' := #[.val (.ref a), .val (.int (3 : Int32)), .val (.int (c3 &&& (255 : Int32))), .val (.int (3 : Int32)), .val (.int (128 : Int32)), .val (.int (191 : Int32)), .unset, .unset, .unset]) d1_81 rfl rfl ?_
            refine own_goto X (pc' := 143) d1_83 (by decide) (by decide) ?_
            exact J143 _ _ _ (by rw [Int32.lt_iff_toInt_lt] at hc22_10 hc34_11 hc41_12 hc60_13; rw [← Int32.toInt_inj] at hc69_17; simp only [Int32.reduceToInt] at hc22_10 hc34_11 hc41_12 hc60_13 hc69_17; unfold own_L; (repeat' split); all_goals first | rfl | omega) (by rw [Int32.lt_iff_toInt_lt] at hc22_10 hc34_11 hc41_12 hc60_13; rw [← Int32.toInt_inj] at hc69_17; simp only [Int32.reduceToInt] at hc22_10 hc34_11 hc41_12 hc60_13 hc69_17; unfold own_lo; (repeat' split); all_goals first | rfl | omega) (by rw [Int32.lt_iff_toInt_lt] at hc22_10 hc34_11 hc41_12 hc60_13; rw [← Int32.toInt_inj] at hc69_17; simp only [Int32.reduceToInt] at hc22_10 hc34_11 hc41_12 hc60_13 hc69_17; unfold own_hi; (repeat' split); all_goals first | rfl | omega)
          · refine own_sipush X (v := (160 : Int32)) (pc' := 75) d1_72 rfl (by decide) ?_
            refine own_goto X (pc' := 81) d1_75 (by decide) (by decide) ?_
            refine own_istore X (pc' := 83) (Ls' := #[.val (.ref a), .val (.int (3 : Int32)), .val (.int (c3 &&& (255 : Int32))), .val (.int (3 : Int32)), .val (.int (160 : Int32)), .val (.int (191 : Int32)), .unset, .unset, .unset]) d1_81 rfl rfl ?_
            refine own_goto X (pc' := 143) d1_83 (by decide) (by decide) ?_
            exact J143 _ _ _ (by rw [Int32.lt_iff_toInt_lt] at hc22_10 hc34_11 hc41_12 hc60_13; rw [← Int32.toInt_inj] at hc69_17; simp only [Int32.reduceToInt] at hc22_10 hc34_11 hc41_12 hc60_13 hc69_17; unfold own_L; (repeat' split); all_goals first | rfl | omega) (by rw [Int32.lt_iff_toInt_lt] at hc22_10 hc34_11 hc41_12 hc60_13; rw [← Int32.toInt_inj] at hc69_17; simp only [Int32.reduceToInt] at hc22_10 hc34_11 hc41_12 hc60_13 hc69_17; unfold own_lo; (repeat' split); all_goals first | rfl | omega) (by rw [Int32.lt_iff_toInt_lt] at hc22_10 hc34_11 hc41_12 hc60_13; rw [← Int32.toInt_inj] at hc69_17; simp only [Int32.reduceToInt] at hc22_10 hc34_11 hc41_12 hc60_13 hc69_17; unfold own_hi; (repeat' split); all_goals first | rfl | omega)
      · refine own_iconst X (v := (2 : Int32)) (pc' := 45) d1_44 rfl (by decide) ?_
        refine own_istoreN X (pc' := 46) (Ls' := #[.val (.ref a), .val (.int (3 : Int32)), .val (.int (c3 &&& (255 : Int32))), .val (.int (2 : Int32)), .val (.int (128 : Int32)), .val (.int (191 : Int32)), .unset, .unset, .unset]) d1_45 rfl rfl ?_
        refine own_goto X (pc' := 143) d1_46 (by decide) (by decide) ?_
        exact J143 _ _ _ (by rw [Int32.lt_iff_toInt_lt] at hc22_10 hc34_11 hc41_12; simp only [Int32.reduceToInt] at hc22_10 hc34_11 hc41_12; unfold own_L; (repeat' split); all_goals first | rfl | omega) (by rw [Int32.lt_iff_toInt_lt] at hc22_10 hc34_11 hc41_12; simp only [Int32.reduceToInt] at hc22_10 hc34_11 hc41_12; unfold own_lo; (repeat' split); all_goals first | rfl | omega) (by rw [Int32.lt_iff_toInt_lt] at hc22_10 hc34_11 hc41_12; simp only [Int32.reduceToInt] at hc22_10 hc34_11 hc41_12; unfold own_hi; (repeat' split); all_goals first | rfl | omega)
  · refine own_iconst X (v := (1 : Int32)) (pc' := 26) d1_25 rfl (by decide) ?_
    refine own_istoreN X (pc' := 27) (Ls' := #[.val (.ref a), .val (.int (3 : Int32)), .val (.int (c3 &&& (255 : Int32))), .val (.int (1 : Int32)), .val (.int (128 : Int32)), .val (.int (191 : Int32)), .unset, .unset, .unset]) d1_26 rfl rfl ?_
    refine own_goto X (pc' := 143) d1_27 (by decide) (by decide) ?_
    exact J143 _ _ _ (by rw [Int32.lt_iff_toInt_lt] at hc22_10; simp only [Int32.reduceToInt] at hc22_10; unfold own_L; (repeat' split); all_goals first | rfl | omega) (by rw [Int32.lt_iff_toInt_lt] at hc22_10; simp only [Int32.reduceToInt] at hc22_10; unfold own_lo; (repeat' split); all_goals first | rfl | omega) (by rw [Int32.lt_iff_toInt_lt] at hc22_10; simp only [Int32.reduceToInt] at hc22_10; unfold own_hi; (repeat' split); all_goals first | rfl | omega)
theorem pn_rm2_3 : plainFor (⟨"com/example/quern/quern/text/TextBytesSequenceLengthPinLaw", "expected", "([BI)I"⟩ : MethodName) = true := plainFor_of_name (by first | (simp [plainName, overriddenIn]; done) | decide +kernel)
theorem ef_rm2_3 (m : MethodId) (x0 : Addr) (x1 : Int32) : entryFrame m #[(.ref x0), (.int x1)] 6 = mkF m 0 #[.val (.ref x0), .val (.int x1), .unset, .unset, .unset, .unset] [] := by first | (simp [entryFrame, mkF, argsToLocals, Value.category]; done) | rfl
set_option maxRecDepth 65536 in
set_option maxHeartbeats 4000000 in
theorem rm2_3 (l : Launch) (Z : State) (a0 : Array Value) (hw : ∀ d ∈ tables_1, d.before a0 Z = true) (n0 : Nat) (a : Addr) (h0 : Heap) (hn0 : n0 ≤ h0.size) (c0 c1 c2 c3 c4 c5 c6 c7 : Int32) (A : own_A Z h0 a .byte [c0, c1, c2, c3, c4, c5, c6, c7]) :
    own_Met l (⟨"com/example/quern/quern/text/TextBytesSequenceLengthPinLaw", "expected", "([BI)I"⟩ : MethodName) method_7_code 6 (some .int) ({ frames := 1, cells := 0, slots := 0, locals := 20 } : Room) Z n0 #[(.ref a), (.int (3 : Int32))] h0 (some (.int (own_ex (own_L (c3 &&& (255 : Int32))) (c3 &&& (255 : Int32)) [(c4 &&& (255 : Int32)), (c5 &&& (255 : Int32)), (c6 &&& (255 : Int32)), (c7 &&& (255 : Int32))]))) (fun h' => h' = h0) := by
  refine own_met pn_rm2_3 hn0 ?_
  intro p e s m below meth c T X
  refine own_cast (ef_rm2_3 m a (3 : Int32)) ?_
  generalize hΦ : own_Q n0 below s _ _ _ = Φ
  refine own_aloadN X (pc' := 1) d2_0 rfl rfl rfl ?_
  refine own_iloadN X (pc' := 2) d2_1 rfl rfl ?_
  refine own_callS X (W := 0) (argsL := [(.ref a), (.int (3 : Int32))]) (rest := []) (S' := [(.int (c3 &&& (255 : Int32)))]) (pc' := 5) (rm3 l Z a0 hw n0 a (3 : Int32) h0 X.size _ A c3 rfl rfl) (hw _ (List.mem_of_getElem? (i := 9) rfl)) (hw _ (List.mem_of_getElem? (i := 10) rfl)) (hw _ (List.mem_of_getElem? (i := 7) rfl)) (hw _ (List.mem_of_getElem? (i := 11) rfl)) (by decide) (by decide) (by decide) rfl rfl (by decide) (by decide) (lenOf pd_0 rfl) rfl (by first | decide | exact Nat.le_of_eq rfl) rfl d2_2 rfl rfl ?_
  intro T1 h1 X1 qq1
  rw [show h1 = h0 from qq1] at X1
  refine own_istoreN X1 (pc' := 6) (Ls' := #[.val (.ref a), .val (.int (3 : Int32)), .val (.int (c3 &&& (255 : Int32))), .unset, .unset, .unset]) d2_5 rfl rfl ?_
  refine own_iloadN X1 (pc' := 7) d2_6 rfl rfl ?_
  refine own_callS X1 (W := 0) (argsL := [(.int (c3 &&& (255 : Int32)))]) (rest := []) (S' := [(.int (own_L (c3 &&& (255 : Int32))))]) (pc' := 10) (rm4 l Z a0 hw n0 (c3 &&& (255 : Int32)) h0 X1.size) (hw _ (List.mem_of_getElem? (i := 12) rfl)) (hw _ (List.mem_of_getElem? (i := 13) rfl)) (hw _ (List.mem_of_getElem? (i := 7) rfl)) (hw _ (List.mem_of_getElem? (i := 14) rfl)) (by decide) (by decide) (by decide) rfl rfl (by decide) (by decide) (lenOf pd_1 rfl) rfl (by first | decide | exact Nat.le_of_eq rfl) rfl d2_7 rfl rfl ?_
  intro T2 h2 X2 qq2
  rw [show h2 = h0 from qq2] at X2
  refine own_istoreN X2 (pc' := 11) (Ls' := #[.val (.ref a), .val (.int (3 : Int32)), .val (.int (c3 &&& (255 : Int32))), .val (.int (own_L (c3 &&& (255 : Int32)))), .unset, .unset]) d2_10 rfl rfl ?_
  refine own_aloadN X2 (pc' := 12) d2_11 rfl rfl rfl ?_
  refine own_len X2 (v := (8 : Int32)) (pc' := 13) A (by first | rfl | decide) d2_12 rfl ?_
  refine own_iloadN X2 (pc' := 14) d2_13 rfl rfl ?_
  refine own_isub X2 (r := (5 : Int32)) (pc' := 15) d2_14 rfl (by decide) ?_
  refine own_istore X2 (pc' := 17) (Ls' := #[.val (.ref a), .val (.int (3 : Int32)), .val (.int (c3 &&& (255 : Int32))), .val (.int (own_L (c3 &&& (255 : Int32)))), .val (.int (5 : Int32)), .unset]) d2_15 rfl rfl ?_
  refine own_iconst X2 (v := (1 : Int32)) (pc' := 18) d2_17 rfl (by decide) ?_
  refine own_istore X2 (pc' := 20) (Ls' := #[.val (.ref a), .val (.int (3 : Int32)), .val (.int (c3 &&& (255 : Int32))), .val (.int (own_L (c3 &&& (255 : Int32)))), .val (.int (5 : Int32)), .val (.int (1 : Int32))]) d2_18 rfl rfl ?_
  refine own_iloadN X2 (pc' := 21) d2_20 rfl rfl ?_
  refine own_iconst X2 (v := (2 : Int32)) (pc' := 22) d2_21 rfl (by decide) ?_
  refine own_icmp_lt X2 (pct := 102) (pc' := 25) d2_22 rfl (by decide) (by decide) (fun hc22_3 => ?_) (fun hc22_3 => ?_)
  · refine own_iload X2 (pc' := 104) d2_102 rfl rfl ?_
    subst hΦ
    exact own_retI X2 d2_104 (by decide) (by decide) (by rw [own_exc, if_pos hc22_3]) rfl
  · refine own_iload X2 (pc' := 27) d2_25 rfl rfl ?_
    refine own_iconst X2 (v := (2 : Int32)) (pc' := 28) d2_27 rfl (by decide) ?_
    refine own_icmp_lt X2 (pct := 102) (pc' := 31) d2_28 rfl (by decide) (by decide) (fun hc => absurd hc (by decide)) (fun _ => ?_)
    refine own_iloadN X2 (pc' := 32) d2_31 rfl rfl ?_
    refine own_aloadN X2 (pc' := 33) d2_32 rfl rfl rfl ?_
    refine own_iloadN X2 (pc' := 34) d2_33 rfl rfl ?_
    refine own_iconst X2 (v := (1 : Int32)) (pc' := 35) d2_34 rfl (by decide) ?_
    refine own_iadd X2 (r := (4 : Int32)) (pc' := 36) d2_35 rfl (by decide) ?_
    refine own_callS X2 (W := 1) (argsL := [(.ref a), (.int (4 : Int32))]) (rest := [(.int (c3 &&& (255 : Int32)))]) (S' := [(.int (c4 &&& (255 : Int32))), (.int (c3 &&& (255 : Int32)))]) (pc' := 39) (rm3 l Z a0 hw n0 a (4 : Int32) h0 X2.size _ A c4 rfl rfl) (hw _ (List.mem_of_getElem? (i := 9) rfl)) (hw _ (List.mem_of_getElem? (i := 10) rfl)) (hw _ (List.mem_of_getElem? (i := 7) rfl)) (hw _ (List.mem_of_getElem? (i := 11) rfl)) (by decide) (by decide) (by decide) rfl rfl (by decide) (by decide) (lenOf pd_0 rfl) rfl (by first | decide | exact Nat.le_of_eq rfl) rfl d2_36 rfl rfl ?_
    intro T4 h4 X4 qq4
    rw [show h4 = h0 from qq4] at X4
    refine own_callS X4 (W := 0) (argsL := [(.int (c3 &&& (255 : Int32))), (.int (c4 &&& (255 : Int32)))]) (rest := []) (S' := [(.int (own_sf (c3 &&& (255 : Int32)) (c4 &&& (255 : Int32))))]) (pc' := 42) (rm5 l Z a0 hw n0 (c3 &&& (255 : Int32)) (c4 &&& (255 : Int32)) h0 X4.size) (hw _ (List.mem_of_getElem? (i := 15) rfl)) (hw _ (List.mem_of_getElem? (i := 16) rfl)) (hw _ (List.mem_of_getElem? (i := 7) rfl)) (hw _ (List.mem_of_getElem? (i := 17) rfl)) (by decide) (by decide) (by decide) rfl rfl (by decide) (by decide) (lenOf pd_2 rfl) rfl (by first | decide | exact Nat.le_of_eq rfl) rfl d2_39 rfl rfl ?_
    intro T5 h5 X5 qq5
    rw [show h5 = h0 from qq5] at X5
    refine own_if_eq X5 (pct := 102) (pc' := 45) d2_42 rfl (by decide) (by decide) (fun hc42_6 => ?_) (fun hc42_6 => ?_)
    · refine own_iload X5 (pc' := 104) d2_102 rfl rfl ?_
      subst hΦ
      exact own_retI X5 d2_104 (by decide) (by decide) (by rw [own_exc, if_neg hc22_3, if_pos hc42_6]) rfl
    · refine own_iconst X5 (v := (2 : Int32)) (pc' := 46) d2_45 rfl (by decide) ?_
      refine own_istore X5 (pc' := 48) (Ls' := #[.val (.ref a), .val (.int (3 : Int32)), .val (.int (c3 &&& (255 : Int32))), .val (.int (own_L (c3 &&& (255 : Int32)))), .val (.int (5 : Int32)), .val (.int (2 : Int32))]) d2_46 rfl rfl ?_
      refine own_iloadN X5 (pc' := 49) d2_48 rfl rfl ?_
      refine own_iconst X5 (v := (3 : Int32)) (pc' := 50) d2_49 rfl (by decide) ?_
      refine own_icmp_lt X5 (pct := 102) (pc' := 53) d2_50 rfl (by decide) (by decide) (fun hc50_7 => ?_) (fun hc50_7 => ?_)
      · refine own_iload X5 (pc' := 104) d2_102 rfl rfl ?_
        subst hΦ
        exact own_retI X5 d2_104 (by decide) (by decide) (by rw [own_exc, if_neg hc22_3, if_neg hc42_6, own_e2c, if_pos hc50_7]) rfl
      · refine own_iload X5 (pc' := 55) d2_53 rfl rfl ?_
        refine own_iconst X5 (v := (3 : Int32)) (pc' := 56) d2_55 rfl (by decide) ?_
        refine own_icmp_lt X5 (pct := 102) (pc' := 59) d2_56 rfl (by decide) (by decide) (fun hc => absurd hc (by decide)) (fun _ => ?_)
        refine own_aloadN X5 (pc' := 60) d2_59 rfl rfl rfl ?_
        refine own_iloadN X5 (pc' := 61) d2_60 rfl rfl ?_
        refine own_iconst X5 (v := (2 : Int32)) (pc' := 62) d2_61 rfl (by decide) ?_
        refine own_iadd X5 (r := (5 : Int32)) (pc' := 63) d2_62 rfl (by decide) ?_
        refine own_callS X5 (W := 0) (argsL := [(.ref a), (.int (5 : Int32))]) (rest := []) (S' := [(.int (c5 &&& (255 : Int32)))]) (pc' := 66) (rm3 l Z a0 hw n0 a (5 : Int32) h0 X5.size _ A c5 rfl rfl) (hw _ (List.mem_of_getElem? (i := 9) rfl)) (hw _ (List.mem_of_getElem? (i := 10) rfl)) (hw _ (List.mem_of_getElem? (i := 7) rfl)) (hw _ (List.mem_of_getElem? (i := 11) rfl)) (by decide) (by decide) (by decide) rfl rfl (by decide) (by decide) (lenOf pd_0 rfl) rfl (by first | decide | exact Nat.le_of_eq rfl) rfl d2_63 rfl rfl ?_
        intro T8 h8 X8 qq8
        rw [show h8 = h0 from qq8] at X8
        refine own_callS X8 (W := 0) (argsL := [(.int (c5 &&& (255 : Int32)))]) (rest := []) (S' := [(.int (own_ct (c5 &&& (255 : Int32))))]) (pc' := 69) (rm6 l Z a0 hw n0 (c5 &&& (255 : Int32)) h0 X8.size) (hw _ (List.mem_of_getElem? (i := 18) rfl)) (hw _ (List.mem_of_getElem? (i := 19) rfl)) (hw _ (List.mem_of_getElem? (i := 7) rfl)) (hw _ (List.mem_of_getElem? (i := 20) rfl)) (by decide) (by decide) (by decide) rfl rfl (by decide) (by decide) (lenOf pd_3 rfl) rfl (by first | decide | exact Nat.le_of_eq rfl) rfl d2_66 rfl rfl ?_
        intro T9 h9 X9 qq9
        rw [show h9 = h0 from qq9] at X9
        refine own_if_eq X9 (pct := 102) (pc' := 72) d2_69 rfl (by decide) (by decide) (fun hc69_10 => ?_) (fun hc69_10 => ?_)
        · refine own_iload X9 (pc' := 104) d2_102 rfl rfl ?_
          subst hΦ
          exact own_retI X9 d2_104 (by decide) (by decide) (by rw [own_exc, if_neg hc22_3, if_neg hc42_6, own_e2c, if_neg hc50_7, if_pos hc69_10]) rfl
        · refine own_iconst X9 (v := (3 : Int32)) (pc' := 73) d2_72 rfl (by decide) ?_
          refine own_istore X9 (pc' := 75) (Ls' := #[.val (.ref a), .val (.int (3 : Int32)), .val (.int (c3 &&& (255 : Int32))), .val (.int (own_L (c3 &&& (255 : Int32)))), .val (.int (5 : Int32)), .val (.int (3 : Int32))]) d2_73 rfl rfl ?_
          refine own_iloadN X9 (pc' := 76) d2_75 rfl rfl ?_
          refine own_iconst X9 (v := (4 : Int32)) (pc' := 77) d2_76 rfl (by decide) ?_
          refine own_icmp_lt X9 (pct := 102) (pc' := 80) d2_77 rfl (by decide) (by decide) (fun hc77_11 => ?_) (fun hc77_11 => ?_)
          · refine own_iload X9 (pc' := 104) d2_102 rfl rfl ?_
            subst hΦ
            exact own_retI X9 d2_104 (by decide) (by decide) (by rw [own_exc, if_neg hc22_3, if_neg hc42_6, own_e2c, if_neg hc50_7, if_neg hc69_10, own_e3c, if_pos hc77_11]) rfl
          · refine own_iload X9 (pc' := 82) d2_80 rfl rfl ?_
            refine own_iconst X9 (v := (4 : Int32)) (pc' := 83) d2_82 rfl (by decide) ?_
            refine own_icmp_lt X9 (pct := 102) (pc' := 86) d2_83 rfl (by decide) (by decide) (fun hc => absurd hc (by decide)) (fun _ => ?_)
            refine own_aloadN X9 (pc' := 87) d2_86 rfl rfl rfl ?_
            refine own_iloadN X9 (pc' := 88) d2_87 rfl rfl ?_
            refine own_iconst X9 (v := (3 : Int32)) (pc' := 89) d2_88 rfl (by decide) ?_
            refine own_iadd X9 (r := (6 : Int32)) (pc' := 90) d2_89 rfl (by decide) ?_
            refine own_callS X9 (W := 0) (argsL := [(.ref a), (.int (6 : Int32))]) (rest := []) (S' := [(.int (c6 &&& (255 : Int32)))]) (pc' := 93) (rm3 l Z a0 hw n0 a (6 : Int32) h0 X9.size _ A c6 rfl rfl) (hw _ (List.mem_of_getElem? (i := 9) rfl)) (hw _ (List.mem_of_getElem? (i := 10) rfl)) (hw _ (List.mem_of_getElem? (i := 7) rfl)) (hw _ (List.mem_of_getElem? (i := 11) rfl)) (by decide) (by decide) (by decide) rfl rfl (by decide) (by decide) (lenOf pd_0 rfl) rfl (by first | decide | exact Nat.le_of_eq rfl) rfl d2_90 rfl rfl ?_
            intro T12 h12 X12 qq12
            rw [show h12 = h0 from qq12] at X12
            refine own_callS X12 (W := 0) (argsL := [(.int (c6 &&& (255 : Int32)))]) (rest := []) (S' := [(.int (own_ct (c6 &&& (255 : Int32))))]) (pc' := 96) (rm6 l Z a0 hw n0 (c6 &&& (255 : Int32)) h0 X12.size) (hw _ (List.mem_of_getElem? (i := 18) rfl)) (hw _ (List.mem_of_getElem? (i := 19) rfl)) (hw _ (List.mem_of_getElem? (i := 7) rfl)) (hw _ (List.mem_of_getElem? (i := 20) rfl)) (by decide) (by decide) (by decide) rfl rfl (by decide) (by decide) (lenOf pd_3 rfl) rfl (by first | decide | exact Nat.le_of_eq rfl) rfl d2_93 rfl rfl ?_
            intro T13 h13 X13 qq13
            rw [show h13 = h0 from qq13] at X13
            refine own_if_eq X13 (pct := 102) (pc' := 99) d2_96 rfl (by decide) (by decide) (fun hc96_14 => ?_) (fun hc96_14 => ?_)
            · refine own_iload X13 (pc' := 104) d2_102 rfl rfl ?_
              subst hΦ
              exact own_retI X13 d2_104 (by decide) (by decide) (by rw [own_exc, if_neg hc22_3, if_neg hc42_6, own_e2c, if_neg hc50_7, if_neg hc69_10, own_e3c, if_neg hc77_11, if_pos hc96_14]) rfl
            · refine own_iconst X13 (v := (4 : Int32)) (pc' := 100) d2_99 rfl (by decide) ?_
              refine own_istore X13 (pc' := 102) (Ls' := #[.val (.ref a), .val (.int (3 : Int32)), .val (.int (c3 &&& (255 : Int32))), .val (.int (own_L (c3 &&& (255 : Int32)))), .val (.int (5 : Int32)), .val (.int (4 : Int32))]) d2_100 rfl rfl ?_
              refine own_iload X13 (pc' := 104) d2_102 rfl rfl ?_
              subst hΦ
              exact own_retI X13 d2_104 (by decide) (by decide) (by rw [own_exc, if_neg hc22_3, if_neg hc42_6, own_e2c, if_neg hc50_7, if_neg hc69_10, own_e3c, if_neg hc77_11, if_neg hc96_14]) rfl
theorem pn_rm1_4 : plainFor (⟨"com/example/quern/quern/text/TextBytes", "sequenceLength", "([BI)I"⟩ : MethodName) = true := plainFor_of_name (by first | (simp [plainName, overriddenIn]; done) | decide +kernel)
theorem ef_rm1_4 (m : MethodId) (x0 : Addr) (x1 : Int32) : entryFrame m #[(.ref x0), (.int x1)] 9 = mkF m 0 #[.val (.ref x0), .val (.int x1), .unset, .unset, .unset, .unset, .unset, .unset, .unset] [] := by first | (simp [entryFrame, mkF, argsToLocals, Value.category]; done) | rfl
set_option maxRecDepth 65536 in
set_option maxHeartbeats 4000000 in
theorem rm1_4 (l : Launch) (Z : State) (a0 : Array Value) (hw : ∀ d ∈ tables_1, d.before a0 Z = true) (n0 : Nat) (a : Addr) (h0 : Heap) (hn0 : n0 ≤ h0.size) (c0 c1 c2 c3 c4 c5 c6 c7 : Int32) (A : own_A Z h0 a .byte [c0, c1, c2, c3, c4, c5, c6, c7]) :
    own_Met l (⟨"com/example/quern/quern/text/TextBytes", "sequenceLength", "([BI)I"⟩ : MethodName) prog_310_method_5_code 9 (some .int) ({ frames := 0, cells := 0, slots := 0, locals := 0 } : Room) Z n0 #[(.ref a), (.int (4 : Int32))] h0 (some (.int (own_sq (own_L (c4 &&& (255 : Int32))) (own_lo (c4 &&& (255 : Int32))) (own_hi (c4 &&& (255 : Int32))) [(c5 &&& (255 : Int32)), (c6 &&& (255 : Int32)), (c7 &&& (255 : Int32))]))) (fun h' => h' = h0) := by
  refine own_met pn_rm1_4 hn0 ?_
  intro p e s m below meth c T X
  refine own_cast (ef_rm1_4 m a (4 : Int32)) ?_
  generalize hΦ : own_Q n0 below s _ _ _ = Φ
  refine own_aloadN X (pc' := 1) d1_0 rfl rfl rfl ?_
  refine own_iloadN X (pc' := 2) d1_1 rfl rfl ?_
  refine own_baload X (v := c4) (pc' := 3) A rfl rfl d1_2 rfl ?_
  refine own_sipush X (v := (255 : Int32)) (pc' := 6) d1_3 rfl (by decide) ?_
  refine own_iand X (r := (c4 &&& (255 : Int32))) (pc' := 7) d1_6 rfl rfl ?_
  refine own_istoreN X (pc' := 8) (Ls' := #[.val (.ref a), .val (.int (4 : Int32)), .val (.int (c4 &&& (255 : Int32))), .unset, .unset, .unset, .unset, .unset, .unset]) d1_7 rfl rfl ?_
  refine own_sipush X (v := (128 : Int32)) (pc' := 11) d1_8 rfl (by decide) ?_
  refine own_istore X (pc' := 13) (Ls' := #[.val (.ref a), .val (.int (4 : Int32)), .val (.int (c4 &&& (255 : Int32))), .unset, .val (.int (128 : Int32)), .unset, .unset, .unset, .unset]) d1_11 rfl rfl ?_
  refine own_sipush X (v := (191 : Int32)) (pc' := 16) d1_13 rfl (by decide) ?_
  refine own_istore X (pc' := 18) (Ls' := #[.val (.ref a), .val (.int (4 : Int32)), .val (.int (c4 &&& (255 : Int32))), .unset, .val (.int (128 : Int32)), .val (.int (191 : Int32)), .unset, .unset, .unset]) d1_16 rfl rfl ?_
  have J143 : ∀ (len sec top : Int32) (_ : len = own_L (c4 &&& (255 : Int32))) (_ : sec = own_lo (c4 &&& (255 : Int32))) (_ : top = own_hi (c4 &&& (255 : Int32))), own_G p e below Φ T (mkF m 143 #[.val (.ref a), .val (.int (4 : Int32)), .val (.int (c4 &&& (255 : Int32))), .val (.int len), .val (.int sec), .val (.int top), .unset, .unset, .unset] []) := by
    intro len sec top j1 j2 j3
    refine own_iconst X (v := (1 : Int32)) (pc' := 144) d1_143 rfl (by decide) ?_
    refine own_istore X (pc' := 146) (Ls' := #[.val (.ref a), .val (.int (4 : Int32)), .val (.int (c4 &&& (255 : Int32))), .val (.int len), .val (.int sec), .val (.int top), .val (.int (1 : Int32)), .unset, .unset]) d1_144 rfl rfl ?_
    refine own_iload X (pc' := 148) d1_146 rfl rfl ?_
    refine own_iloadN X (pc' := 149) d1_148 rfl rfl ?_
    refine own_icmp_ge X (pct := 238) (pc' := 152) d1_149 rfl (by decide) (by decide) (fun hc149_1 => ?_) (fun hc149_1 => ?_)
    · refine own_iload X (pc' := 240) d1_238 rfl rfl ?_
      subst hΦ
      exact own_retI X d1_240 (by decide) (by decide) (by rw [← j1, ← j2, ← j3, own_sqc, if_neg hc149_1]) rfl
    · refine own_iloadN X (pc' := 153) d1_152 rfl rfl ?_
      refine own_iload X (pc' := 155) d1_153 rfl rfl ?_
      refine own_iadd X (r := (5 : Int32)) (pc' := 156) d1_155 rfl (by decide) ?_
      refine own_aloadN X (pc' := 157) d1_156 rfl rfl rfl ?_
      refine own_len X (v := (8 : Int32)) (pc' := 158) A (by first | rfl | decide) d1_157 rfl ?_
      refine own_icmp_ge X (pct := 238) (pc' := 161) d1_158 rfl (by decide) (by decide) (fun hc => absurd hc (by decide)) (fun _ => ?_)
      refine own_aloadN X (pc' := 162) d1_161 rfl rfl rfl ?_
      refine own_iloadN X (pc' := 163) d1_162 rfl rfl ?_
      refine own_iload X (pc' := 165) d1_163 rfl rfl ?_
      refine own_iadd X (r := (5 : Int32)) (pc' := 166) d1_165 rfl (by decide) ?_
      refine own_baload X (v := c5) (pc' := 167) A rfl rfl d1_166 rfl ?_
      refine own_sipush X (v := (255 : Int32)) (pc' := 170) d1_167 rfl (by decide) ?_
      refine own_iand X (r := (c5 &&& (255 : Int32))) (pc' := 171) d1_170 rfl rfl ?_
      refine own_istore X (pc' := 173) (Ls' := #[.val (.ref a), .val (.int (4 : Int32)), .val (.int (c4 &&& (255 : Int32))), .val (.int len), .val (.int sec), .val (.int top), .val (.int (1 : Int32)), .val (.int (c5 &&& (255 : Int32))), .unset]) d1_171 rfl rfl ?_
      refine own_iload X (pc' := 175) d1_173 rfl rfl ?_
      refine own_iconst X (v := (1 : Int32)) (pc' := 176) d1_175 rfl (by decide) ?_
      refine own_icmp_ne X (pct := 201) (pc' := 179) d1_176 rfl (by decide) (by decide) (fun hc => absurd hc (by decide)) (fun _ => ?_)
      refine own_iload X (pc' := 181) d1_179 rfl rfl ?_
      refine own_iload X (pc' := 183) d1_181 rfl rfl ?_
      refine own_icmp_lt X (pct := 197) (pc' := 186) d1_183 rfl (by decide) (by decide) (fun hc183_2 => ?_) (fun hc183_2 => ?_)
      · refine own_iconst X (v := (0 : Int32)) (pc' := 198) d1_197 rfl (by decide) ?_
        refine own_goto X (pc' := 222) d1_198 (by decide) (by decide) ?_
        refine own_istore X (pc' := 224) (Ls' := #[.val (.ref a), .val (.int (4 : Int32)), .val (.int (c4 &&& (255 : Int32))), .val (.int len), .val (.int sec), .val (.int top), .val (.int (1 : Int32)), .val (.int (c5 &&& (255 : Int32))), .val (.int (0 : Int32))]) d1_222 rfl rfl ?_
        refine own_iload X (pc' := 226) d1_224 rfl rfl ?_
        refine own_if_ne X (pct := 232) (pc' := 229) d1_226 rfl (by decide) (by decide) (fun hc => absurd hc (by decide)) (fun _ => ?_)
        refine own_goto X (pc' := 238) d1_229 (by decide) (by decide) ?_
        refine own_iload X (pc' := 240) d1_238 rfl rfl ?_
        subst hΦ
        exact own_retI X d1_240 (by decide) (by decide) (by rw [← j1, ← j2, ← j3, own_sqc, if_pos hc149_1, if_pos hc183_2]) rfl
      · refine own_iload X (pc' := 188) d1_186 rfl rfl ?_
        refine own_iload X (pc' := 190) d1_188 rfl rfl ?_
        refine own_icmp_gt X (pct := 197) (pc' := 193) d1_190 rfl (by decide) (by decide) (fun hc190_3 => ?_) (fun hc190_3 => ?_)
        · refine own_iconst X (v := (0 : Int32)) (pc' := 198) d1_197 rfl (by decide) ?_
          refine own_goto X (pc' := 222) d1_198 (by decide) (by decide) ?_
          refine own_istore X (pc' := 224) (Ls' := #[.val (.ref a), .val (.int (4 : Int32)), .val (.int (c4 &&& (255 : Int32))), .val (.int len), .val (.int sec), .val (.int top), .val (.int (1 : Int32)), .val (.int (c5 &&& (255 : Int32))), .val (.int (0 : Int32))]) d1_222 rfl rfl ?_
          refine own_iload X (pc' := 226) d1_224 rfl rfl ?_
          refine own_if_ne X (pct := 232) (pc' := 229) d1_226 rfl (by decide) (by decide) (fun hc => absurd hc (by decide)) (fun _ => ?_)
          refine own_goto X (pc' := 238) d1_229 (by decide) (by decide) ?_
          refine own_iload X (pc' := 240) d1_238 rfl rfl ?_
          subst hΦ
          exact own_retI X d1_240 (by decide) (by decide) (by rw [← j1, ← j2, ← j3, own_sqc, if_pos hc149_1, if_neg hc183_2, if_pos hc190_3]) rfl
        · refine own_iconst X (v := (1 : Int32)) (pc' := 194) d1_193 rfl (by decide) ?_
          refine own_goto X (pc' := 222) d1_194 (by decide) (by decide) ?_
          refine own_istore X (pc' := 224) (Ls' := #[.val (.ref a), .val (.int (4 : Int32)), .val (.int (c4 &&& (255 : Int32))), .val (.int len), .val (.int sec), .val (.int top), .val (.int (1 : Int32)), .val (.int (c5 &&& (255 : Int32))), .val (.int (1 : Int32))]) d1_222 rfl rfl ?_
          refine own_iload X (pc' := 226) d1_224 rfl rfl ?_
          refine own_if_ne X (pct := 232) (pc' := 229) d1_226 rfl (by decide) (by decide) (fun _ => ?_) (fun hc => absurd hc (by decide))
          refine own_iinc X (pc' := 235) (Ls' := #[.val (.ref a), .val (.int (4 : Int32)), .val (.int (c4 &&& (255 : Int32))), .val (.int len), .val (.int sec), .val (.int top), .val (.int (2 : Int32)), .val (.int (c5 &&& (255 : Int32))), .val (.int (1 : Int32))]) (w := (2 : Int32)) d1_232 rfl rfl (by decide) rfl ?_
          refine own_goto X (pc' := 146) d1_235 (by decide) (by decide) ?_
          refine own_iload X (pc' := 148) d1_146 rfl rfl ?_
          refine own_iloadN X (pc' := 149) d1_148 rfl rfl ?_
          refine own_icmp_ge X (pct := 238) (pc' := 152) d1_149 rfl (by decide) (by decide) (fun hc149_4 => ?_) (fun hc149_4 => ?_)
          · refine own_iload X (pc' := 240) d1_238 rfl rfl ?_
            subst hΦ
            exact own_retI X d1_240 (by decide) (by decide) (by rw [← j1, ← j2, ← j3, own_sqc, if_pos hc149_1, if_neg hc183_2, if_neg hc190_3, own_l2c, if_neg hc149_4]) rfl
          · refine own_iloadN X (pc' := 153) d1_152 rfl rfl ?_
            refine own_iload X (pc' := 155) d1_153 rfl rfl ?_
            refine own_iadd X (r := (6 : Int32)) (pc' := 156) d1_155 rfl (by decide) ?_
            refine own_aloadN X (pc' := 157) d1_156 rfl rfl rfl ?_
            refine own_len X (v := (8 : Int32)) (pc' := 158) A (by first | rfl | decide) d1_157 rfl ?_
            refine own_icmp_ge X (pct := 238) (pc' := 161) d1_158 rfl (by decide) (by decide) (fun hc => absurd hc (by decide)) (fun _ => ?_)
            refine own_aloadN X (pc' := 162) d1_161 rfl rfl rfl ?_
            refine own_iloadN X (pc' := 163) d1_162 rfl rfl ?_
            refine own_iload X (pc' := 165) d1_163 rfl rfl ?_
            refine own_iadd X (r := (6 : Int32)) (pc' := 166) d1_165 rfl (by decide) ?_
            refine own_baload X (v := c6) (pc' := 167) A rfl rfl d1_166 rfl ?_
            refine own_sipush X (v := (255 : Int32)) (pc' := 170) d1_167 rfl (by decide) ?_
            refine own_iand X (r := (c6 &&& (255 : Int32))) (pc' := 171) d1_170 rfl rfl ?_
            refine own_istore X (pc' := 173) (Ls' := #[.val (.ref a), .val (.int (4 : Int32)), .val (.int (c4 &&& (255 : Int32))), .val (.int len), .val (.int sec), .val (.int top), .val (.int (2 : Int32)), .val (.int (c6 &&& (255 : Int32))), .val (.int (1 : Int32))]) d1_171 rfl rfl ?_
            refine own_iload X (pc' := 175) d1_173 rfl rfl ?_
            refine own_iconst X (v := (1 : Int32)) (pc' := 176) d1_175 rfl (by decide) ?_
            refine own_icmp_ne X (pct := 201) (pc' := 179) d1_176 rfl (by decide) (by decide) (fun _ => ?_) (fun hc => absurd hc (by decide))
            refine own_iload X (pc' := 203) d1_201 rfl rfl ?_
            refine own_sipush X (v := (128 : Int32)) (pc' := 206) d1_203 rfl (by decide) ?_
            refine own_icmp_lt X (pct := 221) (pc' := 209) d1_206 rfl (by decide) (by decide) (fun hc206_5 => ?_) (fun hc206_5 => ?_)
            · refine own_iconst X (v := (0 : Int32)) (pc' := 222) d1_221 rfl (by decide) ?_
              refine own_istore X (pc' := 224) (Ls' := #[.val (.ref a), .val (.int (4 : Int32)), .val (.int (c4 &&& (255 : Int32))), .val (.int len), .val (.int sec), .val (.int top), .val (.int (2 : Int32)), .val (.int (c6 &&& (255 : Int32))), .val (.int (0 : Int32))]) d1_222 rfl rfl ?_
              refine own_iload X (pc' := 226) d1_224 rfl rfl ?_
              refine own_if_ne X (pct := 232) (pc' := 229) d1_226 rfl (by decide) (by decide) (fun hc => absurd hc (by decide)) (fun _ => ?_)
              refine own_goto X (pc' := 238) d1_229 (by decide) (by decide) ?_
              refine own_iload X (pc' := 240) d1_238 rfl rfl ?_
              subst hΦ
              exact own_retI X d1_240 (by decide) (by decide) (by rw [← j1, ← j2, ← j3, own_sqc, if_pos hc149_1, if_neg hc183_2, if_neg hc190_3, own_l2c, if_pos hc149_4, if_pos hc206_5]) rfl
            · refine own_iload X (pc' := 211) d1_209 rfl rfl ?_
              refine own_sipush X (v := (191 : Int32)) (pc' := 214) d1_211 rfl (by decide) ?_
              refine own_icmp_gt X (pct := 221) (pc' := 217) d1_214 rfl (by decide) (by decide) (fun hc214_6 => ?_) (fun hc214_6 => ?_)
              · refine own_iconst X (v := (0 : Int32)) (pc' := 222) d1_221 rfl (by decide) ?_
                refine own_istore X (pc' := 224) (Ls' := #[.val (.ref a), .val (.int (4 : Int32)), .val (.int (c4 &&& (255 : Int32))), .val (.int len), .val (.int sec), .val (.int top), .val (.int (2 : Int32)), .val (.int (c6 &&& (255 : Int32))), .val (.int (0 : Int32))]) d1_222 rfl rfl ?_
                refine own_iload X (pc' := 226) d1_224 rfl rfl ?_
                refine own_if_ne X (pct := 232) (pc' := 229) d1_226 rfl (by decide) (by decide) (fun hc => absurd hc (by decide)) (fun _ => ?_)
                refine own_goto X (pc' := 238) d1_229 (by decide) (by decide) ?_
                refine own_iload X (pc' := 240) d1_238 rfl rfl ?_
                subst hΦ
                exact own_retI X d1_240 (by decide) (by decide) (by rw [← j1, ← j2, ← j3, own_sqc, if_pos hc149_1, if_neg hc183_2, if_neg hc190_3, own_l2c, if_pos hc149_4, if_neg hc206_5, if_pos hc214_6]) rfl
              · refine own_iconst X (v := (1 : Int32)) (pc' := 218) d1_217 rfl (by decide) ?_
                refine own_goto X (pc' := 222) d1_218 (by decide) (by decide) ?_
                refine own_istore X (pc' := 224) (Ls' := #[.val (.ref a), .val (.int (4 : Int32)), .val (.int (c4 &&& (255 : Int32))), .val (.int len), .val (.int sec), .val (.int top), .val (.int (2 : Int32)), .val (.int (c6 &&& (255 : Int32))), .val (.int (1 : Int32))]) d1_222 rfl rfl ?_
                refine own_iload X (pc' := 226) d1_224 rfl rfl ?_
                refine own_if_ne X (pct := 232) (pc' := 229) d1_226 rfl (by decide) (by decide) (fun _ => ?_) (fun hc => absurd hc (by decide))
                refine own_iinc X (pc' := 235) (Ls' := #[.val (.ref a), .val (.int (4 : Int32)), .val (.int (c4 &&& (255 : Int32))), .val (.int len), .val (.int sec), .val (.int top), .val (.int (3 : Int32)), .val (.int (c6 &&& (255 : Int32))), .val (.int (1 : Int32))]) (w := (3 : Int32)) d1_232 rfl rfl (by decide) rfl ?_
                refine own_goto X (pc' := 146) d1_235 (by decide) (by decide) ?_
                refine own_iload X (pc' := 148) d1_146 rfl rfl ?_
                refine own_iloadN X (pc' := 149) d1_148 rfl rfl ?_
                refine own_icmp_ge X (pct := 238) (pc' := 152) d1_149 rfl (by decide) (by decide) (fun hc149_7 => ?_) (fun hc149_7 => ?_)
                · refine own_iload X (pc' := 240) d1_238 rfl rfl ?_
                  subst hΦ
                  exact own_retI X d1_240 (by decide) (by decide) (by rw [← j1, ← j2, ← j3, own_sqc, if_pos hc149_1, if_neg hc183_2, if_neg hc190_3, own_l2c, if_pos hc149_4, if_neg hc206_5, if_neg hc214_6, own_l3c, if_neg hc149_7]) rfl
                · refine own_iloadN X (pc' := 153) d1_152 rfl rfl ?_
                  refine own_iload X (pc' := 155) d1_153 rfl rfl ?_
                  refine own_iadd X (r := (7 : Int32)) (pc' := 156) d1_155 rfl (by decide) ?_
                  refine own_aloadN X (pc' := 157) d1_156 rfl rfl rfl ?_
                  refine own_len X (v := (8 : Int32)) (pc' := 158) A (by first | rfl | decide) d1_157 rfl ?_
                  refine own_icmp_ge X (pct := 238) (pc' := 161) d1_158 rfl (by decide) (by decide) (fun hc => absurd hc (by decide)) (fun _ => ?_)
                  refine own_aloadN X (pc' := 162) d1_161 rfl rfl rfl ?_
                  refine own_iloadN X (pc' := 163) d1_162 rfl rfl ?_
                  refine own_iload X (pc' := 165) d1_163 rfl rfl ?_
                  refine own_iadd X (r := (7 : Int32)) (pc' := 166) d1_165 rfl (by decide) ?_
                  refine own_baload X (v := c7) (pc' := 167) A rfl rfl d1_166 rfl ?_
                  refine own_sipush X (v := (255 : Int32)) (pc' := 170) d1_167 rfl (by decide) ?_
                  refine own_iand X (r := (c7 &&& (255 : Int32))) (pc' := 171) d1_170 rfl rfl ?_
                  refine own_istore X (pc' := 173) (Ls' := #[.val (.ref a), .val (.int (4 : Int32)), .val (.int (c4 &&& (255 : Int32))), .val (.int len), .val (.int sec), .val (.int top), .val (.int (3 : Int32)), .val (.int (c7 &&& (255 : Int32))), .val (.int (1 : Int32))]) d1_171 rfl rfl ?_
                  refine own_iload X (pc' := 175) d1_173 rfl rfl ?_
                  refine own_iconst X (v := (1 : Int32)) (pc' := 176) d1_175 rfl (by decide) ?_
                  refine own_icmp_ne X (pct := 201) (pc' := 179) d1_176 rfl (by decide) (by decide) (fun _ => ?_) (fun hc => absurd hc (by decide))
                  refine own_iload X (pc' := 203) d1_201 rfl rfl ?_
                  refine own_sipush X (v := (128 : Int32)) (pc' := 206) d1_203 rfl (by decide) ?_
                  refine own_icmp_lt X (pct := 221) (pc' := 209) d1_206 rfl (by decide) (by decide) (fun hc206_8 => ?_) (fun hc206_8 => ?_)
                  · refine own_iconst X (v := (0 : Int32)) (pc' := 222) d1_221 rfl (by decide) ?_
                    refine own_istore X (pc' := 224) (Ls' := #[.val (.ref a), .val (.int (4 : Int32)), .val (.int (c4 &&& (255 : Int32))), .val (.int len), .val (.int sec), .val (.int top), .val (.int (3 : Int32)), .val (.int (c7 &&& (255 : Int32))), .val (.int (0 : Int32))]) d1_222 rfl rfl ?_
                    refine own_iload X (pc' := 226) d1_224 rfl rfl ?_
                    refine own_if_ne X (pct := 232) (pc' := 229) d1_226 rfl (by decide) (by decide) (fun hc => absurd hc (by decide)) (fun _ => ?_)
                    refine own_goto X (pc' := 238) d1_229 (by decide) (by decide) ?_
                    refine own_iload X (pc' := 240) d1_238 rfl rfl ?_
                    subst hΦ
                    exact own_retI X d1_240 (by decide) (by decide) (by rw [← j1, ← j2, ← j3, own_sqc, if_pos hc149_1, if_neg hc183_2, if_neg hc190_3, own_l2c, if_pos hc149_4, if_neg hc206_5, if_neg hc214_6, own_l3c, if_pos hc149_7, if_pos hc206_8]) rfl
                  · refine own_iload X (pc' := 211) d1_209 rfl rfl ?_
                    refine own_sipush X (v := (191 : Int32)) (pc' := 214) d1_211 rfl (by decide) ?_
                    refine own_icmp_gt X (pct := 221) (pc' := 217) d1_214 rfl (by decide) (by decide) (fun hc214_9 => ?_) (fun hc214_9 => ?_)
                    · refine own_iconst X (v := (0 : Int32)) (pc' := 222) d1_221 rfl (by decide) ?_
                      refine own_istore X (pc' := 224) (Ls' := #[.val (.ref a), .val (.int (4 : Int32)), .val (.int (c4 &&& (255 : Int32))), .val (.int len), .val (.int sec), .val (.int top), .val (.int (3 : Int32)), .val (.int (c7 &&& (255 : Int32))), .val (.int (0 : Int32))]) d1_222 rfl rfl ?_
                      refine own_iload X (pc' := 226) d1_224 rfl rfl ?_
                      refine own_if_ne X (pct := 232) (pc' := 229) d1_226 rfl (by decide) (by decide) (fun hc => absurd hc (by decide)) (fun _ => ?_)
                      refine own_goto X (pc' := 238) d1_229 (by decide) (by decide) ?_
                      refine own_iload X (pc' := 240) d1_238 rfl rfl ?_
                      subst hΦ
                      exact own_retI X d1_240 (by decide) (by decide) (by rw [← j1, ← j2, ← j3, own_sqc, if_pos hc149_1, if_neg hc183_2, if_neg hc190_3, own_l2c, if_pos hc149_4, if_neg hc206_5, if_neg hc214_6, own_l3c, if_pos hc149_7, if_neg hc206_8, if_pos hc214_9]) rfl
                    · refine own_iconst X (v := (1 : Int32)) (pc' := 218) d1_217 rfl (by decide) ?_
                      refine own_goto X (pc' := 222) d1_218 (by decide) (by decide) ?_
                      refine own_istore X (pc' := 224) (Ls' := #[.val (.ref a), .val (.int (4 : Int32)), .val (.int (c4 &&& (255 : Int32))), .val (.int len), .val (.int sec), .val (.int top), .val (.int (3 : Int32)), .val (.int (c7 &&& (255 : Int32))), .val (.int (1 : Int32))]) d1_222 rfl rfl ?_
                      refine own_iload X (pc' := 226) d1_224 rfl rfl ?_
                      refine own_if_ne X (pct := 232) (pc' := 229) d1_226 rfl (by decide) (by decide) (fun _ => ?_) (fun hc => absurd hc (by decide))
                      refine own_iinc X (pc' := 235) (Ls' := #[.val (.ref a), .val (.int (4 : Int32)), .val (.int (c4 &&& (255 : Int32))), .val (.int len), .val (.int sec), .val (.int top), .val (.int (4 : Int32)), .val (.int (c7 &&& (255 : Int32))), .val (.int (1 : Int32))]) (w := (4 : Int32)) d1_232 rfl rfl (by decide) rfl ?_
                      refine own_goto X (pc' := 146) d1_235 (by decide) (by decide) ?_
                      refine own_iload X (pc' := 148) d1_146 rfl rfl ?_
                      refine own_iloadN X (pc' := 149) d1_148 rfl rfl ?_
                      refine own_icmp_ge X (pct := 238) (pc' := 152) d1_149 rfl (by decide) (by decide) (fun _ => ?_) (fun hc => absurd hc (by rw [j1]; exact own_L4 _))
                      refine own_iload X (pc' := 240) d1_238 rfl rfl ?_
                      subst hΦ
                      exact own_retI X d1_240 (by decide) (by decide) (by rw [← j1, ← j2, ← j3, own_sqc, if_pos hc149_1, if_neg hc183_2, if_neg hc190_3, own_l2c, if_pos hc149_4, if_neg hc206_5, if_neg hc214_6, own_l3c, if_pos hc149_7, if_neg hc206_8, if_neg hc214_9]) rfl
  refine own_iloadN X (pc' := 19) d1_18 rfl rfl ?_
  refine own_sipush X (v := (128 : Int32)) (pc' := 22) d1_19 rfl (by decide) ?_
  refine own_icmp_ge X (pct := 30) (pc' := 25) d1_22 rfl (by decide) (by decide) (fun hc22_10 => ?_) (fun hc22_10 => ?_)
  · refine own_iloadN X (pc' := 31) d1_30 rfl rfl ?_
    refine own_sipush X (v := (194 : Int32)) (pc' := 34) d1_31 rfl (by decide) ?_
    refine own_icmp_lt X (pct := 49) (pc' := 37) d1_34 rfl (by decide) (by decide) (fun hc34_11 => ?_) (fun hc34_11 => ?_)
    · refine own_iloadN X (pc' := 50) d1_49 rfl rfl ?_
      refine own_sipush X (v := (224 : Int32)) (pc' := 53) d1_50 rfl (by decide) ?_
      refine own_icmp_lt X (pct := 86) (pc' := 56) d1_53 rfl (by decide) (by decide) (fun _ => ?_) (fun hc => absurd hc (by simp only [Int32.lt_iff_toInt_lt, ← Int32.toInt_inj, Int32.reduceToInt] at hc22_10 hc34_11 ⊢; omega))
      refine own_iloadN X (pc' := 87) d1_86 rfl rfl ?_
      refine own_sipush X (v := (240 : Int32)) (pc' := 90) d1_87 rfl (by decide) ?_
      refine own_icmp_lt X (pct := 141) (pc' := 93) d1_90 rfl (by decide) (by decide) (fun _ => ?_) (fun hc => absurd hc (by simp only [Int32.lt_iff_toInt_lt, ← Int32.toInt_inj, Int32.reduceToInt] at hc22_10 hc34_11 ⊢; omega))
      refine own_iconst X (v := (1 : Int32)) (pc' := 142) d1_141 rfl (by decide) ?_
      refine own_istoreN X (pc' := 143) (Ls' := #[.val (.ref a), .val (.int (4 : Int32)), .val (.int (c4 &&& (255 : Int32))), .val (.int (1 : Int32)), .val (.int (128 : Int32)), .val (.int (191 : Int32)), .unset, .unset, .unset]) d1_142 rfl rfl ?_
      exact J143 _ _ _ (by rw [Int32.lt_iff_toInt_lt] at hc22_10 hc34_11; simp only [Int32.reduceToInt] at hc22_10 hc34_11; unfold own_L; (repeat' split); all_goals first | rfl | omega) (by rw [Int32.lt_iff_toInt_lt] at hc22_10 hc34_11; simp only [Int32.reduceToInt] at hc22_10 hc34_11; unfold own_lo; (repeat' split); all_goals first | rfl | omega) (by rw [Int32.lt_iff_toInt_lt] at hc22_10 hc34_11; simp only [Int32.reduceToInt] at hc22_10 hc34_11; unfold own_hi; (repeat' split); all_goals first | rfl | omega)
    · refine own_iloadN X (pc' := 38) d1_37 rfl rfl ?_
      refine own_sipush X (v := (223 : Int32)) (pc' := 41) d1_38 rfl (by decide) ?_
      refine own_icmp_gt X (pct := 49) (pc' := 44) d1_41 rfl (by decide) (by decide) (fun hc41_12 => ?_) (fun hc41_12 => ?_)
      · refine own_iloadN X (pc' := 50) d1_49 rfl rfl ?_
        refine own_sipush X (v := (224 : Int32)) (pc' := 53) d1_50 rfl (by decide) ?_
        refine own_icmp_lt X (pct := 86) (pc' := 56) d1_53 rfl (by decide) (by decide) (fun hc => absurd hc (by simp only [Int32.lt_iff_toInt_lt, ← Int32.toInt_inj, Int32.reduceToInt] at hc22_10 hc34_11 hc41_12 ⊢; omega)) (fun _ => ?_)
        refine own_iloadN X (pc' := 57) d1_56 rfl rfl ?_
        refine own_sipush X (v := (239 : Int32)) (pc' := 60) d1_57 rfl (by decide) ?_
        refine own_icmp_gt X (pct := 86) (pc' := 63) d1_60 rfl (by decide) (by decide) (fun hc60_13 => ?_) (fun hc60_13 => ?_)
        · refine own_iloadN X (pc' := 87) d1_86 rfl rfl ?_
          refine own_sipush X (v := (240 : Int32)) (pc' := 90) d1_87 rfl (by decide) ?_
          refine own_icmp_lt X (pct := 141) (pc' := 93) d1_90 rfl (by decide) (by decide) (fun hc => absurd hc (by simp only [Int32.lt_iff_toInt_lt, ← Int32.toInt_inj, Int32.reduceToInt] at hc22_10 hc34_11 hc41_12 hc60_13 ⊢; omega)) (fun _ => ?_)
          refine own_iloadN X (pc' := 94) d1_93 rfl rfl ?_
          refine own_sipush X (v := (244 : Int32)) (pc' := 97) d1_94 rfl (by decide) ?_
          refine own_icmp_gt X (pct := 141) (pc' := 100) d1_97 rfl (by decide) (by decide) (fun hc97_14 => ?_) (fun hc97_14 => ?_)
          · refine own_iconst X (v := (1 : Int32)) (pc' := 142) d1_141 rfl (by decide) ?_
            refine own_istoreN X (pc' := 143) (Ls' := #[.val (.ref a), .val (.int (4 : Int32)), .val (.int (c4 &&& (255 : Int32))), .val (.int (1 : Int32)), .val (.int (128 : Int32)), .val (.int (191 : Int32)), .unset, .unset, .unset]) d1_142 rfl rfl ?_
            exact J143 _ _ _ (by rw [Int32.lt_iff_toInt_lt] at hc22_10 hc34_11 hc41_12 hc60_13 hc97_14; simp only [Int32.reduceToInt] at hc22_10 hc34_11 hc41_12 hc60_13 hc97_14; unfold own_L; (repeat' split); all_goals first | rfl | omega) (by rw [Int32.lt_iff_toInt_lt] at hc22_10 hc34_11 hc41_12 hc60_13 hc97_14; simp only [Int32.reduceToInt] at hc22_10 hc34_11 hc41_12 hc60_13 hc97_14; unfold own_lo; (repeat' split); all_goals first | rfl | omega) (by rw [Int32.lt_iff_toInt_lt] at hc22_10 hc34_11 hc41_12 hc60_13 hc97_14; simp only [Int32.reduceToInt] at hc22_10 hc34_11 hc41_12 hc60_13 hc97_14; unfold own_hi; (repeat' split); all_goals first | rfl | omega)
          · refine own_iconst X (v := (4 : Int32)) (pc' := 101) d1_100 rfl (by decide) ?_
            refine own_istoreN X (pc' := 102) (Ls' := #[.val (.ref a), .val (.int (4 : Int32)), .val (.int (c4 &&& (255 : Int32))), .val (.int (4 : Int32)), .val (.int (128 : Int32)), .val (.int (191 : Int32)), .unset, .unset, .unset]) d1_101 rfl rfl ?_
            refine own_iloadN X (pc' := 103) d1_102 rfl rfl ?_
            refine own_sipush X (v := (240 : Int32)) (pc' := 106) d1_103 rfl (by decide) ?_
            refine own_icmp_ne X (pct := 115) (pc' := 109) d1_106 rfl (by decide) (by decide) (fun hc106_15 => ?_) (fun hc106_15 => ?_)
            · refine own_sipush X (v := (128 : Int32)) (pc' := 118) d1_115 rfl (by decide) ?_
              refine own_istore X (pc' := 120) (Ls' := #[.val (.ref a), .val (.int (4 : Int32)), .val (.int (c4 &&& (255 : Int32))), .val (.int (4 : Int32)), .val (.int (128 : Int32)), .val (.int (191 : Int32)), .unset, .unset, .unset]) d1_118 rfl rfl ?_
              refine own_iloadN X (pc' := 121) d1_120 rfl rfl ?_
              refine own_sipush X (v := (244 : Int32)) (pc' := 124) d1_121 rfl (by decide) ?_
              refine own_icmp_ne X (pct := 133) (pc' := 127) d1_124 rfl (by decide) (by decide) (fun hc124_16 => ?_) (fun hc124_16 => ?_)
              · refine own_sipush X (v := (191 : Int32)) (pc' := 136) d1_133 rfl (by decide) ?_
                refine own_istore X (pc' := 138) (Ls' := #[.val (.ref a), .val (.int (4 : Int32)), .val (.int (c4 &&& (255 : Int32))), .val (.int (4 : Int32)), .val (.int (128 : Int32)), .val (.int (191 : Int32)), .unset, .unset, .unset]) d1_136 rfl rfl ?_
                refine own_goto X (pc' := 143) d1_138 (by decide) (by decide) ?_
                exact J143 _ _ _ (by rw [Int32.lt_iff_toInt_lt] at hc22_10 hc34_11 hc41_12 hc60_13 hc97_14; rw [← Int32.toInt_inj] at hc106_15 hc124_16; simp only [Int32.reduceToInt] at hc22_10 hc34_11 hc41_12 hc60_13 hc97_14 hc106_15 hc124_16; unfold own_L; (repeat' split); all_goals first | rfl | omega) (by rw [Int32.lt_iff_toInt_lt] at hc22_10 hc34_11 hc41_12 hc60_13 hc97_14; rw [← Int32.toInt_inj] at hc106_15 hc124_16; simp only [Int32.reduceToInt] at hc22_10 hc34_11 hc41_12 hc60_13 hc97_14 hc106_15 hc124_16; unfold own_lo; (repeat' split); all_goals first | rfl | omega) (by rw [Int32.lt_iff_toInt_lt] at hc22_10 hc34_11 hc41_12 hc60_13 hc97_14; rw [← Int32.toInt_inj] at hc106_15 hc124_16; simp only [Int32.reduceToInt] at hc22_10 hc34_11 hc41_12 hc60_13 hc97_14 hc106_15 hc124_16; unfold own_hi; (repeat' split); all_goals first | rfl | omega)
              · refine own_sipush X (v := (143 : Int32)) (pc' := 130) d1_127 rfl (by decide) ?_
                refine own_goto X (pc' := 136) d1_130 (by decide) (by decide) ?_
                refine own_istore X (pc' := 138) (Ls' := #[.val (.ref a), .val (.int (4 : Int32)), .val (.int (c4 &&& (255 : Int32))), .val (.int (4 : Int32)), .val (.int (128 : Int32)), .val (.int (143 : Int32)), .unset, .unset, .unset]) d1_136 rfl rfl ?_
                refine own_goto X (pc' := 143) d1_138 (by decide) (by decide) ?_
                exact J143 _ _ _ (by rw [Int32.lt_iff_toInt_lt] at hc22_10 hc34_11 hc41_12 hc60_13 hc97_14; rw [← Int32.toInt_inj] at hc106_15 hc124_16; simp only [Int32.reduceToInt] at hc22_10 hc34_11 hc41_12 hc60_13 hc97_14 hc106_15 hc124_16; unfold own_L; (repeat' split); all_goals first | rfl | omega) (by rw [Int32.lt_iff_toInt_lt] at hc22_10 hc34_11 hc41_12 hc60_13 hc97_14; rw [← Int32.toInt_inj] at hc106_15 hc124_16; simp only [Int32.reduceToInt] at hc22_10 hc34_11 hc41_12 hc60_13 hc97_14 hc106_15 hc124_16; unfold own_lo; (repeat' split); all_goals first | rfl | omega) (by rw [Int32.lt_iff_toInt_lt] at hc22_10 hc34_11 hc41_12 hc60_13 hc97_14; rw [← Int32.toInt_inj] at hc106_15 hc124_16; simp only [Int32.reduceToInt] at hc22_10 hc34_11 hc41_12 hc60_13 hc97_14 hc106_15 hc124_16; unfold own_hi; (repeat' split); all_goals first | rfl | omega)
            · refine own_sipush X (v := (144 : Int32)) (pc' := 112) d1_109 rfl (by decide) ?_
              refine own_goto X (pc' := 118) d1_112 (by decide) (by decide) ?_
              refine own_istore X (pc' := 120) (Ls' := #[.val (.ref a), .val (.int (4 : Int32)), .val (.int (c4 &&& (255 : Int32))), .val (.int (4 : Int32)), .val (.int (144 : Int32)), .val (.int (191 : Int32)), .unset, .unset, .unset]) d1_118 rfl rfl ?_
              refine own_iloadN X (pc' := 121) d1_120 rfl rfl ?_
              refine own_sipush X (v := (244 : Int32)) (pc' := 124) d1_121 rfl (by decide) ?_
              refine own_icmp_ne X (pct := 133) (pc' := 127) d1_124 rfl (by decide) (by decide) (fun _ => ?_) (fun hc => absurd hc (by simp only [Int32.lt_iff_toInt_lt, ← Int32.toInt_inj, Int32.reduceToInt] at hc22_10 hc34_11 hc41_12 hc60_13 hc97_14 hc106_15 ⊢; omega))
              refine own_sipush X (v := (191 : Int32)) (pc' := 136) d1_133 rfl (by decide) ?_
              refine own_istore X (pc' := 138) (Ls' := #[.val (.ref a), .val (.int (4 : Int32)), .val (.int (c4 &&& (255 : Int32))), .val (.int (4 : Int32)), .val (.int (144 : Int32)), .val (.int (191 : Int32)), .unset, .unset, .unset]) d1_136 rfl rfl ?_
              refine own_goto X (pc' := 143) d1_138 (by decide) (by decide) ?_
              exact J143 _ _ _ (by rw [Int32.lt_iff_toInt_lt] at hc22_10 hc34_11 hc41_12 hc60_13 hc97_14; rw [← Int32.toInt_inj] at hc106_15; simp only [Int32.reduceToInt] at hc22_10 hc34_11 hc41_12 hc60_13 hc97_14 hc106_15; unfold own_L; (repeat' split); all_goals first | rfl | omega) (by rw [Int32.lt_iff_toInt_lt] at hc22_10 hc34_11 hc41_12 hc60_13 hc97_14; rw [← Int32.toInt_inj] at hc106_15; simp only [Int32.reduceToInt] at hc22_10 hc34_11 hc41_12 hc60_13 hc97_14 hc106_15; unfold own_lo; (repeat' split); all_goals first | rfl | omega) (by rw [Int32.lt_iff_toInt_lt] at hc22_10 hc34_11 hc41_12 hc60_13 hc97_14; rw [← Int32.toInt_inj] at hc106_15; simp only [Int32.reduceToInt] at hc22_10 hc34_11 hc41_12 hc60_13 hc97_14 hc106_15; unfold own_hi; (repeat' split); all_goals first | rfl | omega)
        · refine own_iconst X (v := (3 : Int32)) (pc' := 64) d1_63 rfl (by decide) ?_
          refine own_istoreN X (pc' := 65) (Ls' := #[.val (.ref a), .val (.int (4 : Int32)), .val (.int (c4 &&& (255 : Int32))), .val (.int (3 : Int32)), .val (.int (128 : Int32)), .val (.int (191 : Int32)), .unset, .unset, .unset]) d1_64 rfl rfl ?_
          refine own_iloadN X (pc' := 66) d1_65 rfl rfl ?_
          refine own_sipush X (v := (224 : Int32)) (pc' := 69) d1_66 rfl (by decide) ?_
          refine own_icmp_ne X (pct := 78) (pc' := 72) d1_69 rfl (by decide) (by decide) (fun hc69_17 => ?_) (fun hc69_17 => ?_)
          · refine own_sipush X (v := (128 : Int32)) (pc' := 81) d1_78 rfl (by decide) ?_
            refine own_istore X (pc' := 83) (Ls' := #[.val (.ref a), .val (.int (4 : Int32)), .val (.int (c4 &&& (255 : Int32))), .val (.int (3 : Int32)), .val (.int (128 : Int32)), .val (.int (191 : Int32)), .unset, .unset, .unset]) d1_81 rfl rfl ?_
            refine own_goto X (pc' := 143) d1_83 (by decide) (by decide) ?_
            exact J143 _ _ _ (by rw [Int32.lt_iff_toInt_lt] at hc22_10 hc34_11 hc41_12 hc60_13; rw [← Int32.toInt_inj] at hc69_17; simp only [Int32.reduceToInt] at hc22_10 hc34_11 hc41_12 hc60_13 hc69_17; unfold own_L; (repeat' split); all_goals first | rfl | omega) (by rw [Int32.lt_iff_toInt_lt] at hc22_10 hc34_11 hc41_12 hc60_13; rw [← Int32.toInt_inj] at hc69_17; simp only [Int32.reduceToInt] at hc22_10 hc34_11 hc41_12 hc60_13 hc69_17; unfold own_lo; (repeat' split); all_goals first | rfl | omega) (by rw [Int32.lt_iff_toInt_lt] at hc22_10 hc34_11 hc41_12 hc60_13; rw [← Int32.toInt_inj] at hc69_17; simp only [Int32.reduceToInt] at hc22_10 hc34_11 hc41_12 hc60_13 hc69_17; unfold own_hi; (repeat' split); all_goals first | rfl | omega)
          · refine own_sipush X (v := (160 : Int32)) (pc' := 75) d1_72 rfl (by decide) ?_
            refine own_goto X (pc' := 81) d1_75 (by decide) (by decide) ?_
            refine own_istore X (pc' := 83) (Ls' := #[.val (.ref a), .val (.int (4 : Int32)), .val (.int (c4 &&& (255 : Int32))), .val (.int (3 : Int32)), .val (.int (160 : Int32)), .val (.int (191 : Int32)), .unset, .unset, .unset]) d1_81 rfl rfl ?_
            refine own_goto X (pc' := 143) d1_83 (by decide) (by decide) ?_
            exact J143 _ _ _ (by rw [Int32.lt_iff_toInt_lt] at hc22_10 hc34_11 hc41_12 hc60_13; rw [← Int32.toInt_inj] at hc69_17; simp only [Int32.reduceToInt] at hc22_10 hc34_11 hc41_12 hc60_13 hc69_17; unfold own_L; (repeat' split); all_goals first | rfl | omega) (by rw [Int32.lt_iff_toInt_lt] at hc22_10 hc34_11 hc41_12 hc60_13; rw [← Int32.toInt_inj] at hc69_17; simp only [Int32.reduceToInt] at hc22_10 hc34_11 hc41_12 hc60_13 hc69_17; unfold own_lo; (repeat' split); all_goals first | rfl | omega) (by rw [Int32.lt_iff_toInt_lt] at hc22_10 hc34_11 hc41_12 hc60_13; rw [← Int32.toInt_inj] at hc69_17; simp only [Int32.reduceToInt] at hc22_10 hc34_11 hc41_12 hc60_13 hc69_17; unfold own_hi; (repeat' split); all_goals first | rfl | omega)
      · refine own_iconst X (v := (2 : Int32)) (pc' := 45) d1_44 rfl (by decide) ?_
        refine own_istoreN X (pc' := 46) (Ls' := #[.val (.ref a), .val (.int (4 : Int32)), .val (.int (c4 &&& (255 : Int32))), .val (.int (2 : Int32)), .val (.int (128 : Int32)), .val (.int (191 : Int32)), .unset, .unset, .unset]) d1_45 rfl rfl ?_
        refine own_goto X (pc' := 143) d1_46 (by decide) (by decide) ?_
        exact J143 _ _ _ (by rw [Int32.lt_iff_toInt_lt] at hc22_10 hc34_11 hc41_12; simp only [Int32.reduceToInt] at hc22_10 hc34_11 hc41_12; unfold own_L; (repeat' split); all_goals first | rfl | omega) (by rw [Int32.lt_iff_toInt_lt] at hc22_10 hc34_11 hc41_12; simp only [Int32.reduceToInt] at hc22_10 hc34_11 hc41_12; unfold own_lo; (repeat' split); all_goals first | rfl | omega) (by rw [Int32.lt_iff_toInt_lt] at hc22_10 hc34_11 hc41_12; simp only [Int32.reduceToInt] at hc22_10 hc34_11 hc41_12; unfold own_hi; (repeat' split); all_goals first | rfl | omega)
  · refine own_iconst X (v := (1 : Int32)) (pc' := 26) d1_25 rfl (by decide) ?_
    refine own_istoreN X (pc' := 27) (Ls' := #[.val (.ref a), .val (.int (4 : Int32)), .val (.int (c4 &&& (255 : Int32))), .val (.int (1 : Int32)), .val (.int (128 : Int32)), .val (.int (191 : Int32)), .unset, .unset, .unset]) d1_26 rfl rfl ?_
    refine own_goto X (pc' := 143) d1_27 (by decide) (by decide) ?_
    exact J143 _ _ _ (by rw [Int32.lt_iff_toInt_lt] at hc22_10; simp only [Int32.reduceToInt] at hc22_10; unfold own_L; (repeat' split); all_goals first | rfl | omega) (by rw [Int32.lt_iff_toInt_lt] at hc22_10; simp only [Int32.reduceToInt] at hc22_10; unfold own_lo; (repeat' split); all_goals first | rfl | omega) (by rw [Int32.lt_iff_toInt_lt] at hc22_10; simp only [Int32.reduceToInt] at hc22_10; unfold own_hi; (repeat' split); all_goals first | rfl | omega)
theorem pn_rm2_4 : plainFor (⟨"com/example/quern/quern/text/TextBytesSequenceLengthPinLaw", "expected", "([BI)I"⟩ : MethodName) = true := plainFor_of_name (by first | (simp [plainName, overriddenIn]; done) | decide +kernel)
theorem ef_rm2_4 (m : MethodId) (x0 : Addr) (x1 : Int32) : entryFrame m #[(.ref x0), (.int x1)] 6 = mkF m 0 #[.val (.ref x0), .val (.int x1), .unset, .unset, .unset, .unset] [] := by first | (simp [entryFrame, mkF, argsToLocals, Value.category]; done) | rfl
set_option maxRecDepth 65536 in
set_option maxHeartbeats 4000000 in
theorem rm2_4 (l : Launch) (Z : State) (a0 : Array Value) (hw : ∀ d ∈ tables_1, d.before a0 Z = true) (n0 : Nat) (a : Addr) (h0 : Heap) (hn0 : n0 ≤ h0.size) (c0 c1 c2 c3 c4 c5 c6 c7 : Int32) (A : own_A Z h0 a .byte [c0, c1, c2, c3, c4, c5, c6, c7]) :
    own_Met l (⟨"com/example/quern/quern/text/TextBytesSequenceLengthPinLaw", "expected", "([BI)I"⟩ : MethodName) method_7_code 6 (some .int) ({ frames := 1, cells := 0, slots := 0, locals := 20 } : Room) Z n0 #[(.ref a), (.int (4 : Int32))] h0 (some (.int (own_ex (own_L (c4 &&& (255 : Int32))) (c4 &&& (255 : Int32)) [(c5 &&& (255 : Int32)), (c6 &&& (255 : Int32)), (c7 &&& (255 : Int32))]))) (fun h' => h' = h0) := by
  refine own_met pn_rm2_4 hn0 ?_
  intro p e s m below meth c T X
  refine own_cast (ef_rm2_4 m a (4 : Int32)) ?_
  generalize hΦ : own_Q n0 below s _ _ _ = Φ
  refine own_aloadN X (pc' := 1) d2_0 rfl rfl rfl ?_
  refine own_iloadN X (pc' := 2) d2_1 rfl rfl ?_
  refine own_callS X (W := 0) (argsL := [(.ref a), (.int (4 : Int32))]) (rest := []) (S' := [(.int (c4 &&& (255 : Int32)))]) (pc' := 5) (rm3 l Z a0 hw n0 a (4 : Int32) h0 X.size _ A c4 rfl rfl) (hw _ (List.mem_of_getElem? (i := 9) rfl)) (hw _ (List.mem_of_getElem? (i := 10) rfl)) (hw _ (List.mem_of_getElem? (i := 7) rfl)) (hw _ (List.mem_of_getElem? (i := 11) rfl)) (by decide) (by decide) (by decide) rfl rfl (by decide) (by decide) (lenOf pd_0 rfl) rfl (by first | decide | exact Nat.le_of_eq rfl) rfl d2_2 rfl rfl ?_
  intro T1 h1 X1 qq1
  rw [show h1 = h0 from qq1] at X1
  refine own_istoreN X1 (pc' := 6) (Ls' := #[.val (.ref a), .val (.int (4 : Int32)), .val (.int (c4 &&& (255 : Int32))), .unset, .unset, .unset]) d2_5 rfl rfl ?_
  refine own_iloadN X1 (pc' := 7) d2_6 rfl rfl ?_
  refine own_callS X1 (W := 0) (argsL := [(.int (c4 &&& (255 : Int32)))]) (rest := []) (S' := [(.int (own_L (c4 &&& (255 : Int32))))]) (pc' := 10) (rm4 l Z a0 hw n0 (c4 &&& (255 : Int32)) h0 X1.size) (hw _ (List.mem_of_getElem? (i := 12) rfl)) (hw _ (List.mem_of_getElem? (i := 13) rfl)) (hw _ (List.mem_of_getElem? (i := 7) rfl)) (hw _ (List.mem_of_getElem? (i := 14) rfl)) (by decide) (by decide) (by decide) rfl rfl (by decide) (by decide) (lenOf pd_1 rfl) rfl (by first | decide | exact Nat.le_of_eq rfl) rfl d2_7 rfl rfl ?_
  intro T2 h2 X2 qq2
  rw [show h2 = h0 from qq2] at X2
  refine own_istoreN X2 (pc' := 11) (Ls' := #[.val (.ref a), .val (.int (4 : Int32)), .val (.int (c4 &&& (255 : Int32))), .val (.int (own_L (c4 &&& (255 : Int32)))), .unset, .unset]) d2_10 rfl rfl ?_
  refine own_aloadN X2 (pc' := 12) d2_11 rfl rfl rfl ?_
  refine own_len X2 (v := (8 : Int32)) (pc' := 13) A (by first | rfl | decide) d2_12 rfl ?_
  refine own_iloadN X2 (pc' := 14) d2_13 rfl rfl ?_
  refine own_isub X2 (r := (4 : Int32)) (pc' := 15) d2_14 rfl (by decide) ?_
  refine own_istore X2 (pc' := 17) (Ls' := #[.val (.ref a), .val (.int (4 : Int32)), .val (.int (c4 &&& (255 : Int32))), .val (.int (own_L (c4 &&& (255 : Int32)))), .val (.int (4 : Int32)), .unset]) d2_15 rfl rfl ?_
  refine own_iconst X2 (v := (1 : Int32)) (pc' := 18) d2_17 rfl (by decide) ?_
  refine own_istore X2 (pc' := 20) (Ls' := #[.val (.ref a), .val (.int (4 : Int32)), .val (.int (c4 &&& (255 : Int32))), .val (.int (own_L (c4 &&& (255 : Int32)))), .val (.int (4 : Int32)), .val (.int (1 : Int32))]) d2_18 rfl rfl ?_
  refine own_iloadN X2 (pc' := 21) d2_20 rfl rfl ?_
  refine own_iconst X2 (v := (2 : Int32)) (pc' := 22) d2_21 rfl (by decide) ?_
  refine own_icmp_lt X2 (pct := 102) (pc' := 25) d2_22 rfl (by decide) (by decide) (fun hc22_3 => ?_) (fun hc22_3 => ?_)
  · refine own_iload X2 (pc' := 104) d2_102 rfl rfl ?_
    subst hΦ
    exact own_retI X2 d2_104 (by decide) (by decide) (by rw [own_exc, if_pos hc22_3]) rfl
  · refine own_iload X2 (pc' := 27) d2_25 rfl rfl ?_
    refine own_iconst X2 (v := (2 : Int32)) (pc' := 28) d2_27 rfl (by decide) ?_
    refine own_icmp_lt X2 (pct := 102) (pc' := 31) d2_28 rfl (by decide) (by decide) (fun hc => absurd hc (by decide)) (fun _ => ?_)
    refine own_iloadN X2 (pc' := 32) d2_31 rfl rfl ?_
    refine own_aloadN X2 (pc' := 33) d2_32 rfl rfl rfl ?_
    refine own_iloadN X2 (pc' := 34) d2_33 rfl rfl ?_
    refine own_iconst X2 (v := (1 : Int32)) (pc' := 35) d2_34 rfl (by decide) ?_
    refine own_iadd X2 (r := (5 : Int32)) (pc' := 36) d2_35 rfl (by decide) ?_
    refine own_callS X2 (W := 1) (argsL := [(.ref a), (.int (5 : Int32))]) (rest := [(.int (c4 &&& (255 : Int32)))]) (S' := [(.int (c5 &&& (255 : Int32))), (.int (c4 &&& (255 : Int32)))]) (pc' := 39) (rm3 l Z a0 hw n0 a (5 : Int32) h0 X2.size _ A c5 rfl rfl) (hw _ (List.mem_of_getElem? (i := 9) rfl)) (hw _ (List.mem_of_getElem? (i := 10) rfl)) (hw _ (List.mem_of_getElem? (i := 7) rfl)) (hw _ (List.mem_of_getElem? (i := 11) rfl)) (by decide) (by decide) (by decide) rfl rfl (by decide) (by decide) (lenOf pd_0 rfl) rfl (by first | decide | exact Nat.le_of_eq rfl) rfl d2_36 rfl rfl ?_
    intro T4 h4 X4 qq4
    rw [show h4 = h0 from qq4] at X4
    refine own_callS X4 (W := 0) (argsL := [(.int (c4 &&& (255 : Int32))), (.int (c5 &&& (255 : Int32)))]) (rest := []) (S' := [(.int (own_sf (c4 &&& (255 : Int32)) (c5 &&& (255 : Int32))))]) (pc' := 42) (rm5 l Z a0 hw n0 (c4 &&& (255 : Int32)) (c5 &&& (255 : Int32)) h0 X4.size) (hw _ (List.mem_of_getElem? (i := 15) rfl)) (hw _ (List.mem_of_getElem? (i := 16) rfl)) (hw _ (List.mem_of_getElem? (i := 7) rfl)) (hw _ (List.mem_of_getElem? (i := 17) rfl)) (by decide) (by decide) (by decide) rfl rfl (by decide) (by decide) (lenOf pd_2 rfl) rfl (by first | decide | exact Nat.le_of_eq rfl) rfl d2_39 rfl rfl ?_
    intro T5 h5 X5 qq5
    rw [show h5 = h0 from qq5] at X5
    refine own_if_eq X5 (pct := 102) (pc' := 45) d2_42 rfl (by decide) (by decide) (fun hc42_6 => ?_) (fun hc42_6 => ?_)
    · refine own_iload X5 (pc' := 104) d2_102 rfl rfl ?_
      subst hΦ
      exact own_retI X5 d2_104 (by decide) (by decide) (by rw [own_exc, if_neg hc22_3, if_pos hc42_6]) rfl
    · refine own_iconst X5 (v := (2 : Int32)) (pc' := 46) d2_45 rfl (by decide) ?_
      refine own_istore X5 (pc' := 48) (Ls' := #[.val (.ref a), .val (.int (4 : Int32)), .val (.int (c4 &&& (255 : Int32))), .val (.int (own_L (c4 &&& (255 : Int32)))), .val (.int (4 : Int32)), .val (.int (2 : Int32))]) d2_46 rfl rfl ?_
      refine own_iloadN X5 (pc' := 49) d2_48 rfl rfl ?_
      refine own_iconst X5 (v := (3 : Int32)) (pc' := 50) d2_49 rfl (by decide) ?_
      refine own_icmp_lt X5 (pct := 102) (pc' := 53) d2_50 rfl (by decide) (by decide) (fun hc50_7 => ?_) (fun hc50_7 => ?_)
      · refine own_iload X5 (pc' := 104) d2_102 rfl rfl ?_
        subst hΦ
        exact own_retI X5 d2_104 (by decide) (by decide) (by rw [own_exc, if_neg hc22_3, if_neg hc42_6, own_e2c, if_pos hc50_7]) rfl
      · refine own_iload X5 (pc' := 55) d2_53 rfl rfl ?_
        refine own_iconst X5 (v := (3 : Int32)) (pc' := 56) d2_55 rfl (by decide) ?_
        refine own_icmp_lt X5 (pct := 102) (pc' := 59) d2_56 rfl (by decide) (by decide) (fun hc => absurd hc (by decide)) (fun _ => ?_)
        refine own_aloadN X5 (pc' := 60) d2_59 rfl rfl rfl ?_
        refine own_iloadN X5 (pc' := 61) d2_60 rfl rfl ?_
        refine own_iconst X5 (v := (2 : Int32)) (pc' := 62) d2_61 rfl (by decide) ?_
        refine own_iadd X5 (r := (6 : Int32)) (pc' := 63) d2_62 rfl (by decide) ?_
        refine own_callS X5 (W := 0) (argsL := [(.ref a), (.int (6 : Int32))]) (rest := []) (S' := [(.int (c6 &&& (255 : Int32)))]) (pc' := 66) (rm3 l Z a0 hw n0 a (6 : Int32) h0 X5.size _ A c6 rfl rfl) (hw _ (List.mem_of_getElem? (i := 9) rfl)) (hw _ (List.mem_of_getElem? (i := 10) rfl)) (hw _ (List.mem_of_getElem? (i := 7) rfl)) (hw _ (List.mem_of_getElem? (i := 11) rfl)) (by decide) (by decide) (by decide) rfl rfl (by decide) (by decide) (lenOf pd_0 rfl) rfl (by first | decide | exact Nat.le_of_eq rfl) rfl d2_63 rfl rfl ?_
        intro T8 h8 X8 qq8
        rw [show h8 = h0 from qq8] at X8
        refine own_callS X8 (W := 0) (argsL := [(.int (c6 &&& (255 : Int32)))]) (rest := []) (S' := [(.int (own_ct (c6 &&& (255 : Int32))))]) (pc' := 69) (rm6 l Z a0 hw n0 (c6 &&& (255 : Int32)) h0 X8.size) (hw _ (List.mem_of_getElem? (i := 18) rfl)) (hw _ (List.mem_of_getElem? (i := 19) rfl)) (hw _ (List.mem_of_getElem? (i := 7) rfl)) (hw _ (List.mem_of_getElem? (i := 20) rfl)) (by decide) (by decide) (by decide) rfl rfl (by decide) (by decide) (lenOf pd_3 rfl) rfl (by first | decide | exact Nat.le_of_eq rfl) rfl d2_66 rfl rfl ?_
        intro T9 h9 X9 qq9
        rw [show h9 = h0 from qq9] at X9
        refine own_if_eq X9 (pct := 102) (pc' := 72) d2_69 rfl (by decide) (by decide) (fun hc69_10 => ?_) (fun hc69_10 => ?_)
        · refine own_iload X9 (pc' := 104) d2_102 rfl rfl ?_
          subst hΦ
          exact own_retI X9 d2_104 (by decide) (by decide) (by rw [own_exc, if_neg hc22_3, if_neg hc42_6, own_e2c, if_neg hc50_7, if_pos hc69_10]) rfl
        · refine own_iconst X9 (v := (3 : Int32)) (pc' := 73) d2_72 rfl (by decide) ?_
          refine own_istore X9 (pc' := 75) (Ls' := #[.val (.ref a), .val (.int (4 : Int32)), .val (.int (c4 &&& (255 : Int32))), .val (.int (own_L (c4 &&& (255 : Int32)))), .val (.int (4 : Int32)), .val (.int (3 : Int32))]) d2_73 rfl rfl ?_
          refine own_iloadN X9 (pc' := 76) d2_75 rfl rfl ?_
          refine own_iconst X9 (v := (4 : Int32)) (pc' := 77) d2_76 rfl (by decide) ?_
          refine own_icmp_lt X9 (pct := 102) (pc' := 80) d2_77 rfl (by decide) (by decide) (fun hc77_11 => ?_) (fun hc77_11 => ?_)
          · refine own_iload X9 (pc' := 104) d2_102 rfl rfl ?_
            subst hΦ
            exact own_retI X9 d2_104 (by decide) (by decide) (by rw [own_exc, if_neg hc22_3, if_neg hc42_6, own_e2c, if_neg hc50_7, if_neg hc69_10, own_e3c, if_pos hc77_11]) rfl
          · refine own_iload X9 (pc' := 82) d2_80 rfl rfl ?_
            refine own_iconst X9 (v := (4 : Int32)) (pc' := 83) d2_82 rfl (by decide) ?_
            refine own_icmp_lt X9 (pct := 102) (pc' := 86) d2_83 rfl (by decide) (by decide) (fun hc => absurd hc (by decide)) (fun _ => ?_)
            refine own_aloadN X9 (pc' := 87) d2_86 rfl rfl rfl ?_
            refine own_iloadN X9 (pc' := 88) d2_87 rfl rfl ?_
            refine own_iconst X9 (v := (3 : Int32)) (pc' := 89) d2_88 rfl (by decide) ?_
            refine own_iadd X9 (r := (7 : Int32)) (pc' := 90) d2_89 rfl (by decide) ?_
            refine own_callS X9 (W := 0) (argsL := [(.ref a), (.int (7 : Int32))]) (rest := []) (S' := [(.int (c7 &&& (255 : Int32)))]) (pc' := 93) (rm3 l Z a0 hw n0 a (7 : Int32) h0 X9.size _ A c7 rfl rfl) (hw _ (List.mem_of_getElem? (i := 9) rfl)) (hw _ (List.mem_of_getElem? (i := 10) rfl)) (hw _ (List.mem_of_getElem? (i := 7) rfl)) (hw _ (List.mem_of_getElem? (i := 11) rfl)) (by decide) (by decide) (by decide) rfl rfl (by decide) (by decide) (lenOf pd_0 rfl) rfl (by first | decide | exact Nat.le_of_eq rfl) rfl d2_90 rfl rfl ?_
            intro T12 h12 X12 qq12
            rw [show h12 = h0 from qq12] at X12
            refine own_callS X12 (W := 0) (argsL := [(.int (c7 &&& (255 : Int32)))]) (rest := []) (S' := [(.int (own_ct (c7 &&& (255 : Int32))))]) (pc' := 96) (rm6 l Z a0 hw n0 (c7 &&& (255 : Int32)) h0 X12.size) (hw _ (List.mem_of_getElem? (i := 18) rfl)) (hw _ (List.mem_of_getElem? (i := 19) rfl)) (hw _ (List.mem_of_getElem? (i := 7) rfl)) (hw _ (List.mem_of_getElem? (i := 20) rfl)) (by decide) (by decide) (by decide) rfl rfl (by decide) (by decide) (lenOf pd_3 rfl) rfl (by first | decide | exact Nat.le_of_eq rfl) rfl d2_93 rfl rfl ?_
            intro T13 h13 X13 qq13
            rw [show h13 = h0 from qq13] at X13
            refine own_if_eq X13 (pct := 102) (pc' := 99) d2_96 rfl (by decide) (by decide) (fun hc96_14 => ?_) (fun hc96_14 => ?_)
            · refine own_iload X13 (pc' := 104) d2_102 rfl rfl ?_
              subst hΦ
              exact own_retI X13 d2_104 (by decide) (by decide) (by rw [own_exc, if_neg hc22_3, if_neg hc42_6, own_e2c, if_neg hc50_7, if_neg hc69_10, own_e3c, if_neg hc77_11, if_pos hc96_14]) rfl
            · refine own_iconst X13 (v := (4 : Int32)) (pc' := 100) d2_99 rfl (by decide) ?_
              refine own_istore X13 (pc' := 102) (Ls' := #[.val (.ref a), .val (.int (4 : Int32)), .val (.int (c4 &&& (255 : Int32))), .val (.int (own_L (c4 &&& (255 : Int32)))), .val (.int (4 : Int32)), .val (.int (4 : Int32))]) d2_100 rfl rfl ?_
              refine own_iload X13 (pc' := 104) d2_102 rfl rfl ?_
              subst hΦ
              exact own_retI X13 d2_104 (by decide) (by decide) (by rw [own_exc, if_neg hc22_3, if_neg hc42_6, own_e2c, if_neg hc50_7, if_neg hc69_10, own_e3c, if_neg hc77_11, if_neg hc96_14]) rfl
theorem pn_rm1_5 : plainFor (⟨"com/example/quern/quern/text/TextBytes", "sequenceLength", "([BI)I"⟩ : MethodName) = true := plainFor_of_name (by first | (simp [plainName, overriddenIn]; done) | decide +kernel)
theorem ef_rm1_5 (m : MethodId) (x0 : Addr) (x1 : Int32) : entryFrame m #[(.ref x0), (.int x1)] 9 = mkF m 0 #[.val (.ref x0), .val (.int x1), .unset, .unset, .unset, .unset, .unset, .unset, .unset] [] := by first | (simp [entryFrame, mkF, argsToLocals, Value.category]; done) | rfl
set_option maxRecDepth 65536 in
set_option maxHeartbeats 4000000 in
theorem rm1_5 (l : Launch) (Z : State) (a0 : Array Value) (hw : ∀ d ∈ tables_1, d.before a0 Z = true) (n0 : Nat) (a : Addr) (h0 : Heap) (hn0 : n0 ≤ h0.size) (c0 c1 c2 c3 c4 c5 c6 c7 : Int32) (A : own_A Z h0 a .byte [c0, c1, c2, c3, c4, c5, c6, c7]) :
    own_Met l (⟨"com/example/quern/quern/text/TextBytes", "sequenceLength", "([BI)I"⟩ : MethodName) prog_310_method_5_code 9 (some .int) ({ frames := 0, cells := 0, slots := 0, locals := 0 } : Room) Z n0 #[(.ref a), (.int (5 : Int32))] h0 (some (.int (own_sq (own_L (c5 &&& (255 : Int32))) (own_lo (c5 &&& (255 : Int32))) (own_hi (c5 &&& (255 : Int32))) [(c6 &&& (255 : Int32)), (c7 &&& (255 : Int32))]))) (fun h' => h' = h0) := by
  refine own_met pn_rm1_5 hn0 ?_
  intro p e s m below meth c T X
  refine own_cast (ef_rm1_5 m a (5 : Int32)) ?_
  generalize hΦ : own_Q n0 below s _ _ _ = Φ
  refine own_aloadN X (pc' := 1) d1_0 rfl rfl rfl ?_
  refine own_iloadN X (pc' := 2) d1_1 rfl rfl ?_
  refine own_baload X (v := c5) (pc' := 3) A rfl rfl d1_2 rfl ?_
  refine own_sipush X (v := (255 : Int32)) (pc' := 6) d1_3 rfl (by decide) ?_
  refine own_iand X (r := (c5 &&& (255 : Int32))) (pc' := 7) d1_6 rfl rfl ?_
  refine own_istoreN X (pc' := 8) (Ls' := #[.val (.ref a), .val (.int (5 : Int32)), .val (.int (c5 &&& (255 : Int32))), .unset, .unset, .unset, .unset, .unset, .unset]) d1_7 rfl rfl ?_
  refine own_sipush X (v := (128 : Int32)) (pc' := 11) d1_8 rfl (by decide) ?_
  refine own_istore X (pc' := 13) (Ls' := #[.val (.ref a), .val (.int (5 : Int32)), .val (.int (c5 &&& (255 : Int32))), .unset, .val (.int (128 : Int32)), .unset, .unset, .unset, .unset]) d1_11 rfl rfl ?_
  refine own_sipush X (v := (191 : Int32)) (pc' := 16) d1_13 rfl (by decide) ?_
  refine own_istore X (pc' := 18) (Ls' := #[.val (.ref a), .val (.int (5 : Int32)), .val (.int (c5 &&& (255 : Int32))), .unset, .val (.int (128 : Int32)), .val (.int (191 : Int32)), .unset, .unset, .unset]) d1_16 rfl rfl ?_
  have J143 : ∀ (len sec top : Int32) (_ : len = own_L (c5 &&& (255 : Int32))) (_ : sec = own_lo (c5 &&& (255 : Int32))) (_ : top = own_hi (c5 &&& (255 : Int32))), own_G p e below Φ T (mkF m 143 #[.val (.ref a), .val (.int (5 : Int32)), .val (.int (c5 &&& (255 : Int32))), .val (.int len), .val (.int sec), .val (.int top), .unset, .unset, .unset] []) := by
    intro len sec top j1 j2 j3
    refine own_iconst X (v := (1 : Int32)) (pc' := 144) d1_143 rfl (by decide) ?_
    refine own_istore X (pc' := 146) (Ls' := #[.val (.ref a), .val (.int (5 : Int32)), .val (.int (c5 &&& (255 : Int32))), .val (.int len), .val (.int sec), .val (.int top), .val (.int (1 : Int32)), .unset, .unset]) d1_144 rfl rfl ?_
    refine own_iload X (pc' := 148) d1_146 rfl rfl ?_
    refine own_iloadN X (pc' := 149) d1_148 rfl rfl ?_
    refine own_icmp_ge X (pct := 238) (pc' := 152) d1_149 rfl (by decide) (by decide) (fun hc149_1 => ?_) (fun hc149_1 => ?_)
    · refine own_iload X (pc' := 240) d1_238 rfl rfl ?_
      subst hΦ
      exact own_retI X d1_240 (by decide) (by decide) (by rw [← j1, ← j2, ← j3, own_sqc, if_neg hc149_1]) rfl
    · refine own_iloadN X (pc' := 153) d1_152 rfl rfl ?_
      refine own_iload X (pc' := 155) d1_153 rfl rfl ?_
      refine own_iadd X (r := (6 : Int32)) (pc' := 156) d1_155 rfl (by decide) ?_
      refine own_aloadN X (pc' := 157) d1_156 rfl rfl rfl ?_
      refine own_len X (v := (8 : Int32)) (pc' := 158) A (by first | rfl | decide) d1_157 rfl ?_
      refine own_icmp_ge X (pct := 238) (pc' := 161) d1_158 rfl (by decide) (by decide) (fun hc => absurd hc (by decide)) (fun _ => ?_)
      refine own_aloadN X (pc' := 162) d1_161 rfl rfl rfl ?_
      refine own_iloadN X (pc' := 163) d1_162 rfl rfl ?_
      refine own_iload X (pc' := 165) d1_163 rfl rfl ?_
      refine own_iadd X (r := (6 : Int32)) (pc' := 166) d1_165 rfl (by decide) ?_
      refine own_baload X (v := c6) (pc' := 167) A rfl rfl d1_166 rfl ?_
      refine own_sipush X (v := (255 : Int32)) (pc' := 170) d1_167 rfl (by decide) ?_
      refine own_iand X (r := (c6 &&& (255 : Int32))) (pc' := 171) d1_170 rfl rfl ?_
      refine own_istore X (pc' := 173) (Ls' := #[.val (.ref a), .val (.int (5 : Int32)), .val (.int (c5 &&& (255 : Int32))), .val (.int len), .val (.int sec), .val (.int top), .val (.int (1 : Int32)), .val (.int (c6 &&& (255 : Int32))), .unset]) d1_171 rfl rfl ?_
      refine own_iload X (pc' := 175) d1_173 rfl rfl ?_
      refine own_iconst X (v := (1 : Int32)) (pc' := 176) d1_175 rfl (by decide) ?_
      refine own_icmp_ne X (pct := 201) (pc' := 179) d1_176 rfl (by decide) (by decide) (fun hc => absurd hc (by decide)) (fun _ => ?_)
      refine own_iload X (pc' := 181) d1_179 rfl rfl ?_
      refine own_iload X (pc' := 183) d1_181 rfl rfl ?_
      refine own_icmp_lt X (pct := 197) (pc' := 186) d1_183 rfl (by decide) (by decide) (fun hc183_2 => ?_) (fun hc183_2 => ?_)
      · refine own_iconst X (v := (0 : Int32)) (pc' := 198) d1_197 rfl (by decide) ?_
        refine own_goto X (pc' := 222) d1_198 (by decide) (by decide) ?_
        refine own_istore X (pc' := 224) (Ls' := #[.val (.ref a), .val (.int (5 : Int32)), .val (.int (c5 &&& (255 : Int32))), .val (.int len), .val (.int sec), .val (.int top), .val (.int (1 : Int32)), .val (.int (c6 &&& (255 : Int32))), .val (.int (0 : Int32))]) d1_222 rfl rfl ?_
        refine own_iload X (pc' := 226) d1_224 rfl rfl ?_
        refine own_if_ne X (pct := 232) (pc' := 229) d1_226 rfl (by decide) (by decide) (fun hc => absurd hc (by decide)) (fun _ => ?_)
        refine own_goto X (pc' := 238) d1_229 (by decide) (by decide) ?_
        refine own_iload X (pc' := 240) d1_238 rfl rfl ?_
        subst hΦ
        exact own_retI X d1_240 (by decide) (by decide) (by rw [← j1, ← j2, ← j3, own_sqc, if_pos hc149_1, if_pos hc183_2]) rfl
      · refine own_iload X (pc' := 188) d1_186 rfl rfl ?_
        refine own_iload X (pc' := 190) d1_188 rfl rfl ?_
        refine own_icmp_gt X (pct := 197) (pc' := 193) d1_190 rfl (by decide) (by decide) (fun hc190_3 => ?_) (fun hc190_3 => ?_)
        · refine own_iconst X (v := (0 : Int32)) (pc' := 198) d1_197 rfl (by decide) ?_
          refine own_goto X (pc' := 222) d1_198 (by decide) (by decide) ?_
          refine own_istore X (pc' := 224) (Ls' := #[.val (.ref a), .val (.int (5 : Int32)), .val (.int (c5 &&& (255 : Int32))), .val (.int len), .val (.int sec), .val (.int top), .val (.int (1 : Int32)), .val (.int (c6 &&& (255 : Int32))), .val (.int (0 : Int32))]) d1_222 rfl rfl ?_
          refine own_iload X (pc' := 226) d1_224 rfl rfl ?_
          refine own_if_ne X (pct := 232) (pc' := 229) d1_226 rfl (by decide) (by decide) (fun hc => absurd hc (by decide)) (fun _ => ?_)
          refine own_goto X (pc' := 238) d1_229 (by decide) (by decide) ?_
          refine own_iload X (pc' := 240) d1_238 rfl rfl ?_
          subst hΦ
          exact own_retI X d1_240 (by decide) (by decide) (by rw [← j1, ← j2, ← j3, own_sqc, if_pos hc149_1, if_neg hc183_2, if_pos hc190_3]) rfl
        · refine own_iconst X (v := (1 : Int32)) (pc' := 194) d1_193 rfl (by decide) ?_
          refine own_goto X (pc' := 222) d1_194 (by decide) (by decide) ?_
          refine own_istore X (pc' := 224) (Ls' := #[.val (.ref a), .val (.int (5 : Int32)), .val (.int (c5 &&& (255 : Int32))), .val (.int len), .val (.int sec), .val (.int top), .val (.int (1 : Int32)), .val (.int (c6 &&& (255 : Int32))), .val (.int (1 : Int32))]) d1_222 rfl rfl ?_
          refine own_iload X (pc' := 226) d1_224 rfl rfl ?_
          refine own_if_ne X (pct := 232) (pc' := 229) d1_226 rfl (by decide) (by decide) (fun _ => ?_) (fun hc => absurd hc (by decide))
          refine own_iinc X (pc' := 235) (Ls' := #[.val (.ref a), .val (.int (5 : Int32)), .val (.int (c5 &&& (255 : Int32))), .val (.int len), .val (.int sec), .val (.int top), .val (.int (2 : Int32)), .val (.int (c6 &&& (255 : Int32))), .val (.int (1 : Int32))]) (w := (2 : Int32)) d1_232 rfl rfl (by decide) rfl ?_
          refine own_goto X (pc' := 146) d1_235 (by decide) (by decide) ?_
          refine own_iload X (pc' := 148) d1_146 rfl rfl ?_
          refine own_iloadN X (pc' := 149) d1_148 rfl rfl ?_
          refine own_icmp_ge X (pct := 238) (pc' := 152) d1_149 rfl (by decide) (by decide) (fun hc149_4 => ?_) (fun hc149_4 => ?_)
          · refine own_iload X (pc' := 240) d1_238 rfl rfl ?_
            subst hΦ
            exact own_retI X d1_240 (by decide) (by decide) (by rw [← j1, ← j2, ← j3, own_sqc, if_pos hc149_1, if_neg hc183_2, if_neg hc190_3, own_l2c, if_neg hc149_4]) rfl
          · refine own_iloadN X (pc' := 153) d1_152 rfl rfl ?_
            refine own_iload X (pc' := 155) d1_153 rfl rfl ?_
            refine own_iadd X (r := (7 : Int32)) (pc' := 156) d1_155 rfl (by decide) ?_
            refine own_aloadN X (pc' := 157) d1_156 rfl rfl rfl ?_
            refine own_len X (v := (8 : Int32)) (pc' := 158) A (by first | rfl | decide) d1_157 rfl ?_
            refine own_icmp_ge X (pct := 238) (pc' := 161) d1_158 rfl (by decide) (by decide) (fun hc => absurd hc (by decide)) (fun _ => ?_)
            refine own_aloadN X (pc' := 162) d1_161 rfl rfl rfl ?_
            refine own_iloadN X (pc' := 163) d1_162 rfl rfl ?_
            refine own_iload X (pc' := 165) d1_163 rfl rfl ?_
            refine own_iadd X (r := (7 : Int32)) (pc' := 166) d1_165 rfl (by decide) ?_
            refine own_baload X (v := c7) (pc' := 167) A rfl rfl d1_166 rfl ?_
            refine own_sipush X (v := (255 : Int32)) (pc' := 170) d1_167 rfl (by decide) ?_
            refine own_iand X (r := (c7 &&& (255 : Int32))) (pc' := 171) d1_170 rfl rfl ?_
            refine own_istore X (pc' := 173) (Ls' := #[.val (.ref a), .val (.int (5 : Int32)), .val (.int (c5 &&& (255 : Int32))), .val (.int len), .val (.int sec), .val (.int top), .val (.int (2 : Int32)), .val (.int (c7 &&& (255 : Int32))), .val (.int (1 : Int32))]) d1_171 rfl rfl ?_
            refine own_iload X (pc' := 175) d1_173 rfl rfl ?_
            refine own_iconst X (v := (1 : Int32)) (pc' := 176) d1_175 rfl (by decide) ?_
            refine own_icmp_ne X (pct := 201) (pc' := 179) d1_176 rfl (by decide) (by decide) (fun _ => ?_) (fun hc => absurd hc (by decide))
            refine own_iload X (pc' := 203) d1_201 rfl rfl ?_
            refine own_sipush X (v := (128 : Int32)) (pc' := 206) d1_203 rfl (by decide) ?_
            refine own_icmp_lt X (pct := 221) (pc' := 209) d1_206 rfl (by decide) (by decide) (fun hc206_5 => ?_) (fun hc206_5 => ?_)
            · refine own_iconst X (v := (0 : Int32)) (pc' := 222) d1_221 rfl (by decide) ?_
              refine own_istore X (pc' := 224) (Ls' := #[.val (.ref a), .val (.int (5 : Int32)), .val (.int (c5 &&& (255 : Int32))), .val (.int len), .val (.int sec), .val (.int top), .val (.int (2 : Int32)), .val (.int (c7 &&& (255 : Int32))), .val (.int (0 : Int32))]) d1_222 rfl rfl ?_
              refine own_iload X (pc' := 226) d1_224 rfl rfl ?_
              refine own_if_ne X (pct := 232) (pc' := 229) d1_226 rfl (by decide) (by decide) (fun hc => absurd hc (by decide)) (fun _ => ?_)
              refine own_goto X (pc' := 238) d1_229 (by decide) (by decide) ?_
              refine own_iload X (pc' := 240) d1_238 rfl rfl ?_
              subst hΦ
              exact own_retI X d1_240 (by decide) (by decide) (by rw [← j1, ← j2, ← j3, own_sqc, if_pos hc149_1, if_neg hc183_2, if_neg hc190_3, own_l2c, if_pos hc149_4, if_pos hc206_5]) rfl
            · refine own_iload X (pc' := 211) d1_209 rfl rfl ?_
              refine own_sipush X (v := (191 : Int32)) (pc' := 214) d1_211 rfl (by decide) ?_
              refine own_icmp_gt X (pct := 221) (pc' := 217) d1_214 rfl (by decide) (by decide) (fun hc214_6 => ?_) (fun hc214_6 => ?_)
              · refine own_iconst X (v := (0 : Int32)) (pc' := 222) d1_221 rfl (by decide) ?_
                refine own_istore X (pc' := 224) (Ls' := #[.val (.ref a), .val (.int (5 : Int32)), .val (.int (c5 &&& (255 : Int32))), .val (.int len), .val (.int sec), .val (.int top), .val (.int (2 : Int32)), .val (.int (c7 &&& (255 : Int32))), .val (.int (0 : Int32))]) d1_222 rfl rfl ?_
                refine own_iload X (pc' := 226) d1_224 rfl rfl ?_
                refine own_if_ne X (pct := 232) (pc' := 229) d1_226 rfl (by decide) (by decide) (fun hc => absurd hc (by decide)) (fun _ => ?_)
                refine own_goto X (pc' := 238) d1_229 (by decide) (by decide) ?_
                refine own_iload X (pc' := 240) d1_238 rfl rfl ?_
                subst hΦ
                exact own_retI X d1_240 (by decide) (by decide) (by rw [← j1, ← j2, ← j3, own_sqc, if_pos hc149_1, if_neg hc183_2, if_neg hc190_3, own_l2c, if_pos hc149_4, if_neg hc206_5, if_pos hc214_6]) rfl
              · refine own_iconst X (v := (1 : Int32)) (pc' := 218) d1_217 rfl (by decide) ?_
                refine own_goto X (pc' := 222) d1_218 (by decide) (by decide) ?_
                refine own_istore X (pc' := 224) (Ls' := #[.val (.ref a), .val (.int (5 : Int32)), .val (.int (c5 &&& (255 : Int32))), .val (.int len), .val (.int sec), .val (.int top), .val (.int (2 : Int32)), .val (.int (c7 &&& (255 : Int32))), .val (.int (1 : Int32))]) d1_222 rfl rfl ?_
                refine own_iload X (pc' := 226) d1_224 rfl rfl ?_
                refine own_if_ne X (pct := 232) (pc' := 229) d1_226 rfl (by decide) (by decide) (fun _ => ?_) (fun hc => absurd hc (by decide))
                refine own_iinc X (pc' := 235) (Ls' := #[.val (.ref a), .val (.int (5 : Int32)), .val (.int (c5 &&& (255 : Int32))), .val (.int len), .val (.int sec), .val (.int top), .val (.int (3 : Int32)), .val (.int (c7 &&& (255 : Int32))), .val (.int (1 : Int32))]) (w := (3 : Int32)) d1_232 rfl rfl (by decide) rfl ?_
                refine own_goto X (pc' := 146) d1_235 (by decide) (by decide) ?_
                refine own_iload X (pc' := 148) d1_146 rfl rfl ?_
                refine own_iloadN X (pc' := 149) d1_148 rfl rfl ?_
                refine own_icmp_ge X (pct := 238) (pc' := 152) d1_149 rfl (by decide) (by decide) (fun hc149_7 => ?_) (fun hc149_7 => ?_)
                · refine own_iload X (pc' := 240) d1_238 rfl rfl ?_
                  subst hΦ
                  exact own_retI X d1_240 (by decide) (by decide) (by rw [← j1, ← j2, ← j3, own_sqc, if_pos hc149_1, if_neg hc183_2, if_neg hc190_3, own_l2c, if_pos hc149_4, if_neg hc206_5, if_neg hc214_6, own_l3n]) rfl
                · refine own_iloadN X (pc' := 153) d1_152 rfl rfl ?_
                  refine own_iload X (pc' := 155) d1_153 rfl rfl ?_
                  refine own_iadd X (r := (8 : Int32)) (pc' := 156) d1_155 rfl (by decide) ?_
                  refine own_aloadN X (pc' := 157) d1_156 rfl rfl rfl ?_
                  refine own_len X (v := (8 : Int32)) (pc' := 158) A (by first | rfl | decide) d1_157 rfl ?_
                  refine own_icmp_ge X (pct := 238) (pc' := 161) d1_158 rfl (by decide) (by decide) (fun _ => ?_) (fun hc => absurd hc (by decide))
                  refine own_iload X (pc' := 240) d1_238 rfl rfl ?_
                  subst hΦ
                  exact own_retI X d1_240 (by decide) (by decide) (by rw [← j1, ← j2, ← j3, own_sqc, if_pos hc149_1, if_neg hc183_2, if_neg hc190_3, own_l2c, if_pos hc149_4, if_neg hc206_5, if_neg hc214_6, own_l3n]) rfl
  refine own_iloadN X (pc' := 19) d1_18 rfl rfl ?_
  refine own_sipush X (v := (128 : Int32)) (pc' := 22) d1_19 rfl (by decide) ?_
  refine own_icmp_ge X (pct := 30) (pc' := 25) d1_22 rfl (by decide) (by decide) (fun hc22_8 => ?_) (fun hc22_8 => ?_)
  · refine own_iloadN X (pc' := 31) d1_30 rfl rfl ?_
    refine own_sipush X (v := (194 : Int32)) (pc' := 34) d1_31 rfl (by decide) ?_
    refine own_icmp_lt X (pct := 49) (pc' := 37) d1_34 rfl (by decide) (by decide) (fun hc34_9 => ?_) (fun hc34_9 => ?_)
    · refine own_iloadN X (pc' := 50) d1_49 rfl rfl ?_
      refine own_sipush X (v := (224 : Int32)) (pc' := 53) d1_50 rfl (by decide) ?_
      refine own_icmp_lt X (pct := 86) (pc' := 56) d1_53 rfl (by decide) (by decide) (fun _ => ?_) (fun hc => absurd hc (by simp only [Int32.lt_iff_toInt_lt, ← Int32.toInt_inj, Int32.reduceToInt] at hc22_8 hc34_9 ⊢; omega))
      refine own_iloadN X (pc' := 87) d1_86 rfl rfl ?_
      refine own_sipush X (v := (240 : Int32)) (pc' := 90) d1_87 rfl (by decide) ?_
      refine own_icmp_lt X (pct := 141) (pc' := 93) d1_90 rfl (by decide) (by decide) (fun _ => ?_) (fun hc => absurd hc (by simp only [Int32.lt_iff_toInt_lt, ← Int32.toInt_inj, Int32.reduceToInt] at hc22_8 hc34_9 ⊢; omega))
      refine own_iconst X (v := (1 : Int32)) (pc' := 142) d1_141 rfl (by decide) ?_
      refine own_istoreN X (pc' := 143) (Ls' := #[.val (.ref a), .val (.int (5 : Int32)), .val (.int (c5 &&& (255 : Int32))), .val (.int (1 : Int32)), .val (.int (128 : Int32)), .val (.int (191 : Int32)), .unset, .unset, .unset]) d1_142 rfl rfl ?_
      exact J143 _ _ _ (by rw [Int32.lt_iff_toInt_lt] at hc22_8 hc34_9; simp only [Int32.reduceToInt] at hc22_8 hc34_9; unfold own_L; (repeat' split); all_goals first | rfl | omega) (by rw [Int32.lt_iff_toInt_lt] at hc22_8 hc34_9; simp only [Int32.reduceToInt] at hc22_8 hc34_9; unfold own_lo; (repeat' split); all_goals first | rfl | omega) (by rw [Int32.lt_iff_toInt_lt] at hc22_8 hc34_9; simp only [Int32.reduceToInt] at hc22_8 hc34_9; unfold own_hi; (repeat' split); all_goals first | rfl | omega)
    · refine own_iloadN X (pc' := 38) d1_37 rfl rfl ?_
      refine own_sipush X (v := (223 : Int32)) (pc' := 41) d1_38 rfl (by decide) ?_
      refine own_icmp_gt X (pct := 49) (pc' := 44) d1_41 rfl (by decide) (by decide) (fun hc41_10 => ?_) (fun hc41_10 => ?_)
      · refine own_iloadN X (pc' := 50) d1_49 rfl rfl ?_
        refine own_sipush X (v := (224 : Int32)) (pc' := 53) d1_50 rfl (by decide) ?_
        refine own_icmp_lt X (pct := 86) (pc' := 56) d1_53 rfl (by decide) (by decide) (fun hc => absurd hc (by simp only [Int32.lt_iff_toInt_lt, ← Int32.toInt_inj, Int32.reduceToInt] at hc22_8 hc34_9 hc41_10 ⊢; omega)) (fun _ => ?_)
        refine own_iloadN X (pc' := 57) d1_56 rfl rfl ?_
        refine own_sipush X (v := (239 : Int32)) (pc' := 60) d1_57 rfl (by decide) ?_
        refine own_icmp_gt X (pct := 86) (pc' := 63) d1_60 rfl (by decide) (by decide) (fun hc60_11 => ?_) (fun hc60_11 => ?_)
        · refine own_iloadN X (pc' := 87) d1_86 rfl rfl ?_
          refine own_sipush X (v := (240 : Int32)) (pc' := 90) d1_87 rfl (by decide) ?_
          refine own_icmp_lt X (pct := 141) (pc' := 93) d1_90 rfl (by decide) (by decide) (fun hc => absurd hc (by simp only [Int32.lt_iff_toInt_lt, ← Int32.toInt_inj, Int32.reduceToInt] at hc22_8 hc34_9 hc41_10 hc60_11 ⊢; omega)) (fun _ => ?_)
          refine own_iloadN X (pc' := 94) d1_93 rfl rfl ?_
          refine own_sipush X (v := (244 : Int32)) (pc' := 97) d1_94 rfl (by decide) ?_
          refine own_icmp_gt X (pct := 141) (pc' := 100) d1_97 rfl (by decide) (by decide) (fun hc97_12 => ?_) (fun hc97_12 => ?_)
          · refine own_iconst X (v := (1 : Int32)) (pc' := 142) d1_141 rfl (by decide) ?_
            refine own_istoreN X (pc' := 143) (Ls' := #[.val (.ref a), .val (.int (5 : Int32)), .val (.int (c5 &&& (255 : Int32))), .val (.int (1 : Int32)), .val (.int (128 : Int32)), .val (.int (191 : Int32)), .unset, .unset, .unset]) d1_142 rfl rfl ?_
            exact J143 _ _ _ (by rw [Int32.lt_iff_toInt_lt] at hc22_8 hc34_9 hc41_10 hc60_11 hc97_12; simp only [Int32.reduceToInt] at hc22_8 hc34_9 hc41_10 hc60_11 hc97_12; unfold own_L; (repeat' split); all_goals first | rfl | omega) (by rw [Int32.lt_iff_toInt_lt] at hc22_8 hc34_9 hc41_10 hc60_11 hc97_12; simp only [Int32.reduceToInt] at hc22_8 hc34_9 hc41_10 hc60_11 hc97_12; unfold own_lo; (repeat' split); all_goals first | rfl | omega) (by rw [Int32.lt_iff_toInt_lt] at hc22_8 hc34_9 hc41_10 hc60_11 hc97_12; simp only [Int32.reduceToInt] at hc22_8 hc34_9 hc41_10 hc60_11 hc97_12; unfold own_hi; (repeat' split); all_goals first | rfl | omega)
          · refine own_iconst X (v := (4 : Int32)) (pc' := 101) d1_100 rfl (by decide) ?_
            refine own_istoreN X (pc' := 102) (Ls' := #[.val (.ref a), .val (.int (5 : Int32)), .val (.int (c5 &&& (255 : Int32))), .val (.int (4 : Int32)), .val (.int (128 : Int32)), .val (.int (191 : Int32)), .unset, .unset, .unset]) d1_101 rfl rfl ?_
            refine own_iloadN X (pc' := 103) d1_102 rfl rfl ?_
            refine own_sipush X (v := (240 : Int32)) (pc' := 106) d1_103 rfl (by decide) ?_
            refine own_icmp_ne X (pct := 115) (pc' := 109) d1_106 rfl (by decide) (by decide) (fun hc106_13 => ?_) (fun hc106_13 => ?_)
            · refine own_sipush X (v := (128 : Int32)) (pc' := 118) d1_115 rfl (by decide) ?_
              refine own_istore X (pc' := 120) (Ls' := #[.val (.ref a), .val (.int (5 : Int32)), .val (.int (c5 &&& (255 : Int32))), .val (.int (4 : Int32)), .val (.int (128 : Int32)), .val (.int (191 : Int32)), .unset, .unset, .unset]) d1_118 rfl rfl ?_
              refine own_iloadN X (pc' := 121) d1_120 rfl rfl ?_
              refine own_sipush X (v := (244 : Int32)) (pc' := 124) d1_121 rfl (by decide) ?_
              refine own_icmp_ne X (pct := 133) (pc' := 127) d1_124 rfl (by decide) (by decide) (fun hc124_14 => ?_) (fun hc124_14 => ?_)
              · refine own_sipush X (v := (191 : Int32)) (pc' := 136) d1_133 rfl (by decide) ?_
                refine own_istore X (pc' := 138) (Ls' := #[.val (.ref a), .val (.int (5 : Int32)), .val (.int (c5 &&& (255 : Int32))), .val (.int (4 : Int32)), .val (.int (128 : Int32)), .val (.int (191 : Int32)), .unset, .unset, .unset]) d1_136 rfl rfl ?_
                refine own_goto X (pc' := 143) d1_138 (by decide) (by decide) ?_
                exact J143 _ _ _ (by rw [Int32.lt_iff_toInt_lt] at hc22_8 hc34_9 hc41_10 hc60_11 hc97_12; rw [← Int32.toInt_inj] at hc106_13 hc124_14; simp only [Int32.reduceToInt] at hc22_8 hc34_9 hc41_10 hc60_11 hc97_12 hc106_13 hc124_14; unfold own_L; (repeat' split); all_goals first | rfl | omega) (by rw [Int32.lt_iff_toInt_lt] at hc22_8 hc34_9 hc41_10 hc60_11 hc97_12; rw [← Int32.toInt_inj] at hc106_13 hc124_14; simp only [Int32.reduceToInt] at hc22_8 hc34_9 hc41_10 hc60_11 hc97_12 hc106_13 hc124_14; unfold own_lo; (repeat' split); all_goals first | rfl | omega) (by rw [Int32.lt_iff_toInt_lt] at hc22_8 hc34_9 hc41_10 hc60_11 hc97_12; rw [← Int32.toInt_inj] at hc106_13 hc124_14; simp only [Int32.reduceToInt] at hc22_8 hc34_9 hc41_10 hc60_11 hc97_12 hc106_13 hc124_14; unfold own_hi; (repeat' split); all_goals first | rfl | omega)
              · refine own_sipush X (v := (143 : Int32)) (pc' := 130) d1_127 rfl (by decide) ?_
                refine own_goto X (pc' := 136) d1_130 (by decide) (by decide) ?_
                refine own_istore X (pc' := 138) (Ls' := #[.val (.ref a), .val (.int (5 : Int32)), .val (.int (c5 &&& (255 : Int32))), .val (.int (4 : Int32)), .val (.int (128 : Int32)), .val (.int (143 : Int32)), .unset, .unset, .unset]) d1_136 rfl rfl ?_
                refine own_goto X (pc' := 143) d1_138 (by decide) (by decide) ?_
                exact J143 _ _ _ (by rw [Int32.lt_iff_toInt_lt] at hc22_8 hc34_9 hc41_10 hc60_11 hc97_12; rw [← Int32.toInt_inj] at hc106_13 hc124_14; simp only [Int32.reduceToInt] at hc22_8 hc34_9 hc41_10 hc60_11 hc97_12 hc106_13 hc124_14; unfold own_L; (repeat' split); all_goals first | rfl | omega) (by rw [Int32.lt_iff_toInt_lt] at hc22_8 hc34_9 hc41_10 hc60_11 hc97_12; rw [← Int32.toInt_inj] at hc106_13 hc124_14; simp only [Int32.reduceToInt] at hc22_8 hc34_9 hc41_10 hc60_11 hc97_12 hc106_13 hc124_14; unfold own_lo; (repeat' split); all_goals first | rfl | omega) (by rw [Int32.lt_iff_toInt_lt] at hc22_8 hc34_9 hc41_10 hc60_11 hc97_12; rw [← Int32.toInt_inj] at hc106_13 hc124_14; simp only [Int32.reduceToInt] at hc22_8 hc34_9 hc41_10 hc60_11 hc97_12 hc106_13 hc124_14; unfold own_hi; (repeat' split); all_goals first | rfl | omega)
            · refine own_sipush X (v := (144 : Int32)) (pc' := 112) d1_109 rfl (by decide) ?_
              refine own_goto X (pc' := 118) d1_112 (by decide) (by decide) ?_
              refine own_istore X (pc' := 120) (Ls' := #[.val (.ref a), .val (.int (5 : Int32)), .val (.int (c5 &&& (255 : Int32))), .val (.int (4 : Int32)), .val (.int (144 : Int32)), .val (.int (191 : Int32)), .unset, .unset, .unset]) d1_118 rfl rfl ?_
              refine own_iloadN X (pc' := 121) d1_120 rfl rfl ?_
              refine own_sipush X (v := (244 : Int32)) (pc' := 124) d1_121 rfl (by decide) ?_
              refine own_icmp_ne X (pct := 133) (pc' := 127) d1_124 rfl (by decide) (by decide) (fun _ => ?_) (fun hc => absurd hc (by simp only [Int32.lt_iff_toInt_lt, ← Int32.toInt_inj, Int32.reduceToInt] at hc22_8 hc34_9 hc41_10 hc60_11 hc97_12 hc106_13 ⊢; omega))
              refine own_sipush X (v := (191 : Int32)) (pc' := 136) d1_133 rfl (by decide) ?_
              refine own_istore X (pc' := 138) (Ls' := #[.val (.ref a), .val (.int (5 : Int32)), .val (.int (c5 &&& (255 : Int32))), .val (.int (4 : Int32)), .val (.int (144 : Int32)), .val (.int (191 : Int32)), .unset, .unset, .unset]) d1_136 rfl rfl ?_
              refine own_goto X (pc' := 143) d1_138 (by decide) (by decide) ?_
              exact J143 _ _ _ (by rw [Int32.lt_iff_toInt_lt] at hc22_8 hc34_9 hc41_10 hc60_11 hc97_12; rw [← Int32.toInt_inj] at hc106_13; simp only [Int32.reduceToInt] at hc22_8 hc34_9 hc41_10 hc60_11 hc97_12 hc106_13; unfold own_L; (repeat' split); all_goals first | rfl | omega) (by rw [Int32.lt_iff_toInt_lt] at hc22_8 hc34_9 hc41_10 hc60_11 hc97_12; rw [← Int32.toInt_inj] at hc106_13; simp only [Int32.reduceToInt] at hc22_8 hc34_9 hc41_10 hc60_11 hc97_12 hc106_13; unfold own_lo; (repeat' split); all_goals first | rfl | omega) (by rw [Int32.lt_iff_toInt_lt] at hc22_8 hc34_9 hc41_10 hc60_11 hc97_12; rw [← Int32.toInt_inj] at hc106_13; simp only [Int32.reduceToInt] at hc22_8 hc34_9 hc41_10 hc60_11 hc97_12 hc106_13; unfold own_hi; (repeat' split); all_goals first | rfl | omega)
        · refine own_iconst X (v := (3 : Int32)) (pc' := 64) d1_63 rfl (by decide) ?_
          refine own_istoreN X (pc' := 65) (Ls' := #[.val (.ref a), .val (.int (5 : Int32)), .val (.int (c5 &&& (255 : Int32))), .val (.int (3 : Int32)), .val (.int (128 : Int32)), .val (.int (191 : Int32)), .unset, .unset, .unset]) d1_64 rfl rfl ?_
          refine own_iloadN X (pc' := 66) d1_65 rfl rfl ?_
          refine own_sipush X (v := (224 : Int32)) (pc' := 69) d1_66 rfl (by decide) ?_
          refine own_icmp_ne X (pct := 78) (pc' := 72) d1_69 rfl (by decide) (by decide) (fun hc69_15 => ?_) (fun hc69_15 => ?_)
          · refine own_sipush X (v := (128 : Int32)) (pc' := 81) d1_78 rfl (by decide) ?_
            refine own_istore X (pc' := 83) (Ls' := #[.val (.ref a), .val (.int (5 : Int32)), .val (.int (c5 &&& (255 : Int32))), .val (.int (3 : Int32)), .val (.int (128 : Int32)), .val (.int (191 : Int32)), .unset, .unset, .unset]) d1_81 rfl rfl ?_
            refine own_goto X (pc' := 143) d1_83 (by decide) (by decide) ?_
            exact J143 _ _ _ (by rw [Int32.lt_iff_toInt_lt] at hc22_8 hc34_9 hc41_10 hc60_11; rw [← Int32.toInt_inj] at hc69_15; simp only [Int32.reduceToInt] at hc22_8 hc34_9 hc41_10 hc60_11 hc69_15; unfold own_L; (repeat' split); all_goals first | rfl | omega) (by rw [Int32.lt_iff_toInt_lt] at hc22_8 hc34_9 hc41_10 hc60_11; rw [← Int32.toInt_inj] at hc69_15; simp only [Int32.reduceToInt] at hc22_8 hc34_9 hc41_10 hc60_11 hc69_15; unfold own_lo; (repeat' split); all_goals first | rfl | omega) (by rw [Int32.lt_iff_toInt_lt] at hc22_8 hc34_9 hc41_10 hc60_11; rw [← Int32.toInt_inj] at hc69_15; simp only [Int32.reduceToInt] at hc22_8 hc34_9 hc41_10 hc60_11 hc69_15; unfold own_hi; (repeat' split); all_goals first | rfl | omega)
          · refine own_sipush X (v := (160 : Int32)) (pc' := 75) d1_72 rfl (by decide) ?_
            refine own_goto X (pc' := 81) d1_75 (by decide) (by decide) ?_
            refine own_istore X (pc' := 83) (Ls' := #[.val (.ref a), .val (.int (5 : Int32)), .val (.int (c5 &&& (255 : Int32))), .val (.int (3 : Int32)), .val (.int (160 : Int32)), .val (.int (191 : Int32)), .unset, .unset, .unset]) d1_81 rfl rfl ?_
            refine own_goto X (pc' := 143) d1_83 (by decide) (by decide) ?_
            exact J143 _ _ _ (by rw [Int32.lt_iff_toInt_lt] at hc22_8 hc34_9 hc41_10 hc60_11; rw [← Int32.toInt_inj] at hc69_15; simp only [Int32.reduceToInt] at hc22_8 hc34_9 hc41_10 hc60_11 hc69_15; unfold own_L; (repeat' split); all_goals first | rfl | omega) (by rw [Int32.lt_iff_toInt_lt] at hc22_8 hc34_9 hc41_10 hc60_11; rw [← Int32.toInt_inj] at hc69_15; simp only [Int32.reduceToInt] at hc22_8 hc34_9 hc41_10 hc60_11 hc69_15; unfold own_lo; (repeat' split); all_goals first | rfl | omega) (by rw [Int32.lt_iff_toInt_lt] at hc22_8 hc34_9 hc41_10 hc60_11; rw [← Int32.toInt_inj] at hc69_15; simp only [Int32.reduceToInt] at hc22_8 hc34_9 hc41_10 hc60_11 hc69_15; unfold own_hi; (repeat' split); all_goals first | rfl | omega)
      · refine own_iconst X (v := (2 : Int32)) (pc' := 45) d1_44 rfl (by decide) ?_
        refine own_istoreN X (pc' := 46) (Ls' := #[.val (.ref a), .val (.int (5 : Int32)), .val (.int (c5 &&& (255 : Int32))), .val (.int (2 : Int32)), .val (.int (128 : Int32)), .val (.int (191 : Int32)), .unset, .unset, .unset]) d1_45 rfl rfl ?_
        refine own_goto X (pc' := 143) d1_46 (by decide) (by decide) ?_
        exact J143 _ _ _ (by rw [Int32.lt_iff_toInt_lt] at hc22_8 hc34_9 hc41_10; simp only [Int32.reduceToInt] at hc22_8 hc34_9 hc41_10; unfold own_L; (repeat' split); all_goals first | rfl | omega) (by rw [Int32.lt_iff_toInt_lt] at hc22_8 hc34_9 hc41_10; simp only [Int32.reduceToInt] at hc22_8 hc34_9 hc41_10; unfold own_lo; (repeat' split); all_goals first | rfl | omega) (by rw [Int32.lt_iff_toInt_lt] at hc22_8 hc34_9 hc41_10; simp only [Int32.reduceToInt] at hc22_8 hc34_9 hc41_10; unfold own_hi; (repeat' split); all_goals first | rfl | omega)
  · refine own_iconst X (v := (1 : Int32)) (pc' := 26) d1_25 rfl (by decide) ?_
    refine own_istoreN X (pc' := 27) (Ls' := #[.val (.ref a), .val (.int (5 : Int32)), .val (.int (c5 &&& (255 : Int32))), .val (.int (1 : Int32)), .val (.int (128 : Int32)), .val (.int (191 : Int32)), .unset, .unset, .unset]) d1_26 rfl rfl ?_
    refine own_goto X (pc' := 143) d1_27 (by decide) (by decide) ?_
    exact J143 _ _ _ (by rw [Int32.lt_iff_toInt_lt] at hc22_8; simp only [Int32.reduceToInt] at hc22_8; unfold own_L; (repeat' split); all_goals first | rfl | omega) (by rw [Int32.lt_iff_toInt_lt] at hc22_8; simp only [Int32.reduceToInt] at hc22_8; unfold own_lo; (repeat' split); all_goals first | rfl | omega) (by rw [Int32.lt_iff_toInt_lt] at hc22_8; simp only [Int32.reduceToInt] at hc22_8; unfold own_hi; (repeat' split); all_goals first | rfl | omega)
theorem pn_rm2_5 : plainFor (⟨"com/example/quern/quern/text/TextBytesSequenceLengthPinLaw", "expected", "([BI)I"⟩ : MethodName) = true := plainFor_of_name (by first | (simp [plainName, overriddenIn]; done) | decide +kernel)
theorem ef_rm2_5 (m : MethodId) (x0 : Addr) (x1 : Int32) : entryFrame m #[(.ref x0), (.int x1)] 6 = mkF m 0 #[.val (.ref x0), .val (.int x1), .unset, .unset, .unset, .unset] [] := by first | (simp [entryFrame, mkF, argsToLocals, Value.category]; done) | rfl
set_option maxRecDepth 65536 in
set_option maxHeartbeats 4000000 in
theorem rm2_5 (l : Launch) (Z : State) (a0 : Array Value) (hw : ∀ d ∈ tables_1, d.before a0 Z = true) (n0 : Nat) (a : Addr) (h0 : Heap) (hn0 : n0 ≤ h0.size) (c0 c1 c2 c3 c4 c5 c6 c7 : Int32) (A : own_A Z h0 a .byte [c0, c1, c2, c3, c4, c5, c6, c7]) :
    own_Met l (⟨"com/example/quern/quern/text/TextBytesSequenceLengthPinLaw", "expected", "([BI)I"⟩ : MethodName) method_7_code 6 (some .int) ({ frames := 1, cells := 0, slots := 0, locals := 20 } : Room) Z n0 #[(.ref a), (.int (5 : Int32))] h0 (some (.int (own_ex (own_L (c5 &&& (255 : Int32))) (c5 &&& (255 : Int32)) [(c6 &&& (255 : Int32)), (c7 &&& (255 : Int32))]))) (fun h' => h' = h0) := by
  refine own_met pn_rm2_5 hn0 ?_
  intro p e s m below meth c T X
  refine own_cast (ef_rm2_5 m a (5 : Int32)) ?_
  generalize hΦ : own_Q n0 below s _ _ _ = Φ
  refine own_aloadN X (pc' := 1) d2_0 rfl rfl rfl ?_
  refine own_iloadN X (pc' := 2) d2_1 rfl rfl ?_
  refine own_callS X (W := 0) (argsL := [(.ref a), (.int (5 : Int32))]) (rest := []) (S' := [(.int (c5 &&& (255 : Int32)))]) (pc' := 5) (rm3 l Z a0 hw n0 a (5 : Int32) h0 X.size _ A c5 rfl rfl) (hw _ (List.mem_of_getElem? (i := 9) rfl)) (hw _ (List.mem_of_getElem? (i := 10) rfl)) (hw _ (List.mem_of_getElem? (i := 7) rfl)) (hw _ (List.mem_of_getElem? (i := 11) rfl)) (by decide) (by decide) (by decide) rfl rfl (by decide) (by decide) (lenOf pd_0 rfl) rfl (by first | decide | exact Nat.le_of_eq rfl) rfl d2_2 rfl rfl ?_
  intro T1 h1 X1 qq1
  rw [show h1 = h0 from qq1] at X1
  refine own_istoreN X1 (pc' := 6) (Ls' := #[.val (.ref a), .val (.int (5 : Int32)), .val (.int (c5 &&& (255 : Int32))), .unset, .unset, .unset]) d2_5 rfl rfl ?_
  refine own_iloadN X1 (pc' := 7) d2_6 rfl rfl ?_
  refine own_callS X1 (W := 0) (argsL := [(.int (c5 &&& (255 : Int32)))]) (rest := []) (S' := [(.int (own_L (c5 &&& (255 : Int32))))]) (pc' := 10) (rm4 l Z a0 hw n0 (c5 &&& (255 : Int32)) h0 X1.size) (hw _ (List.mem_of_getElem? (i := 12) rfl)) (hw _ (List.mem_of_getElem? (i := 13) rfl)) (hw _ (List.mem_of_getElem? (i := 7) rfl)) (hw _ (List.mem_of_getElem? (i := 14) rfl)) (by decide) (by decide) (by decide) rfl rfl (by decide) (by decide) (lenOf pd_1 rfl) rfl (by first | decide | exact Nat.le_of_eq rfl) rfl d2_7 rfl rfl ?_
  intro T2 h2 X2 qq2
  rw [show h2 = h0 from qq2] at X2
  refine own_istoreN X2 (pc' := 11) (Ls' := #[.val (.ref a), .val (.int (5 : Int32)), .val (.int (c5 &&& (255 : Int32))), .val (.int (own_L (c5 &&& (255 : Int32)))), .unset, .unset]) d2_10 rfl rfl ?_
  refine own_aloadN X2 (pc' := 12) d2_11 rfl rfl rfl ?_
  refine own_len X2 (v := (8 : Int32)) (pc' := 13) A (by first | rfl | decide) d2_12 rfl ?_
  refine own_iloadN X2 (pc' := 14) d2_13 rfl rfl ?_
  refine own_isub X2 (r := (3 : Int32)) (pc' := 15) d2_14 rfl (by decide) ?_
  refine own_istore X2 (pc' := 17) (Ls' := #[.val (.ref a), .val (.int (5 : Int32)), .val (.int (c5 &&& (255 : Int32))), .val (.int (own_L (c5 &&& (255 : Int32)))), .val (.int (3 : Int32)), .unset]) d2_15 rfl rfl ?_
  refine own_iconst X2 (v := (1 : Int32)) (pc' := 18) d2_17 rfl (by decide) ?_
  refine own_istore X2 (pc' := 20) (Ls' := #[.val (.ref a), .val (.int (5 : Int32)), .val (.int (c5 &&& (255 : Int32))), .val (.int (own_L (c5 &&& (255 : Int32)))), .val (.int (3 : Int32)), .val (.int (1 : Int32))]) d2_18 rfl rfl ?_
  refine own_iloadN X2 (pc' := 21) d2_20 rfl rfl ?_
  refine own_iconst X2 (v := (2 : Int32)) (pc' := 22) d2_21 rfl (by decide) ?_
  refine own_icmp_lt X2 (pct := 102) (pc' := 25) d2_22 rfl (by decide) (by decide) (fun hc22_3 => ?_) (fun hc22_3 => ?_)
  · refine own_iload X2 (pc' := 104) d2_102 rfl rfl ?_
    subst hΦ
    exact own_retI X2 d2_104 (by decide) (by decide) (by rw [own_exc, if_pos hc22_3]) rfl
  · refine own_iload X2 (pc' := 27) d2_25 rfl rfl ?_
    refine own_iconst X2 (v := (2 : Int32)) (pc' := 28) d2_27 rfl (by decide) ?_
    refine own_icmp_lt X2 (pct := 102) (pc' := 31) d2_28 rfl (by decide) (by decide) (fun hc => absurd hc (by decide)) (fun _ => ?_)
    refine own_iloadN X2 (pc' := 32) d2_31 rfl rfl ?_
    refine own_aloadN X2 (pc' := 33) d2_32 rfl rfl rfl ?_
    refine own_iloadN X2 (pc' := 34) d2_33 rfl rfl ?_
    refine own_iconst X2 (v := (1 : Int32)) (pc' := 35) d2_34 rfl (by decide) ?_
    refine own_iadd X2 (r := (6 : Int32)) (pc' := 36) d2_35 rfl (by decide) ?_
    refine own_callS X2 (W := 1) (argsL := [(.ref a), (.int (6 : Int32))]) (rest := [(.int (c5 &&& (255 : Int32)))]) (S' := [(.int (c6 &&& (255 : Int32))), (.int (c5 &&& (255 : Int32)))]) (pc' := 39) (rm3 l Z a0 hw n0 a (6 : Int32) h0 X2.size _ A c6 rfl rfl) (hw _ (List.mem_of_getElem? (i := 9) rfl)) (hw _ (List.mem_of_getElem? (i := 10) rfl)) (hw _ (List.mem_of_getElem? (i := 7) rfl)) (hw _ (List.mem_of_getElem? (i := 11) rfl)) (by decide) (by decide) (by decide) rfl rfl (by decide) (by decide) (lenOf pd_0 rfl) rfl (by first | decide | exact Nat.le_of_eq rfl) rfl d2_36 rfl rfl ?_
    intro T4 h4 X4 qq4
    rw [show h4 = h0 from qq4] at X4
    refine own_callS X4 (W := 0) (argsL := [(.int (c5 &&& (255 : Int32))), (.int (c6 &&& (255 : Int32)))]) (rest := []) (S' := [(.int (own_sf (c5 &&& (255 : Int32)) (c6 &&& (255 : Int32))))]) (pc' := 42) (rm5 l Z a0 hw n0 (c5 &&& (255 : Int32)) (c6 &&& (255 : Int32)) h0 X4.size) (hw _ (List.mem_of_getElem? (i := 15) rfl)) (hw _ (List.mem_of_getElem? (i := 16) rfl)) (hw _ (List.mem_of_getElem? (i := 7) rfl)) (hw _ (List.mem_of_getElem? (i := 17) rfl)) (by decide) (by decide) (by decide) rfl rfl (by decide) (by decide) (lenOf pd_2 rfl) rfl (by first | decide | exact Nat.le_of_eq rfl) rfl d2_39 rfl rfl ?_
    intro T5 h5 X5 qq5
    rw [show h5 = h0 from qq5] at X5
    refine own_if_eq X5 (pct := 102) (pc' := 45) d2_42 rfl (by decide) (by decide) (fun hc42_6 => ?_) (fun hc42_6 => ?_)
    · refine own_iload X5 (pc' := 104) d2_102 rfl rfl ?_
      subst hΦ
      exact own_retI X5 d2_104 (by decide) (by decide) (by rw [own_exc, if_neg hc22_3, if_pos hc42_6]) rfl
    · refine own_iconst X5 (v := (2 : Int32)) (pc' := 46) d2_45 rfl (by decide) ?_
      refine own_istore X5 (pc' := 48) (Ls' := #[.val (.ref a), .val (.int (5 : Int32)), .val (.int (c5 &&& (255 : Int32))), .val (.int (own_L (c5 &&& (255 : Int32)))), .val (.int (3 : Int32)), .val (.int (2 : Int32))]) d2_46 rfl rfl ?_
      refine own_iloadN X5 (pc' := 49) d2_48 rfl rfl ?_
      refine own_iconst X5 (v := (3 : Int32)) (pc' := 50) d2_49 rfl (by decide) ?_
      refine own_icmp_lt X5 (pct := 102) (pc' := 53) d2_50 rfl (by decide) (by decide) (fun hc50_7 => ?_) (fun hc50_7 => ?_)
      · refine own_iload X5 (pc' := 104) d2_102 rfl rfl ?_
        subst hΦ
        exact own_retI X5 d2_104 (by decide) (by decide) (by rw [own_exc, if_neg hc22_3, if_neg hc42_6, own_e2c, if_pos hc50_7]) rfl
      · refine own_iload X5 (pc' := 55) d2_53 rfl rfl ?_
        refine own_iconst X5 (v := (3 : Int32)) (pc' := 56) d2_55 rfl (by decide) ?_
        refine own_icmp_lt X5 (pct := 102) (pc' := 59) d2_56 rfl (by decide) (by decide) (fun hc => absurd hc (by decide)) (fun _ => ?_)
        refine own_aloadN X5 (pc' := 60) d2_59 rfl rfl rfl ?_
        refine own_iloadN X5 (pc' := 61) d2_60 rfl rfl ?_
        refine own_iconst X5 (v := (2 : Int32)) (pc' := 62) d2_61 rfl (by decide) ?_
        refine own_iadd X5 (r := (7 : Int32)) (pc' := 63) d2_62 rfl (by decide) ?_
        refine own_callS X5 (W := 0) (argsL := [(.ref a), (.int (7 : Int32))]) (rest := []) (S' := [(.int (c7 &&& (255 : Int32)))]) (pc' := 66) (rm3 l Z a0 hw n0 a (7 : Int32) h0 X5.size _ A c7 rfl rfl) (hw _ (List.mem_of_getElem? (i := 9) rfl)) (hw _ (List.mem_of_getElem? (i := 10) rfl)) (hw _ (List.mem_of_getElem? (i := 7) rfl)) (hw _ (List.mem_of_getElem? (i := 11) rfl)) (by decide) (by decide) (by decide) rfl rfl (by decide) (by decide) (lenOf pd_0 rfl) rfl (by first | decide | exact Nat.le_of_eq rfl) rfl d2_63 rfl rfl ?_
        intro T8 h8 X8 qq8
        rw [show h8 = h0 from qq8] at X8
        refine own_callS X8 (W := 0) (argsL := [(.int (c7 &&& (255 : Int32)))]) (rest := []) (S' := [(.int (own_ct (c7 &&& (255 : Int32))))]) (pc' := 69) (rm6 l Z a0 hw n0 (c7 &&& (255 : Int32)) h0 X8.size) (hw _ (List.mem_of_getElem? (i := 18) rfl)) (hw _ (List.mem_of_getElem? (i := 19) rfl)) (hw _ (List.mem_of_getElem? (i := 7) rfl)) (hw _ (List.mem_of_getElem? (i := 20) rfl)) (by decide) (by decide) (by decide) rfl rfl (by decide) (by decide) (lenOf pd_3 rfl) rfl (by first | decide | exact Nat.le_of_eq rfl) rfl d2_66 rfl rfl ?_
        intro T9 h9 X9 qq9
        rw [show h9 = h0 from qq9] at X9
        refine own_if_eq X9 (pct := 102) (pc' := 72) d2_69 rfl (by decide) (by decide) (fun hc69_10 => ?_) (fun hc69_10 => ?_)
        · refine own_iload X9 (pc' := 104) d2_102 rfl rfl ?_
          subst hΦ
          exact own_retI X9 d2_104 (by decide) (by decide) (by rw [own_exc, if_neg hc22_3, if_neg hc42_6, own_e2c, if_neg hc50_7, if_pos hc69_10]) rfl
        · refine own_iconst X9 (v := (3 : Int32)) (pc' := 73) d2_72 rfl (by decide) ?_
          refine own_istore X9 (pc' := 75) (Ls' := #[.val (.ref a), .val (.int (5 : Int32)), .val (.int (c5 &&& (255 : Int32))), .val (.int (own_L (c5 &&& (255 : Int32)))), .val (.int (3 : Int32)), .val (.int (3 : Int32))]) d2_73 rfl rfl ?_
          refine own_iloadN X9 (pc' := 76) d2_75 rfl rfl ?_
          refine own_iconst X9 (v := (4 : Int32)) (pc' := 77) d2_76 rfl (by decide) ?_
          refine own_icmp_lt X9 (pct := 102) (pc' := 80) d2_77 rfl (by decide) (by decide) (fun hc77_11 => ?_) (fun hc77_11 => ?_)
          · refine own_iload X9 (pc' := 104) d2_102 rfl rfl ?_
            subst hΦ
            exact own_retI X9 d2_104 (by decide) (by decide) (by rw [own_exc, if_neg hc22_3, if_neg hc42_6, own_e2c, if_neg hc50_7, if_neg hc69_10, own_e3n, if_pos hc77_11]) rfl
          · refine own_iload X9 (pc' := 82) d2_80 rfl rfl ?_
            refine own_iconst X9 (v := (4 : Int32)) (pc' := 83) d2_82 rfl (by decide) ?_
            refine own_icmp_lt X9 (pct := 102) (pc' := 86) d2_83 rfl (by decide) (by decide) (fun _ => ?_) (fun hc => absurd hc (by decide))
            refine own_iload X9 (pc' := 104) d2_102 rfl rfl ?_
            subst hΦ
            exact own_retI X9 d2_104 (by decide) (by decide) (by rw [own_exc, if_neg hc22_3, if_neg hc42_6, own_e2c, if_neg hc50_7, if_neg hc69_10, own_e3n, if_neg hc77_11]) rfl
theorem pn_rm1_6 : plainFor (⟨"com/example/quern/quern/text/TextBytes", "sequenceLength", "([BI)I"⟩ : MethodName) = true := plainFor_of_name (by first | (simp [plainName, overriddenIn]; done) | decide +kernel)
theorem ef_rm1_6 (m : MethodId) (x0 : Addr) (x1 : Int32) : entryFrame m #[(.ref x0), (.int x1)] 9 = mkF m 0 #[.val (.ref x0), .val (.int x1), .unset, .unset, .unset, .unset, .unset, .unset, .unset] [] := by first | (simp [entryFrame, mkF, argsToLocals, Value.category]; done) | rfl
set_option maxRecDepth 65536 in
set_option maxHeartbeats 4000000 in
theorem rm1_6 (l : Launch) (Z : State) (a0 : Array Value) (hw : ∀ d ∈ tables_1, d.before a0 Z = true) (n0 : Nat) (a : Addr) (h0 : Heap) (hn0 : n0 ≤ h0.size) (c0 c1 c2 c3 c4 c5 c6 c7 : Int32) (A : own_A Z h0 a .byte [c0, c1, c2, c3, c4, c5, c6, c7]) :
    own_Met l (⟨"com/example/quern/quern/text/TextBytes", "sequenceLength", "([BI)I"⟩ : MethodName) prog_310_method_5_code 9 (some .int) ({ frames := 0, cells := 0, slots := 0, locals := 0 } : Room) Z n0 #[(.ref a), (.int (6 : Int32))] h0 (some (.int (own_sq (own_L (c6 &&& (255 : Int32))) (own_lo (c6 &&& (255 : Int32))) (own_hi (c6 &&& (255 : Int32))) [(c7 &&& (255 : Int32))]))) (fun h' => h' = h0) := by
  refine own_met pn_rm1_6 hn0 ?_
  intro p e s m below meth c T X
  refine own_cast (ef_rm1_6 m a (6 : Int32)) ?_
  generalize hΦ : own_Q n0 below s _ _ _ = Φ
  refine own_aloadN X (pc' := 1) d1_0 rfl rfl rfl ?_
  refine own_iloadN X (pc' := 2) d1_1 rfl rfl ?_
  refine own_baload X (v := c6) (pc' := 3) A rfl rfl d1_2 rfl ?_
  refine own_sipush X (v := (255 : Int32)) (pc' := 6) d1_3 rfl (by decide) ?_
  refine own_iand X (r := (c6 &&& (255 : Int32))) (pc' := 7) d1_6 rfl rfl ?_
  refine own_istoreN X (pc' := 8) (Ls' := #[.val (.ref a), .val (.int (6 : Int32)), .val (.int (c6 &&& (255 : Int32))), .unset, .unset, .unset, .unset, .unset, .unset]) d1_7 rfl rfl ?_
  refine own_sipush X (v := (128 : Int32)) (pc' := 11) d1_8 rfl (by decide) ?_
  refine own_istore X (pc' := 13) (Ls' := #[.val (.ref a), .val (.int (6 : Int32)), .val (.int (c6 &&& (255 : Int32))), .unset, .val (.int (128 : Int32)), .unset, .unset, .unset, .unset]) d1_11 rfl rfl ?_
  refine own_sipush X (v := (191 : Int32)) (pc' := 16) d1_13 rfl (by decide) ?_
  refine own_istore X (pc' := 18) (Ls' := #[.val (.ref a), .val (.int (6 : Int32)), .val (.int (c6 &&& (255 : Int32))), .unset, .val (.int (128 : Int32)), .val (.int (191 : Int32)), .unset, .unset, .unset]) d1_16 rfl rfl ?_
  have J143 : ∀ (len sec top : Int32) (_ : len = own_L (c6 &&& (255 : Int32))) (_ : sec = own_lo (c6 &&& (255 : Int32))) (_ : top = own_hi (c6 &&& (255 : Int32))), own_G p e below Φ T (mkF m 143 #[.val (.ref a), .val (.int (6 : Int32)), .val (.int (c6 &&& (255 : Int32))), .val (.int len), .val (.int sec), .val (.int top), .unset, .unset, .unset] []) := by
    intro len sec top j1 j2 j3
    refine own_iconst X (v := (1 : Int32)) (pc' := 144) d1_143 rfl (by decide) ?_
    refine own_istore X (pc' := 146) (Ls' := #[.val (.ref a), .val (.int (6 : Int32)), .val (.int (c6 &&& (255 : Int32))), .val (.int len), .val (.int sec), .val (.int top), .val (.int (1 : Int32)), .unset, .unset]) d1_144 rfl rfl ?_
    refine own_iload X (pc' := 148) d1_146 rfl rfl ?_
    refine own_iloadN X (pc' := 149) d1_148 rfl rfl ?_
    refine own_icmp_ge X (pct := 238) (pc' := 152) d1_149 rfl (by decide) (by decide) (fun hc149_1 => ?_) (fun hc149_1 => ?_)
    · refine own_iload X (pc' := 240) d1_238 rfl rfl ?_
      subst hΦ
      exact own_retI X d1_240 (by decide) (by decide) (by rw [← j1, ← j2, ← j3, own_sqc, if_neg hc149_1]) rfl
    · refine own_iloadN X (pc' := 153) d1_152 rfl rfl ?_
      refine own_iload X (pc' := 155) d1_153 rfl rfl ?_
      refine own_iadd X (r := (7 : Int32)) (pc' := 156) d1_155 rfl (by decide) ?_
      refine own_aloadN X (pc' := 157) d1_156 rfl rfl rfl ?_
      refine own_len X (v := (8 : Int32)) (pc' := 158) A (by first | rfl | decide) d1_157 rfl ?_
      refine own_icmp_ge X (pct := 238) (pc' := 161) d1_158 rfl (by decide) (by decide) (fun hc => absurd hc (by decide)) (fun _ => ?_)
      refine own_aloadN X (pc' := 162) d1_161 rfl rfl rfl ?_
      refine own_iloadN X (pc' := 163) d1_162 rfl rfl ?_
      refine own_iload X (pc' := 165) d1_163 rfl rfl ?_
      refine own_iadd X (r := (7 : Int32)) (pc' := 166) d1_165 rfl (by decide) ?_
      refine own_baload X (v := c7) (pc' := 167) A rfl rfl d1_166 rfl ?_
      refine own_sipush X (v := (255 : Int32)) (pc' := 170) d1_167 rfl (by decide) ?_
      refine own_iand X (r := (c7 &&& (255 : Int32))) (pc' := 171) d1_170 rfl rfl ?_
      refine own_istore X (pc' := 173) (Ls' := #[.val (.ref a), .val (.int (6 : Int32)), .val (.int (c6 &&& (255 : Int32))), .val (.int len), .val (.int sec), .val (.int top), .val (.int (1 : Int32)), .val (.int (c7 &&& (255 : Int32))), .unset]) d1_171 rfl rfl ?_
      refine own_iload X (pc' := 175) d1_173 rfl rfl ?_
      refine own_iconst X (v := (1 : Int32)) (pc' := 176) d1_175 rfl (by decide) ?_
      refine own_icmp_ne X (pct := 201) (pc' := 179) d1_176 rfl (by decide) (by decide) (fun hc => absurd hc (by decide)) (fun _ => ?_)
      refine own_iload X (pc' := 181) d1_179 rfl rfl ?_
      refine own_iload X (pc' := 183) d1_181 rfl rfl ?_
      refine own_icmp_lt X (pct := 197) (pc' := 186) d1_183 rfl (by decide) (by decide) (fun hc183_2 => ?_) (fun hc183_2 => ?_)
      · refine own_iconst X (v := (0 : Int32)) (pc' := 198) d1_197 rfl (by decide) ?_
        refine own_goto X (pc' := 222) d1_198 (by decide) (by decide) ?_
        refine own_istore X (pc' := 224) (Ls' := #[.val (.ref a), .val (.int (6 : Int32)), .val (.int (c6 &&& (255 : Int32))), .val (.int len), .val (.int sec), .val (.int top), .val (.int (1 : Int32)), .val (.int (c7 &&& (255 : Int32))), .val (.int (0 : Int32))]) d1_222 rfl rfl ?_
        refine own_iload X (pc' := 226) d1_224 rfl rfl ?_
        refine own_if_ne X (pct := 232) (pc' := 229) d1_226 rfl (by decide) (by decide) (fun hc => absurd hc (by decide)) (fun _ => ?_)
        refine own_goto X (pc' := 238) d1_229 (by decide) (by decide) ?_
        refine own_iload X (pc' := 240) d1_238 rfl rfl ?_
        subst hΦ
        exact own_retI X d1_240 (by decide) (by decide) (by rw [← j1, ← j2, ← j3, own_sqc, if_pos hc149_1, if_pos hc183_2]) rfl
      · refine own_iload X (pc' := 188) d1_186 rfl rfl ?_
        refine own_iload X (pc' := 190) d1_188 rfl rfl ?_
        refine own_icmp_gt X (pct := 197) (pc' := 193) d1_190 rfl (by decide) (by decide) (fun hc190_3 => ?_) (fun hc190_3 => ?_)
        · refine own_iconst X (v := (0 : Int32)) (pc' := 198) d1_197 rfl (by decide) ?_
          refine own_goto X (pc' := 222) d1_198 (by decide) (by decide) ?_
          refine own_istore X (pc' := 224) (Ls' := #[.val (.ref a), .val (.int (6 : Int32)), .val (.int (c6 &&& (255 : Int32))), .val (.int len), .val (.int sec), .val (.int top), .val (.int (1 : Int32)), .val (.int (c7 &&& (255 : Int32))), .val (.int (0 : Int32))]) d1_222 rfl rfl ?_
          refine own_iload X (pc' := 226) d1_224 rfl rfl ?_
          refine own_if_ne X (pct := 232) (pc' := 229) d1_226 rfl (by decide) (by decide) (fun hc => absurd hc (by decide)) (fun _ => ?_)
          refine own_goto X (pc' := 238) d1_229 (by decide) (by decide) ?_
          refine own_iload X (pc' := 240) d1_238 rfl rfl ?_
          subst hΦ
          exact own_retI X d1_240 (by decide) (by decide) (by rw [← j1, ← j2, ← j3, own_sqc, if_pos hc149_1, if_neg hc183_2, if_pos hc190_3]) rfl
        · refine own_iconst X (v := (1 : Int32)) (pc' := 194) d1_193 rfl (by decide) ?_
          refine own_goto X (pc' := 222) d1_194 (by decide) (by decide) ?_
          refine own_istore X (pc' := 224) (Ls' := #[.val (.ref a), .val (.int (6 : Int32)), .val (.int (c6 &&& (255 : Int32))), .val (.int len), .val (.int sec), .val (.int top), .val (.int (1 : Int32)), .val (.int (c7 &&& (255 : Int32))), .val (.int (1 : Int32))]) d1_222 rfl rfl ?_
          refine own_iload X (pc' := 226) d1_224 rfl rfl ?_
          refine own_if_ne X (pct := 232) (pc' := 229) d1_226 rfl (by decide) (by decide) (fun _ => ?_) (fun hc => absurd hc (by decide))
          refine own_iinc X (pc' := 235) (Ls' := #[.val (.ref a), .val (.int (6 : Int32)), .val (.int (c6 &&& (255 : Int32))), .val (.int len), .val (.int sec), .val (.int top), .val (.int (2 : Int32)), .val (.int (c7 &&& (255 : Int32))), .val (.int (1 : Int32))]) (w := (2 : Int32)) d1_232 rfl rfl (by decide) rfl ?_
          refine own_goto X (pc' := 146) d1_235 (by decide) (by decide) ?_
          refine own_iload X (pc' := 148) d1_146 rfl rfl ?_
          refine own_iloadN X (pc' := 149) d1_148 rfl rfl ?_
          refine own_icmp_ge X (pct := 238) (pc' := 152) d1_149 rfl (by decide) (by decide) (fun hc149_4 => ?_) (fun hc149_4 => ?_)
          · refine own_iload X (pc' := 240) d1_238 rfl rfl ?_
            subst hΦ
            exact own_retI X d1_240 (by decide) (by decide) (by rw [← j1, ← j2, ← j3, own_sqc, if_pos hc149_1, if_neg hc183_2, if_neg hc190_3, own_l2n]) rfl
          · refine own_iloadN X (pc' := 153) d1_152 rfl rfl ?_
            refine own_iload X (pc' := 155) d1_153 rfl rfl ?_
            refine own_iadd X (r := (8 : Int32)) (pc' := 156) d1_155 rfl (by decide) ?_
            refine own_aloadN X (pc' := 157) d1_156 rfl rfl rfl ?_
            refine own_len X (v := (8 : Int32)) (pc' := 158) A (by first | rfl | decide) d1_157 rfl ?_
            refine own_icmp_ge X (pct := 238) (pc' := 161) d1_158 rfl (by decide) (by decide) (fun _ => ?_) (fun hc => absurd hc (by decide))
            refine own_iload X (pc' := 240) d1_238 rfl rfl ?_
            subst hΦ
            exact own_retI X d1_240 (by decide) (by decide) (by rw [← j1, ← j2, ← j3, own_sqc, if_pos hc149_1, if_neg hc183_2, if_neg hc190_3, own_l2n]) rfl
  refine own_iloadN X (pc' := 19) d1_18 rfl rfl ?_
  refine own_sipush X (v := (128 : Int32)) (pc' := 22) d1_19 rfl (by decide) ?_
  refine own_icmp_ge X (pct := 30) (pc' := 25) d1_22 rfl (by decide) (by decide) (fun hc22_5 => ?_) (fun hc22_5 => ?_)
  · refine own_iloadN X (pc' := 31) d1_30 rfl rfl ?_
    refine own_sipush X (v := (194 : Int32)) (pc' := 34) d1_31 rfl (by decide) ?_
    refine own_icmp_lt X (pct := 49) (pc' := 37) d1_34 rfl (by decide) (by decide) (fun hc34_6 => ?_) (fun hc34_6 => ?_)
    · refine own_iloadN X (pc' := 50) d1_49 rfl rfl ?_
      refine own_sipush X (v := (224 : Int32)) (pc' := 53) d1_50 rfl (by decide) ?_
      refine own_icmp_lt X (pct := 86) (pc' := 56) d1_53 rfl (by decide) (by decide) (fun _ => ?_) (fun hc => absurd hc (by simp only [Int32.lt_iff_toInt_lt, ← Int32.toInt_inj, Int32.reduceToInt] at hc22_5 hc34_6 ⊢; omega))
      refine own_iloadN X (pc' := 87) d1_86 rfl rfl ?_
      refine own_sipush X (v := (240 : Int32)) (pc' := 90) d1_87 rfl (by decide) ?_
      refine own_icmp_lt X (pct := 141) (pc' := 93) d1_90 rfl (by decide) (by decide) (fun _ => ?_) (fun hc => absurd hc (by simp only [Int32.lt_iff_toInt_lt, ← Int32.toInt_inj, Int32.reduceToInt] at hc22_5 hc34_6 ⊢; omega))
      refine own_iconst X (v := (1 : Int32)) (pc' := 142) d1_141 rfl (by decide) ?_
      refine own_istoreN X (pc' := 143) (Ls' := #[.val (.ref a), .val (.int (6 : Int32)), .val (.int (c6 &&& (255 : Int32))), .val (.int (1 : Int32)), .val (.int (128 : Int32)), .val (.int (191 : Int32)), .unset, .unset, .unset]) d1_142 rfl rfl ?_
      exact J143 _ _ _ (by rw [Int32.lt_iff_toInt_lt] at hc22_5 hc34_6; simp only [Int32.reduceToInt] at hc22_5 hc34_6; unfold own_L; (repeat' split); all_goals first | rfl | omega) (by rw [Int32.lt_iff_toInt_lt] at hc22_5 hc34_6; simp only [Int32.reduceToInt] at hc22_5 hc34_6; unfold own_lo; (repeat' split); all_goals first | rfl | omega) (by rw [Int32.lt_iff_toInt_lt] at hc22_5 hc34_6; simp only [Int32.reduceToInt] at hc22_5 hc34_6; unfold own_hi; (repeat' split); all_goals first | rfl | omega)
    · refine own_iloadN X (pc' := 38) d1_37 rfl rfl ?_
      refine own_sipush X (v := (223 : Int32)) (pc' := 41) d1_38 rfl (by decide) ?_
      refine own_icmp_gt X (pct := 49) (pc' := 44) d1_41 rfl (by decide) (by decide) (fun hc41_7 => ?_) (fun hc41_7 => ?_)
      · refine own_iloadN X (pc' := 50) d1_49 rfl rfl ?_
        refine own_sipush X (v := (224 : Int32)) (pc' := 53) d1_50 rfl (by decide) ?_
        refine own_icmp_lt X (pct := 86) (pc' := 56) d1_53 rfl (by decide) (by decide) (fun hc => absurd hc (by simp only [Int32.lt_iff_toInt_lt, ← Int32.toInt_inj, Int32.reduceToInt] at hc22_5 hc34_6 hc41_7 ⊢; omega)) (fun _ => ?_)
        refine own_iloadN X (pc' := 57) d1_56 rfl rfl ?_
        refine own_sipush X (v := (239 : Int32)) (pc' := 60) d1_57 rfl (by decide) ?_
        refine own_icmp_gt X (pct := 86) (pc' := 63) d1_60 rfl (by decide) (by decide) (fun hc60_8 => ?_) (fun hc60_8 => ?_)
        · refine own_iloadN X (pc' := 87) d1_86 rfl rfl ?_
          refine own_sipush X (v := (240 : Int32)) (pc' := 90) d1_87 rfl (by decide) ?_
          refine own_icmp_lt X (pct := 141) (pc' := 93) d1_90 rfl (by decide) (by decide) (fun hc => absurd hc (by simp only [Int32.lt_iff_toInt_lt, ← Int32.toInt_inj, Int32.reduceToInt] at hc22_5 hc34_6 hc41_7 hc60_8 ⊢; omega)) (fun _ => ?_)
          refine own_iloadN X (pc' := 94) d1_93 rfl rfl ?_
          refine own_sipush X (v := (244 : Int32)) (pc' := 97) d1_94 rfl (by decide) ?_
          refine own_icmp_gt X (pct := 141) (pc' := 100) d1_97 rfl (by decide) (by decide) (fun hc97_9 => ?_) (fun hc97_9 => ?_)
          · refine own_iconst X (v := (1 : Int32)) (pc' := 142) d1_141 rfl (by decide) ?_
            refine own_istoreN X (pc' := 143) (Ls' := #[.val (.ref a), .val (.int (6 : Int32)), .val (.int (c6 &&& (255 : Int32))), .val (.int (1 : Int32)), .val (.int (128 : Int32)), .val (.int (191 : Int32)), .unset, .unset, .unset]) d1_142 rfl rfl ?_
            exact J143 _ _ _ (by rw [Int32.lt_iff_toInt_lt] at hc22_5 hc34_6 hc41_7 hc60_8 hc97_9; simp only [Int32.reduceToInt] at hc22_5 hc34_6 hc41_7 hc60_8 hc97_9; unfold own_L; (repeat' split); all_goals first | rfl | omega) (by rw [Int32.lt_iff_toInt_lt] at hc22_5 hc34_6 hc41_7 hc60_8 hc97_9; simp only [Int32.reduceToInt] at hc22_5 hc34_6 hc41_7 hc60_8 hc97_9; unfold own_lo; (repeat' split); all_goals first | rfl | omega) (by rw [Int32.lt_iff_toInt_lt] at hc22_5 hc34_6 hc41_7 hc60_8 hc97_9; simp only [Int32.reduceToInt] at hc22_5 hc34_6 hc41_7 hc60_8 hc97_9; unfold own_hi; (repeat' split); all_goals first | rfl | omega)
          · refine own_iconst X (v := (4 : Int32)) (pc' := 101) d1_100 rfl (by decide) ?_
            refine own_istoreN X (pc' := 102) (Ls' := #[.val (.ref a), .val (.int (6 : Int32)), .val (.int (c6 &&& (255 : Int32))), .val (.int (4 : Int32)), .val (.int (128 : Int32)), .val (.int (191 : Int32)), .unset, .unset, .unset]) d1_101 rfl rfl ?_
            refine own_iloadN X (pc' := 103) d1_102 rfl rfl ?_
            refine own_sipush X (v := (240 : Int32)) (pc' := 106) d1_103 rfl (by decide) ?_
            refine own_icmp_ne X (pct := 115) (pc' := 109) d1_106 rfl (by decide) (by decide) (fun hc106_10 => ?_) (fun hc106_10 => ?_)
            · refine own_sipush X (v := (128 : Int32)) (pc' := 118) d1_115 rfl (by decide) ?_
              refine own_istore X (pc' := 120) (Ls' := #[.val (.ref a), .val (.int (6 : Int32)), .val (.int (c6 &&& (255 : Int32))), .val (.int (4 : Int32)), .val (.int (128 : Int32)), .val (.int (191 : Int32)), .unset, .unset, .unset]) d1_118 rfl rfl ?_
              refine own_iloadN X (pc' := 121) d1_120 rfl rfl ?_
              refine own_sipush X (v := (244 : Int32)) (pc' := 124) d1_121 rfl (by decide) ?_
              refine own_icmp_ne X (pct := 133) (pc' := 127) d1_124 rfl (by decide) (by decide) (fun hc124_11 => ?_) (fun hc124_11 => ?_)
              · refine own_sipush X (v := (191 : Int32)) (pc' := 136) d1_133 rfl (by decide) ?_
                refine own_istore X (pc' := 138) (Ls' := #[.val (.ref a), .val (.int (6 : Int32)), .val (.int (c6 &&& (255 : Int32))), .val (.int (4 : Int32)), .val (.int (128 : Int32)), .val (.int (191 : Int32)), .unset, .unset, .unset]) d1_136 rfl rfl ?_
                refine own_goto X (pc' := 143) d1_138 (by decide) (by decide) ?_
                exact J143 _ _ _ (by rw [Int32.lt_iff_toInt_lt] at hc22_5 hc34_6 hc41_7 hc60_8 hc97_9; rw [← Int32.toInt_inj] at hc106_10 hc124_11; simp only [Int32.reduceToInt] at hc22_5 hc34_6 hc41_7 hc60_8 hc97_9 hc106_10 hc124_11; unfold own_L; (repeat' split); all_goals first | rfl | omega) (by rw [Int32.lt_iff_toInt_lt] at hc22_5 hc34_6 hc41_7 hc60_8 hc97_9; rw [← Int32.toInt_inj] at hc106_10 hc124_11; simp only [Int32.reduceToInt] at hc22_5 hc34_6 hc41_7 hc60_8 hc97_9 hc106_10 hc124_11; unfold own_lo; (repeat' split); all_goals first | rfl | omega) (by rw [Int32.lt_iff_toInt_lt] at hc22_5 hc34_6 hc41_7 hc60_8 hc97_9; rw [← Int32.toInt_inj] at hc106_10 hc124_11; simp only [Int32.reduceToInt] at hc22_5 hc34_6 hc41_7 hc60_8 hc97_9 hc106_10 hc124_11; unfold own_hi; (repeat' split); all_goals first | rfl | omega)
              · refine own_sipush X (v := (143 : Int32)) (pc' := 130) d1_127 rfl (by decide) ?_
                refine own_goto X (pc' := 136) d1_130 (by decide) (by decide) ?_
                refine own_istore X (pc' := 138) (Ls' := #[.val (.ref a), .val (.int (6 : Int32)), .val (.int (c6 &&& (255 : Int32))), .val (.int (4 : Int32)), .val (.int (128 : Int32)), .val (.int (143 : Int32)), .unset, .unset, .unset]) d1_136 rfl rfl ?_
                refine own_goto X (pc' := 143) d1_138 (by decide) (by decide) ?_
                exact J143 _ _ _ (by rw [Int32.lt_iff_toInt_lt] at hc22_5 hc34_6 hc41_7 hc60_8 hc97_9; rw [← Int32.toInt_inj] at hc106_10 hc124_11; simp only [Int32.reduceToInt] at hc22_5 hc34_6 hc41_7 hc60_8 hc97_9 hc106_10 hc124_11; unfold own_L; (repeat' split); all_goals first | rfl | omega) (by rw [Int32.lt_iff_toInt_lt] at hc22_5 hc34_6 hc41_7 hc60_8 hc97_9; rw [← Int32.toInt_inj] at hc106_10 hc124_11; simp only [Int32.reduceToInt] at hc22_5 hc34_6 hc41_7 hc60_8 hc97_9 hc106_10 hc124_11; unfold own_lo; (repeat' split); all_goals first | rfl | omega) (by rw [Int32.lt_iff_toInt_lt] at hc22_5 hc34_6 hc41_7 hc60_8 hc97_9; rw [← Int32.toInt_inj] at hc106_10 hc124_11; simp only [Int32.reduceToInt] at hc22_5 hc34_6 hc41_7 hc60_8 hc97_9 hc106_10 hc124_11; unfold own_hi; (repeat' split); all_goals first | rfl | omega)
            · refine own_sipush X (v := (144 : Int32)) (pc' := 112) d1_109 rfl (by decide) ?_
              refine own_goto X (pc' := 118) d1_112 (by decide) (by decide) ?_
              refine own_istore X (pc' := 120) (Ls' := #[.val (.ref a), .val (.int (6 : Int32)), .val (.int (c6 &&& (255 : Int32))), .val (.int (4 : Int32)), .val (.int (144 : Int32)), .val (.int (191 : Int32)), .unset, .unset, .unset]) d1_118 rfl rfl ?_
              refine own_iloadN X (pc' := 121) d1_120 rfl rfl ?_
              refine own_sipush X (v := (244 : Int32)) (pc' := 124) d1_121 rfl (by decide) ?_
              refine own_icmp_ne X (pct := 133) (pc' := 127) d1_124 rfl (by decide) (by decide) (fun _ => ?_) (fun hc => absurd hc (by simp only [Int32.lt_iff_toInt_lt, ← Int32.toInt_inj, Int32.reduceToInt] at hc22_5 hc34_6 hc41_7 hc60_8 hc97_9 hc106_10 ⊢; omega))
              refine own_sipush X (v := (191 : Int32)) (pc' := 136) d1_133 rfl (by decide) ?_
              refine own_istore X (pc' := 138) (Ls' := #[.val (.ref a), .val (.int (6 : Int32)), .val (.int (c6 &&& (255 : Int32))), .val (.int (4 : Int32)), .val (.int (144 : Int32)), .val (.int (191 : Int32)), .unset, .unset, .unset]) d1_136 rfl rfl ?_
              refine own_goto X (pc' := 143) d1_138 (by decide) (by decide) ?_
              exact J143 _ _ _ (by rw [Int32.lt_iff_toInt_lt] at hc22_5 hc34_6 hc41_7 hc60_8 hc97_9; rw [← Int32.toInt_inj] at hc106_10; simp only [Int32.reduceToInt] at hc22_5 hc34_6 hc41_7 hc60_8 hc97_9 hc106_10; unfold own_L; (repeat' split); all_goals first | rfl | omega) (by rw [Int32.lt_iff_toInt_lt] at hc22_5 hc34_6 hc41_7 hc60_8 hc97_9; rw [← Int32.toInt_inj] at hc106_10; simp only [Int32.reduceToInt] at hc22_5 hc34_6 hc41_7 hc60_8 hc97_9 hc106_10; unfold own_lo; (repeat' split); all_goals first | rfl | omega) (by rw [Int32.lt_iff_toInt_lt] at hc22_5 hc34_6 hc41_7 hc60_8 hc97_9; rw [← Int32.toInt_inj] at hc106_10; simp only [Int32.reduceToInt] at hc22_5 hc34_6 hc41_7 hc60_8 hc97_9 hc106_10; unfold own_hi; (repeat' split); all_goals first | rfl | omega)
        · refine own_iconst X (v := (3 : Int32)) (pc' := 64) d1_63 rfl (by decide) ?_
          refine own_istoreN X (pc' := 65) (Ls' := #[.val (.ref a), .val (.int (6 : Int32)), .val (.int (c6 &&& (255 : Int32))), .val (.int (3 : Int32)), .val (.int (128 : Int32)), .val (.int (191 : Int32)), .unset, .unset, .unset]) d1_64 rfl rfl ?_
          refine own_iloadN X (pc' := 66) d1_65 rfl rfl ?_
          refine own_sipush X (v := (224 : Int32)) (pc' := 69) d1_66 rfl (by decide) ?_
          refine own_icmp_ne X (pct := 78) (pc' := 72) d1_69 rfl (by decide) (by decide) (fun hc69_12 => ?_) (fun hc69_12 => ?_)
          · refine own_sipush X (v := (128 : Int32)) (pc' := 81) d1_78 rfl (by decide) ?_
            refine own_istore X (pc' := 83) (Ls' := #[.val (.ref a), .val (.int (6 : Int32)), .val (.int (c6 &&& (255 : Int32))), .val (.int (3 : Int32)), .val (.int (128 : Int32)), .val (.int (191 : Int32)), .unset, .unset, .unset]) d1_81 rfl rfl ?_
            refine own_goto X (pc' := 143) d1_83 (by decide) (by decide) ?_
            exact J143 _ _ _ (by rw [Int32.lt_iff_toInt_lt] at hc22_5 hc34_6 hc41_7 hc60_8; rw [← Int32.toInt_inj] at hc69_12; simp only [Int32.reduceToInt] at hc22_5 hc34_6 hc41_7 hc60_8 hc69_12; unfold own_L; (repeat' split); all_goals first | rfl | omega) (by rw [Int32.lt_iff_toInt_lt] at hc22_5 hc34_6 hc41_7 hc60_8; rw [← Int32.toInt_inj] at hc69_12; simp only [Int32.reduceToInt] at hc22_5 hc34_6 hc41_7 hc60_8 hc69_12; unfold own_lo; (repeat' split); all_goals first | rfl | omega) (by rw [Int32.lt_iff_toInt_lt] at hc22_5 hc34_6 hc41_7 hc60_8; rw [← Int32.toInt_inj] at hc69_12; simp only [Int32.reduceToInt] at hc22_5 hc34_6 hc41_7 hc60_8 hc69_12; unfold own_hi; (repeat' split); all_goals first | rfl | omega)
          · refine own_sipush X (v := (160 : Int32)) (pc' := 75) d1_72 rfl (by decide) ?_
            refine own_goto X (pc' := 81) d1_75 (by decide) (by decide) ?_
            refine own_istore X (pc' := 83) (Ls' := #[.val (.ref a), .val (.int (6 : Int32)), .val (.int (c6 &&& (255 : Int32))), .val (.int (3 : Int32)), .val (.int (160 : Int32)), .val (.int (191 : Int32)), .unset, .unset, .unset]) d1_81 rfl rfl ?_
            refine own_goto X (pc' := 143) d1_83 (by decide) (by decide) ?_
            exact J143 _ _ _ (by rw [Int32.lt_iff_toInt_lt] at hc22_5 hc34_6 hc41_7 hc60_8; rw [← Int32.toInt_inj] at hc69_12; simp only [Int32.reduceToInt] at hc22_5 hc34_6 hc41_7 hc60_8 hc69_12; unfold own_L; (repeat' split); all_goals first | rfl | omega) (by rw [Int32.lt_iff_toInt_lt] at hc22_5 hc34_6 hc41_7 hc60_8; rw [← Int32.toInt_inj] at hc69_12; simp only [Int32.reduceToInt] at hc22_5 hc34_6 hc41_7 hc60_8 hc69_12; unfold own_lo; (repeat' split); all_goals first | rfl | omega) (by rw [Int32.lt_iff_toInt_lt] at hc22_5 hc34_6 hc41_7 hc60_8; rw [← Int32.toInt_inj] at hc69_12; simp only [Int32.reduceToInt] at hc22_5 hc34_6 hc41_7 hc60_8 hc69_12; unfold own_hi; (repeat' split); all_goals first | rfl | omega)
      · refine own_iconst X (v := (2 : Int32)) (pc' := 45) d1_44 rfl (by decide) ?_
        refine own_istoreN X (pc' := 46) (Ls' := #[.val (.ref a), .val (.int (6 : Int32)), .val (.int (c6 &&& (255 : Int32))), .val (.int (2 : Int32)), .val (.int (128 : Int32)), .val (.int (191 : Int32)), .unset, .unset, .unset]) d1_45 rfl rfl ?_
        refine own_goto X (pc' := 143) d1_46 (by decide) (by decide) ?_
        exact J143 _ _ _ (by rw [Int32.lt_iff_toInt_lt] at hc22_5 hc34_6 hc41_7; simp only [Int32.reduceToInt] at hc22_5 hc34_6 hc41_7; unfold own_L; (repeat' split); all_goals first | rfl | omega) (by rw [Int32.lt_iff_toInt_lt] at hc22_5 hc34_6 hc41_7; simp only [Int32.reduceToInt] at hc22_5 hc34_6 hc41_7; unfold own_lo; (repeat' split); all_goals first | rfl | omega) (by rw [Int32.lt_iff_toInt_lt] at hc22_5 hc34_6 hc41_7; simp only [Int32.reduceToInt] at hc22_5 hc34_6 hc41_7; unfold own_hi; (repeat' split); all_goals first | rfl | omega)
  · refine own_iconst X (v := (1 : Int32)) (pc' := 26) d1_25 rfl (by decide) ?_
    refine own_istoreN X (pc' := 27) (Ls' := #[.val (.ref a), .val (.int (6 : Int32)), .val (.int (c6 &&& (255 : Int32))), .val (.int (1 : Int32)), .val (.int (128 : Int32)), .val (.int (191 : Int32)), .unset, .unset, .unset]) d1_26 rfl rfl ?_
    refine own_goto X (pc' := 143) d1_27 (by decide) (by decide) ?_
    exact J143 _ _ _ (by rw [Int32.lt_iff_toInt_lt] at hc22_5; simp only [Int32.reduceToInt] at hc22_5; unfold own_L; (repeat' split); all_goals first | rfl | omega) (by rw [Int32.lt_iff_toInt_lt] at hc22_5; simp only [Int32.reduceToInt] at hc22_5; unfold own_lo; (repeat' split); all_goals first | rfl | omega) (by rw [Int32.lt_iff_toInt_lt] at hc22_5; simp only [Int32.reduceToInt] at hc22_5; unfold own_hi; (repeat' split); all_goals first | rfl | omega)
theorem pn_rm2_6 : plainFor (⟨"com/example/quern/quern/text/TextBytesSequenceLengthPinLaw", "expected", "([BI)I"⟩ : MethodName) = true := plainFor_of_name (by first | (simp [plainName, overriddenIn]; done) | decide +kernel)
theorem ef_rm2_6 (m : MethodId) (x0 : Addr) (x1 : Int32) : entryFrame m #[(.ref x0), (.int x1)] 6 = mkF m 0 #[.val (.ref x0), .val (.int x1), .unset, .unset, .unset, .unset] [] := by first | (simp [entryFrame, mkF, argsToLocals, Value.category]; done) | rfl
set_option maxRecDepth 65536 in
set_option maxHeartbeats 4000000 in
theorem rm2_6 (l : Launch) (Z : State) (a0 : Array Value) (hw : ∀ d ∈ tables_1, d.before a0 Z = true) (n0 : Nat) (a : Addr) (h0 : Heap) (hn0 : n0 ≤ h0.size) (c0 c1 c2 c3 c4 c5 c6 c7 : Int32) (A : own_A Z h0 a .byte [c0, c1, c2, c3, c4, c5, c6, c7]) :
    own_Met l (⟨"com/example/quern/quern/text/TextBytesSequenceLengthPinLaw", "expected", "([BI)I"⟩ : MethodName) method_7_code 6 (some .int) ({ frames := 1, cells := 0, slots := 0, locals := 20 } : Room) Z n0 #[(.ref a), (.int (6 : Int32))] h0 (some (.int (own_ex (own_L (c6 &&& (255 : Int32))) (c6 &&& (255 : Int32)) [(c7 &&& (255 : Int32))]))) (fun h' => h' = h0) := by
  refine own_met pn_rm2_6 hn0 ?_
  intro p e s m below meth c T X
  refine own_cast (ef_rm2_6 m a (6 : Int32)) ?_
  generalize hΦ : own_Q n0 below s _ _ _ = Φ
  refine own_aloadN X (pc' := 1) d2_0 rfl rfl rfl ?_
  refine own_iloadN X (pc' := 2) d2_1 rfl rfl ?_
  refine own_callS X (W := 0) (argsL := [(.ref a), (.int (6 : Int32))]) (rest := []) (S' := [(.int (c6 &&& (255 : Int32)))]) (pc' := 5) (rm3 l Z a0 hw n0 a (6 : Int32) h0 X.size _ A c6 rfl rfl) (hw _ (List.mem_of_getElem? (i := 9) rfl)) (hw _ (List.mem_of_getElem? (i := 10) rfl)) (hw _ (List.mem_of_getElem? (i := 7) rfl)) (hw _ (List.mem_of_getElem? (i := 11) rfl)) (by decide) (by decide) (by decide) rfl rfl (by decide) (by decide) (lenOf pd_0 rfl) rfl (by first | decide | exact Nat.le_of_eq rfl) rfl d2_2 rfl rfl ?_
  intro T1 h1 X1 qq1
  rw [show h1 = h0 from qq1] at X1
  refine own_istoreN X1 (pc' := 6) (Ls' := #[.val (.ref a), .val (.int (6 : Int32)), .val (.int (c6 &&& (255 : Int32))), .unset, .unset, .unset]) d2_5 rfl rfl ?_
  refine own_iloadN X1 (pc' := 7) d2_6 rfl rfl ?_
  refine own_callS X1 (W := 0) (argsL := [(.int (c6 &&& (255 : Int32)))]) (rest := []) (S' := [(.int (own_L (c6 &&& (255 : Int32))))]) (pc' := 10) (rm4 l Z a0 hw n0 (c6 &&& (255 : Int32)) h0 X1.size) (hw _ (List.mem_of_getElem? (i := 12) rfl)) (hw _ (List.mem_of_getElem? (i := 13) rfl)) (hw _ (List.mem_of_getElem? (i := 7) rfl)) (hw _ (List.mem_of_getElem? (i := 14) rfl)) (by decide) (by decide) (by decide) rfl rfl (by decide) (by decide) (lenOf pd_1 rfl) rfl (by first | decide | exact Nat.le_of_eq rfl) rfl d2_7 rfl rfl ?_
  intro T2 h2 X2 qq2
  rw [show h2 = h0 from qq2] at X2
  refine own_istoreN X2 (pc' := 11) (Ls' := #[.val (.ref a), .val (.int (6 : Int32)), .val (.int (c6 &&& (255 : Int32))), .val (.int (own_L (c6 &&& (255 : Int32)))), .unset, .unset]) d2_10 rfl rfl ?_
  refine own_aloadN X2 (pc' := 12) d2_11 rfl rfl rfl ?_
  refine own_len X2 (v := (8 : Int32)) (pc' := 13) A (by first | rfl | decide) d2_12 rfl ?_
  refine own_iloadN X2 (pc' := 14) d2_13 rfl rfl ?_
  refine own_isub X2 (r := (2 : Int32)) (pc' := 15) d2_14 rfl (by decide) ?_
  refine own_istore X2 (pc' := 17) (Ls' := #[.val (.ref a), .val (.int (6 : Int32)), .val (.int (c6 &&& (255 : Int32))), .val (.int (own_L (c6 &&& (255 : Int32)))), .val (.int (2 : Int32)), .unset]) d2_15 rfl rfl ?_
  refine own_iconst X2 (v := (1 : Int32)) (pc' := 18) d2_17 rfl (by decide) ?_
  refine own_istore X2 (pc' := 20) (Ls' := #[.val (.ref a), .val (.int (6 : Int32)), .val (.int (c6 &&& (255 : Int32))), .val (.int (own_L (c6 &&& (255 : Int32)))), .val (.int (2 : Int32)), .val (.int (1 : Int32))]) d2_18 rfl rfl ?_
  refine own_iloadN X2 (pc' := 21) d2_20 rfl rfl ?_
  refine own_iconst X2 (v := (2 : Int32)) (pc' := 22) d2_21 rfl (by decide) ?_
  refine own_icmp_lt X2 (pct := 102) (pc' := 25) d2_22 rfl (by decide) (by decide) (fun hc22_3 => ?_) (fun hc22_3 => ?_)
  · refine own_iload X2 (pc' := 104) d2_102 rfl rfl ?_
    subst hΦ
    exact own_retI X2 d2_104 (by decide) (by decide) (by rw [own_exc, if_pos hc22_3]) rfl
  · refine own_iload X2 (pc' := 27) d2_25 rfl rfl ?_
    refine own_iconst X2 (v := (2 : Int32)) (pc' := 28) d2_27 rfl (by decide) ?_
    refine own_icmp_lt X2 (pct := 102) (pc' := 31) d2_28 rfl (by decide) (by decide) (fun hc => absurd hc (by decide)) (fun _ => ?_)
    refine own_iloadN X2 (pc' := 32) d2_31 rfl rfl ?_
    refine own_aloadN X2 (pc' := 33) d2_32 rfl rfl rfl ?_
    refine own_iloadN X2 (pc' := 34) d2_33 rfl rfl ?_
    refine own_iconst X2 (v := (1 : Int32)) (pc' := 35) d2_34 rfl (by decide) ?_
    refine own_iadd X2 (r := (7 : Int32)) (pc' := 36) d2_35 rfl (by decide) ?_
    refine own_callS X2 (W := 1) (argsL := [(.ref a), (.int (7 : Int32))]) (rest := [(.int (c6 &&& (255 : Int32)))]) (S' := [(.int (c7 &&& (255 : Int32))), (.int (c6 &&& (255 : Int32)))]) (pc' := 39) (rm3 l Z a0 hw n0 a (7 : Int32) h0 X2.size _ A c7 rfl rfl) (hw _ (List.mem_of_getElem? (i := 9) rfl)) (hw _ (List.mem_of_getElem? (i := 10) rfl)) (hw _ (List.mem_of_getElem? (i := 7) rfl)) (hw _ (List.mem_of_getElem? (i := 11) rfl)) (by decide) (by decide) (by decide) rfl rfl (by decide) (by decide) (lenOf pd_0 rfl) rfl (by first | decide | exact Nat.le_of_eq rfl) rfl d2_36 rfl rfl ?_
    intro T4 h4 X4 qq4
    rw [show h4 = h0 from qq4] at X4
    refine own_callS X4 (W := 0) (argsL := [(.int (c6 &&& (255 : Int32))), (.int (c7 &&& (255 : Int32)))]) (rest := []) (S' := [(.int (own_sf (c6 &&& (255 : Int32)) (c7 &&& (255 : Int32))))]) (pc' := 42) (rm5 l Z a0 hw n0 (c6 &&& (255 : Int32)) (c7 &&& (255 : Int32)) h0 X4.size) (hw _ (List.mem_of_getElem? (i := 15) rfl)) (hw _ (List.mem_of_getElem? (i := 16) rfl)) (hw _ (List.mem_of_getElem? (i := 7) rfl)) (hw _ (List.mem_of_getElem? (i := 17) rfl)) (by decide) (by decide) (by decide) rfl rfl (by decide) (by decide) (lenOf pd_2 rfl) rfl (by first | decide | exact Nat.le_of_eq rfl) rfl d2_39 rfl rfl ?_
    intro T5 h5 X5 qq5
    rw [show h5 = h0 from qq5] at X5
    refine own_if_eq X5 (pct := 102) (pc' := 45) d2_42 rfl (by decide) (by decide) (fun hc42_6 => ?_) (fun hc42_6 => ?_)
    · refine own_iload X5 (pc' := 104) d2_102 rfl rfl ?_
      subst hΦ
      exact own_retI X5 d2_104 (by decide) (by decide) (by rw [own_exc, if_neg hc22_3, if_pos hc42_6]) rfl
    · refine own_iconst X5 (v := (2 : Int32)) (pc' := 46) d2_45 rfl (by decide) ?_
      refine own_istore X5 (pc' := 48) (Ls' := #[.val (.ref a), .val (.int (6 : Int32)), .val (.int (c6 &&& (255 : Int32))), .val (.int (own_L (c6 &&& (255 : Int32)))), .val (.int (2 : Int32)), .val (.int (2 : Int32))]) d2_46 rfl rfl ?_
      refine own_iloadN X5 (pc' := 49) d2_48 rfl rfl ?_
      refine own_iconst X5 (v := (3 : Int32)) (pc' := 50) d2_49 rfl (by decide) ?_
      refine own_icmp_lt X5 (pct := 102) (pc' := 53) d2_50 rfl (by decide) (by decide) (fun hc50_7 => ?_) (fun hc50_7 => ?_)
      · refine own_iload X5 (pc' := 104) d2_102 rfl rfl ?_
        subst hΦ
        exact own_retI X5 d2_104 (by decide) (by decide) (by rw [own_exc, if_neg hc22_3, if_neg hc42_6, own_e2n, if_pos hc50_7]) rfl
      · refine own_iload X5 (pc' := 55) d2_53 rfl rfl ?_
        refine own_iconst X5 (v := (3 : Int32)) (pc' := 56) d2_55 rfl (by decide) ?_
        refine own_icmp_lt X5 (pct := 102) (pc' := 59) d2_56 rfl (by decide) (by decide) (fun _ => ?_) (fun hc => absurd hc (by decide))
        refine own_iload X5 (pc' := 104) d2_102 rfl rfl ?_
        subst hΦ
        exact own_retI X5 d2_104 (by decide) (by decide) (by rw [own_exc, if_neg hc22_3, if_neg hc42_6, own_e2n, if_neg hc50_7]) rfl
theorem pn_rm1_7 : plainFor (⟨"com/example/quern/quern/text/TextBytes", "sequenceLength", "([BI)I"⟩ : MethodName) = true := plainFor_of_name (by first | (simp [plainName, overriddenIn]; done) | decide +kernel)
theorem ef_rm1_7 (m : MethodId) (x0 : Addr) (x1 : Int32) : entryFrame m #[(.ref x0), (.int x1)] 9 = mkF m 0 #[.val (.ref x0), .val (.int x1), .unset, .unset, .unset, .unset, .unset, .unset, .unset] [] := by first | (simp [entryFrame, mkF, argsToLocals, Value.category]; done) | rfl
set_option maxRecDepth 65536 in
set_option maxHeartbeats 4000000 in
theorem rm1_7 (l : Launch) (Z : State) (a0 : Array Value) (hw : ∀ d ∈ tables_1, d.before a0 Z = true) (n0 : Nat) (a : Addr) (h0 : Heap) (hn0 : n0 ≤ h0.size) (c0 c1 c2 c3 c4 c5 c6 c7 : Int32) (A : own_A Z h0 a .byte [c0, c1, c2, c3, c4, c5, c6, c7]) :
    own_Met l (⟨"com/example/quern/quern/text/TextBytes", "sequenceLength", "([BI)I"⟩ : MethodName) prog_310_method_5_code 9 (some .int) ({ frames := 0, cells := 0, slots := 0, locals := 0 } : Room) Z n0 #[(.ref a), (.int (7 : Int32))] h0 (some (.int (own_sq (own_L (c7 &&& (255 : Int32))) (own_lo (c7 &&& (255 : Int32))) (own_hi (c7 &&& (255 : Int32))) []))) (fun h' => h' = h0) := by
  refine own_met pn_rm1_7 hn0 ?_
  intro p e s m below meth c T X
  refine own_cast (ef_rm1_7 m a (7 : Int32)) ?_
  generalize hΦ : own_Q n0 below s _ _ _ = Φ
  refine own_aloadN X (pc' := 1) d1_0 rfl rfl rfl ?_
  refine own_iloadN X (pc' := 2) d1_1 rfl rfl ?_
  refine own_baload X (v := c7) (pc' := 3) A rfl rfl d1_2 rfl ?_
  refine own_sipush X (v := (255 : Int32)) (pc' := 6) d1_3 rfl (by decide) ?_
  refine own_iand X (r := (c7 &&& (255 : Int32))) (pc' := 7) d1_6 rfl rfl ?_
  refine own_istoreN X (pc' := 8) (Ls' := #[.val (.ref a), .val (.int (7 : Int32)), .val (.int (c7 &&& (255 : Int32))), .unset, .unset, .unset, .unset, .unset, .unset]) d1_7 rfl rfl ?_
  refine own_sipush X (v := (128 : Int32)) (pc' := 11) d1_8 rfl (by decide) ?_
  refine own_istore X (pc' := 13) (Ls' := #[.val (.ref a), .val (.int (7 : Int32)), .val (.int (c7 &&& (255 : Int32))), .unset, .val (.int (128 : Int32)), .unset, .unset, .unset, .unset]) d1_11 rfl rfl ?_
  refine own_sipush X (v := (191 : Int32)) (pc' := 16) d1_13 rfl (by decide) ?_
  refine own_istore X (pc' := 18) (Ls' := #[.val (.ref a), .val (.int (7 : Int32)), .val (.int (c7 &&& (255 : Int32))), .unset, .val (.int (128 : Int32)), .val (.int (191 : Int32)), .unset, .unset, .unset]) d1_16 rfl rfl ?_
  have J143 : ∀ (len sec top : Int32) (_ : len = own_L (c7 &&& (255 : Int32))) (_ : sec = own_lo (c7 &&& (255 : Int32))) (_ : top = own_hi (c7 &&& (255 : Int32))), own_G p e below Φ T (mkF m 143 #[.val (.ref a), .val (.int (7 : Int32)), .val (.int (c7 &&& (255 : Int32))), .val (.int len), .val (.int sec), .val (.int top), .unset, .unset, .unset] []) := by
    intro len sec top j1 j2 j3
    refine own_iconst X (v := (1 : Int32)) (pc' := 144) d1_143 rfl (by decide) ?_
    refine own_istore X (pc' := 146) (Ls' := #[.val (.ref a), .val (.int (7 : Int32)), .val (.int (c7 &&& (255 : Int32))), .val (.int len), .val (.int sec), .val (.int top), .val (.int (1 : Int32)), .unset, .unset]) d1_144 rfl rfl ?_
    refine own_iload X (pc' := 148) d1_146 rfl rfl ?_
    refine own_iloadN X (pc' := 149) d1_148 rfl rfl ?_
    refine own_icmp_ge X (pct := 238) (pc' := 152) d1_149 rfl (by decide) (by decide) (fun hc149_1 => ?_) (fun hc149_1 => ?_)
    · refine own_iload X (pc' := 240) d1_238 rfl rfl ?_
      subst hΦ
      exact own_retI X d1_240 (by decide) (by decide) (by rw [← j1, ← j2, ← j3, own_sqn]) rfl
    · refine own_iloadN X (pc' := 153) d1_152 rfl rfl ?_
      refine own_iload X (pc' := 155) d1_153 rfl rfl ?_
      refine own_iadd X (r := (8 : Int32)) (pc' := 156) d1_155 rfl (by decide) ?_
      refine own_aloadN X (pc' := 157) d1_156 rfl rfl rfl ?_
      refine own_len X (v := (8 : Int32)) (pc' := 158) A (by first | rfl | decide) d1_157 rfl ?_
      refine own_icmp_ge X (pct := 238) (pc' := 161) d1_158 rfl (by decide) (by decide) (fun _ => ?_) (fun hc => absurd hc (by decide))
      refine own_iload X (pc' := 240) d1_238 rfl rfl ?_
      subst hΦ
      exact own_retI X d1_240 (by decide) (by decide) (by rw [← j1, ← j2, ← j3, own_sqn]) rfl
  refine own_iloadN X (pc' := 19) d1_18 rfl rfl ?_
  refine own_sipush X (v := (128 : Int32)) (pc' := 22) d1_19 rfl (by decide) ?_
  refine own_icmp_ge X (pct := 30) (pc' := 25) d1_22 rfl (by decide) (by decide) (fun hc22_2 => ?_) (fun hc22_2 => ?_)
  · refine own_iloadN X (pc' := 31) d1_30 rfl rfl ?_
    refine own_sipush X (v := (194 : Int32)) (pc' := 34) d1_31 rfl (by decide) ?_
    refine own_icmp_lt X (pct := 49) (pc' := 37) d1_34 rfl (by decide) (by decide) (fun hc34_3 => ?_) (fun hc34_3 => ?_)
    · refine own_iloadN X (pc' := 50) d1_49 rfl rfl ?_
      refine own_sipush X (v := (224 : Int32)) (pc' := 53) d1_50 rfl (by decide) ?_
      refine own_icmp_lt X (pct := 86) (pc' := 56) d1_53 rfl (by decide) (by decide) (fun _ => ?_) (fun hc => absurd hc (by simp only [Int32.lt_iff_toInt_lt, ← Int32.toInt_inj, Int32.reduceToInt] at hc22_2 hc34_3 ⊢; omega))
      refine own_iloadN X (pc' := 87) d1_86 rfl rfl ?_
      refine own_sipush X (v := (240 : Int32)) (pc' := 90) d1_87 rfl (by decide) ?_
      refine own_icmp_lt X (pct := 141) (pc' := 93) d1_90 rfl (by decide) (by decide) (fun _ => ?_) (fun hc => absurd hc (by simp only [Int32.lt_iff_toInt_lt, ← Int32.toInt_inj, Int32.reduceToInt] at hc22_2 hc34_3 ⊢; omega))
      refine own_iconst X (v := (1 : Int32)) (pc' := 142) d1_141 rfl (by decide) ?_
      refine own_istoreN X (pc' := 143) (Ls' := #[.val (.ref a), .val (.int (7 : Int32)), .val (.int (c7 &&& (255 : Int32))), .val (.int (1 : Int32)), .val (.int (128 : Int32)), .val (.int (191 : Int32)), .unset, .unset, .unset]) d1_142 rfl rfl ?_
      exact J143 _ _ _ (by rw [Int32.lt_iff_toInt_lt] at hc22_2 hc34_3; simp only [Int32.reduceToInt] at hc22_2 hc34_3; unfold own_L; (repeat' split); all_goals first | rfl | omega) (by rw [Int32.lt_iff_toInt_lt] at hc22_2 hc34_3; simp only [Int32.reduceToInt] at hc22_2 hc34_3; unfold own_lo; (repeat' split); all_goals first | rfl | omega) (by rw [Int32.lt_iff_toInt_lt] at hc22_2 hc34_3; simp only [Int32.reduceToInt] at hc22_2 hc34_3; unfold own_hi; (repeat' split); all_goals first | rfl | omega)
    · refine own_iloadN X (pc' := 38) d1_37 rfl rfl ?_
      refine own_sipush X (v := (223 : Int32)) (pc' := 41) d1_38 rfl (by decide) ?_
      refine own_icmp_gt X (pct := 49) (pc' := 44) d1_41 rfl (by decide) (by decide) (fun hc41_4 => ?_) (fun hc41_4 => ?_)
      · refine own_iloadN X (pc' := 50) d1_49 rfl rfl ?_
        refine own_sipush X (v := (224 : Int32)) (pc' := 53) d1_50 rfl (by decide) ?_
        refine own_icmp_lt X (pct := 86) (pc' := 56) d1_53 rfl (by decide) (by decide) (fun hc => absurd hc (by simp only [Int32.lt_iff_toInt_lt, ← Int32.toInt_inj, Int32.reduceToInt] at hc22_2 hc34_3 hc41_4 ⊢; omega)) (fun _ => ?_)
        refine own_iloadN X (pc' := 57) d1_56 rfl rfl ?_
        refine own_sipush X (v := (239 : Int32)) (pc' := 60) d1_57 rfl (by decide) ?_
        refine own_icmp_gt X (pct := 86) (pc' := 63) d1_60 rfl (by decide) (by decide) (fun hc60_5 => ?_) (fun hc60_5 => ?_)
        · refine own_iloadN X (pc' := 87) d1_86 rfl rfl ?_
          refine own_sipush X (v := (240 : Int32)) (pc' := 90) d1_87 rfl (by decide) ?_
          refine own_icmp_lt X (pct := 141) (pc' := 93) d1_90 rfl (by decide) (by decide) (fun hc => absurd hc (by simp only [Int32.lt_iff_toInt_lt, ← Int32.toInt_inj, Int32.reduceToInt] at hc22_2 hc34_3 hc41_4 hc60_5 ⊢; omega)) (fun _ => ?_)
          refine own_iloadN X (pc' := 94) d1_93 rfl rfl ?_
          refine own_sipush X (v := (244 : Int32)) (pc' := 97) d1_94 rfl (by decide) ?_
          refine own_icmp_gt X (pct := 141) (pc' := 100) d1_97 rfl (by decide) (by decide) (fun hc97_6 => ?_) (fun hc97_6 => ?_)
          · refine own_iconst X (v := (1 : Int32)) (pc' := 142) d1_141 rfl (by decide) ?_
            refine own_istoreN X (pc' := 143) (Ls' := #[.val (.ref a), .val (.int (7 : Int32)), .val (.int (c7 &&& (255 : Int32))), .val (.int (1 : Int32)), .val (.int (128 : Int32)), .val (.int (191 : Int32)), .unset, .unset, .unset]) d1_142 rfl rfl ?_
            exact J143 _ _ _ (by rw [Int32.lt_iff_toInt_lt] at hc22_2 hc34_3 hc41_4 hc60_5 hc97_6; simp only [Int32.reduceToInt] at hc22_2 hc34_3 hc41_4 hc60_5 hc97_6; unfold own_L; (repeat' split); all_goals first | rfl | omega) (by rw [Int32.lt_iff_toInt_lt] at hc22_2 hc34_3 hc41_4 hc60_5 hc97_6; simp only [Int32.reduceToInt] at hc22_2 hc34_3 hc41_4 hc60_5 hc97_6; unfold own_lo; (repeat' split); all_goals first | rfl | omega) (by rw [Int32.lt_iff_toInt_lt] at hc22_2 hc34_3 hc41_4 hc60_5 hc97_6; simp only [Int32.reduceToInt] at hc22_2 hc34_3 hc41_4 hc60_5 hc97_6; unfold own_hi; (repeat' split); all_goals first | rfl | omega)
          · refine own_iconst X (v := (4 : Int32)) (pc' := 101) d1_100 rfl (by decide) ?_
            refine own_istoreN X (pc' := 102) (Ls' := #[.val (.ref a), .val (.int (7 : Int32)), .val (.int (c7 &&& (255 : Int32))), .val (.int (4 : Int32)), .val (.int (128 : Int32)), .val (.int (191 : Int32)), .unset, .unset, .unset]) d1_101 rfl rfl ?_
            refine own_iloadN X (pc' := 103) d1_102 rfl rfl ?_
            refine own_sipush X (v := (240 : Int32)) (pc' := 106) d1_103 rfl (by decide) ?_
            refine own_icmp_ne X (pct := 115) (pc' := 109) d1_106 rfl (by decide) (by decide) (fun hc106_7 => ?_) (fun hc106_7 => ?_)
            · refine own_sipush X (v := (128 : Int32)) (pc' := 118) d1_115 rfl (by decide) ?_
              refine own_istore X (pc' := 120) (Ls' := #[.val (.ref a), .val (.int (7 : Int32)), .val (.int (c7 &&& (255 : Int32))), .val (.int (4 : Int32)), .val (.int (128 : Int32)), .val (.int (191 : Int32)), .unset, .unset, .unset]) d1_118 rfl rfl ?_
              refine own_iloadN X (pc' := 121) d1_120 rfl rfl ?_
              refine own_sipush X (v := (244 : Int32)) (pc' := 124) d1_121 rfl (by decide) ?_
              refine own_icmp_ne X (pct := 133) (pc' := 127) d1_124 rfl (by decide) (by decide) (fun hc124_8 => ?_) (fun hc124_8 => ?_)
              · refine own_sipush X (v := (191 : Int32)) (pc' := 136) d1_133 rfl (by decide) ?_
                refine own_istore X (pc' := 138) (Ls' := #[.val (.ref a), .val (.int (7 : Int32)), .val (.int (c7 &&& (255 : Int32))), .val (.int (4 : Int32)), .val (.int (128 : Int32)), .val (.int (191 : Int32)), .unset, .unset, .unset]) d1_136 rfl rfl ?_
                refine own_goto X (pc' := 143) d1_138 (by decide) (by decide) ?_
                exact J143 _ _ _ (by rw [Int32.lt_iff_toInt_lt] at hc22_2 hc34_3 hc41_4 hc60_5 hc97_6; rw [← Int32.toInt_inj] at hc106_7 hc124_8; simp only [Int32.reduceToInt] at hc22_2 hc34_3 hc41_4 hc60_5 hc97_6 hc106_7 hc124_8; unfold own_L; (repeat' split); all_goals first | rfl | omega) (by rw [Int32.lt_iff_toInt_lt] at hc22_2 hc34_3 hc41_4 hc60_5 hc97_6; rw [← Int32.toInt_inj] at hc106_7 hc124_8; simp only [Int32.reduceToInt] at hc22_2 hc34_3 hc41_4 hc60_5 hc97_6 hc106_7 hc124_8; unfold own_lo; (repeat' split); all_goals first | rfl | omega) (by rw [Int32.lt_iff_toInt_lt] at hc22_2 hc34_3 hc41_4 hc60_5 hc97_6; rw [← Int32.toInt_inj] at hc106_7 hc124_8; simp only [Int32.reduceToInt] at hc22_2 hc34_3 hc41_4 hc60_5 hc97_6 hc106_7 hc124_8; unfold own_hi; (repeat' split); all_goals first | rfl | omega)
              · refine own_sipush X (v := (143 : Int32)) (pc' := 130) d1_127 rfl (by decide) ?_
                refine own_goto X (pc' := 136) d1_130 (by decide) (by decide) ?_
                refine own_istore X (pc' := 138) (Ls' := #[.val (.ref a), .val (.int (7 : Int32)), .val (.int (c7 &&& (255 : Int32))), .val (.int (4 : Int32)), .val (.int (128 : Int32)), .val (.int (143 : Int32)), .unset, .unset, .unset]) d1_136 rfl rfl ?_
                refine own_goto X (pc' := 143) d1_138 (by decide) (by decide) ?_
                exact J143 _ _ _ (by rw [Int32.lt_iff_toInt_lt] at hc22_2 hc34_3 hc41_4 hc60_5 hc97_6; rw [← Int32.toInt_inj] at hc106_7 hc124_8; simp only [Int32.reduceToInt] at hc22_2 hc34_3 hc41_4 hc60_5 hc97_6 hc106_7 hc124_8; unfold own_L; (repeat' split); all_goals first | rfl | omega) (by rw [Int32.lt_iff_toInt_lt] at hc22_2 hc34_3 hc41_4 hc60_5 hc97_6; rw [← Int32.toInt_inj] at hc106_7 hc124_8; simp only [Int32.reduceToInt] at hc22_2 hc34_3 hc41_4 hc60_5 hc97_6 hc106_7 hc124_8; unfold own_lo; (repeat' split); all_goals first | rfl | omega) (by rw [Int32.lt_iff_toInt_lt] at hc22_2 hc34_3 hc41_4 hc60_5 hc97_6; rw [← Int32.toInt_inj] at hc106_7 hc124_8; simp only [Int32.reduceToInt] at hc22_2 hc34_3 hc41_4 hc60_5 hc97_6 hc106_7 hc124_8; unfold own_hi; (repeat' split); all_goals first | rfl | omega)
            · refine own_sipush X (v := (144 : Int32)) (pc' := 112) d1_109 rfl (by decide) ?_
              refine own_goto X (pc' := 118) d1_112 (by decide) (by decide) ?_
              refine own_istore X (pc' := 120) (Ls' := #[.val (.ref a), .val (.int (7 : Int32)), .val (.int (c7 &&& (255 : Int32))), .val (.int (4 : Int32)), .val (.int (144 : Int32)), .val (.int (191 : Int32)), .unset, .unset, .unset]) d1_118 rfl rfl ?_
              refine own_iloadN X (pc' := 121) d1_120 rfl rfl ?_
              refine own_sipush X (v := (244 : Int32)) (pc' := 124) d1_121 rfl (by decide) ?_
              refine own_icmp_ne X (pct := 133) (pc' := 127) d1_124 rfl (by decide) (by decide) (fun _ => ?_) (fun hc => absurd hc (by simp only [Int32.lt_iff_toInt_lt, ← Int32.toInt_inj, Int32.reduceToInt] at hc22_2 hc34_3 hc41_4 hc60_5 hc97_6 hc106_7 ⊢; omega))
              refine own_sipush X (v := (191 : Int32)) (pc' := 136) d1_133 rfl (by decide) ?_
              refine own_istore X (pc' := 138) (Ls' := #[.val (.ref a), .val (.int (7 : Int32)), .val (.int (c7 &&& (255 : Int32))), .val (.int (4 : Int32)), .val (.int (144 : Int32)), .val (.int (191 : Int32)), .unset, .unset, .unset]) d1_136 rfl rfl ?_
              refine own_goto X (pc' := 143) d1_138 (by decide) (by decide) ?_
              exact J143 _ _ _ (by rw [Int32.lt_iff_toInt_lt] at hc22_2 hc34_3 hc41_4 hc60_5 hc97_6; rw [← Int32.toInt_inj] at hc106_7; simp only [Int32.reduceToInt] at hc22_2 hc34_3 hc41_4 hc60_5 hc97_6 hc106_7; unfold own_L; (repeat' split); all_goals first | rfl | omega) (by rw [Int32.lt_iff_toInt_lt] at hc22_2 hc34_3 hc41_4 hc60_5 hc97_6; rw [← Int32.toInt_inj] at hc106_7; simp only [Int32.reduceToInt] at hc22_2 hc34_3 hc41_4 hc60_5 hc97_6 hc106_7; unfold own_lo; (repeat' split); all_goals first | rfl | omega) (by rw [Int32.lt_iff_toInt_lt] at hc22_2 hc34_3 hc41_4 hc60_5 hc97_6; rw [← Int32.toInt_inj] at hc106_7; simp only [Int32.reduceToInt] at hc22_2 hc34_3 hc41_4 hc60_5 hc97_6 hc106_7; unfold own_hi; (repeat' split); all_goals first | rfl | omega)
        · refine own_iconst X (v := (3 : Int32)) (pc' := 64) d1_63 rfl (by decide) ?_
          refine own_istoreN X (pc' := 65) (Ls' := #[.val (.ref a), .val (.int (7 : Int32)), .val (.int (c7 &&& (255 : Int32))), .val (.int (3 : Int32)), .val (.int (128 : Int32)), .val (.int (191 : Int32)), .unset, .unset, .unset]) d1_64 rfl rfl ?_
          refine own_iloadN X (pc' := 66) d1_65 rfl rfl ?_
          refine own_sipush X (v := (224 : Int32)) (pc' := 69) d1_66 rfl (by decide) ?_
          refine own_icmp_ne X (pct := 78) (pc' := 72) d1_69 rfl (by decide) (by decide) (fun hc69_9 => ?_) (fun hc69_9 => ?_)
          · refine own_sipush X (v := (128 : Int32)) (pc' := 81) d1_78 rfl (by decide) ?_
            refine own_istore X (pc' := 83) (Ls' := #[.val (.ref a), .val (.int (7 : Int32)), .val (.int (c7 &&& (255 : Int32))), .val (.int (3 : Int32)), .val (.int (128 : Int32)), .val (.int (191 : Int32)), .unset, .unset, .unset]) d1_81 rfl rfl ?_
            refine own_goto X (pc' := 143) d1_83 (by decide) (by decide) ?_
            exact J143 _ _ _ (by rw [Int32.lt_iff_toInt_lt] at hc22_2 hc34_3 hc41_4 hc60_5; rw [← Int32.toInt_inj] at hc69_9; simp only [Int32.reduceToInt] at hc22_2 hc34_3 hc41_4 hc60_5 hc69_9; unfold own_L; (repeat' split); all_goals first | rfl | omega) (by rw [Int32.lt_iff_toInt_lt] at hc22_2 hc34_3 hc41_4 hc60_5; rw [← Int32.toInt_inj] at hc69_9; simp only [Int32.reduceToInt] at hc22_2 hc34_3 hc41_4 hc60_5 hc69_9; unfold own_lo; (repeat' split); all_goals first | rfl | omega) (by rw [Int32.lt_iff_toInt_lt] at hc22_2 hc34_3 hc41_4 hc60_5; rw [← Int32.toInt_inj] at hc69_9; simp only [Int32.reduceToInt] at hc22_2 hc34_3 hc41_4 hc60_5 hc69_9; unfold own_hi; (repeat' split); all_goals first | rfl | omega)
          · refine own_sipush X (v := (160 : Int32)) (pc' := 75) d1_72 rfl (by decide) ?_
            refine own_goto X (pc' := 81) d1_75 (by decide) (by decide) ?_
            refine own_istore X (pc' := 83) (Ls' := #[.val (.ref a), .val (.int (7 : Int32)), .val (.int (c7 &&& (255 : Int32))), .val (.int (3 : Int32)), .val (.int (160 : Int32)), .val (.int (191 : Int32)), .unset, .unset, .unset]) d1_81 rfl rfl ?_
            refine own_goto X (pc' := 143) d1_83 (by decide) (by decide) ?_
            exact J143 _ _ _ (by rw [Int32.lt_iff_toInt_lt] at hc22_2 hc34_3 hc41_4 hc60_5; rw [← Int32.toInt_inj] at hc69_9; simp only [Int32.reduceToInt] at hc22_2 hc34_3 hc41_4 hc60_5 hc69_9; unfold own_L; (repeat' split); all_goals first | rfl | omega) (by rw [Int32.lt_iff_toInt_lt] at hc22_2 hc34_3 hc41_4 hc60_5; rw [← Int32.toInt_inj] at hc69_9; simp only [Int32.reduceToInt] at hc22_2 hc34_3 hc41_4 hc60_5 hc69_9; unfold own_lo; (repeat' split); all_goals first | rfl | omega) (by rw [Int32.lt_iff_toInt_lt] at hc22_2 hc34_3 hc41_4 hc60_5; rw [← Int32.toInt_inj] at hc69_9; simp only [Int32.reduceToInt] at hc22_2 hc34_3 hc41_4 hc60_5 hc69_9; unfold own_hi; (repeat' split); all_goals first | rfl | omega)
      · refine own_iconst X (v := (2 : Int32)) (pc' := 45) d1_44 rfl (by decide) ?_
        refine own_istoreN X (pc' := 46) (Ls' := #[.val (.ref a), .val (.int (7 : Int32)), .val (.int (c7 &&& (255 : Int32))), .val (.int (2 : Int32)), .val (.int (128 : Int32)), .val (.int (191 : Int32)), .unset, .unset, .unset]) d1_45 rfl rfl ?_
        refine own_goto X (pc' := 143) d1_46 (by decide) (by decide) ?_
        exact J143 _ _ _ (by rw [Int32.lt_iff_toInt_lt] at hc22_2 hc34_3 hc41_4; simp only [Int32.reduceToInt] at hc22_2 hc34_3 hc41_4; unfold own_L; (repeat' split); all_goals first | rfl | omega) (by rw [Int32.lt_iff_toInt_lt] at hc22_2 hc34_3 hc41_4; simp only [Int32.reduceToInt] at hc22_2 hc34_3 hc41_4; unfold own_lo; (repeat' split); all_goals first | rfl | omega) (by rw [Int32.lt_iff_toInt_lt] at hc22_2 hc34_3 hc41_4; simp only [Int32.reduceToInt] at hc22_2 hc34_3 hc41_4; unfold own_hi; (repeat' split); all_goals first | rfl | omega)
  · refine own_iconst X (v := (1 : Int32)) (pc' := 26) d1_25 rfl (by decide) ?_
    refine own_istoreN X (pc' := 27) (Ls' := #[.val (.ref a), .val (.int (7 : Int32)), .val (.int (c7 &&& (255 : Int32))), .val (.int (1 : Int32)), .val (.int (128 : Int32)), .val (.int (191 : Int32)), .unset, .unset, .unset]) d1_26 rfl rfl ?_
    refine own_goto X (pc' := 143) d1_27 (by decide) (by decide) ?_
    exact J143 _ _ _ (by rw [Int32.lt_iff_toInt_lt] at hc22_2; simp only [Int32.reduceToInt] at hc22_2; unfold own_L; (repeat' split); all_goals first | rfl | omega) (by rw [Int32.lt_iff_toInt_lt] at hc22_2; simp only [Int32.reduceToInt] at hc22_2; unfold own_lo; (repeat' split); all_goals first | rfl | omega) (by rw [Int32.lt_iff_toInt_lt] at hc22_2; simp only [Int32.reduceToInt] at hc22_2; unfold own_hi; (repeat' split); all_goals first | rfl | omega)
theorem pn_rm2_7 : plainFor (⟨"com/example/quern/quern/text/TextBytesSequenceLengthPinLaw", "expected", "([BI)I"⟩ : MethodName) = true := plainFor_of_name (by first | (simp [plainName, overriddenIn]; done) | decide +kernel)
theorem ef_rm2_7 (m : MethodId) (x0 : Addr) (x1 : Int32) : entryFrame m #[(.ref x0), (.int x1)] 6 = mkF m 0 #[.val (.ref x0), .val (.int x1), .unset, .unset, .unset, .unset] [] := by first | (simp [entryFrame, mkF, argsToLocals, Value.category]; done) | rfl
set_option maxRecDepth 65536 in
set_option maxHeartbeats 4000000 in
theorem rm2_7 (l : Launch) (Z : State) (a0 : Array Value) (hw : ∀ d ∈ tables_1, d.before a0 Z = true) (n0 : Nat) (a : Addr) (h0 : Heap) (hn0 : n0 ≤ h0.size) (c0 c1 c2 c3 c4 c5 c6 c7 : Int32) (A : own_A Z h0 a .byte [c0, c1, c2, c3, c4, c5, c6, c7]) :
    own_Met l (⟨"com/example/quern/quern/text/TextBytesSequenceLengthPinLaw", "expected", "([BI)I"⟩ : MethodName) method_7_code 6 (some .int) ({ frames := 1, cells := 0, slots := 0, locals := 20 } : Room) Z n0 #[(.ref a), (.int (7 : Int32))] h0 (some (.int (own_ex (own_L (c7 &&& (255 : Int32))) (c7 &&& (255 : Int32)) []))) (fun h' => h' = h0) := by
  refine own_met pn_rm2_7 hn0 ?_
  intro p e s m below meth c T X
  refine own_cast (ef_rm2_7 m a (7 : Int32)) ?_
  generalize hΦ : own_Q n0 below s _ _ _ = Φ
  refine own_aloadN X (pc' := 1) d2_0 rfl rfl rfl ?_
  refine own_iloadN X (pc' := 2) d2_1 rfl rfl ?_
  refine own_callS X (W := 0) (argsL := [(.ref a), (.int (7 : Int32))]) (rest := []) (S' := [(.int (c7 &&& (255 : Int32)))]) (pc' := 5) (rm3 l Z a0 hw n0 a (7 : Int32) h0 X.size _ A c7 rfl rfl) (hw _ (List.mem_of_getElem? (i := 9) rfl)) (hw _ (List.mem_of_getElem? (i := 10) rfl)) (hw _ (List.mem_of_getElem? (i := 7) rfl)) (hw _ (List.mem_of_getElem? (i := 11) rfl)) (by decide) (by decide) (by decide) rfl rfl (by decide) (by decide) (lenOf pd_0 rfl) rfl (by first | decide | exact Nat.le_of_eq rfl) rfl d2_2 rfl rfl ?_
  intro T1 h1 X1 qq1
  rw [show h1 = h0 from qq1] at X1
  refine own_istoreN X1 (pc' := 6) (Ls' := #[.val (.ref a), .val (.int (7 : Int32)), .val (.int (c7 &&& (255 : Int32))), .unset, .unset, .unset]) d2_5 rfl rfl ?_
  refine own_iloadN X1 (pc' := 7) d2_6 rfl rfl ?_
  refine own_callS X1 (W := 0) (argsL := [(.int (c7 &&& (255 : Int32)))]) (rest := []) (S' := [(.int (own_L (c7 &&& (255 : Int32))))]) (pc' := 10) (rm4 l Z a0 hw n0 (c7 &&& (255 : Int32)) h0 X1.size) (hw _ (List.mem_of_getElem? (i := 12) rfl)) (hw _ (List.mem_of_getElem? (i := 13) rfl)) (hw _ (List.mem_of_getElem? (i := 7) rfl)) (hw _ (List.mem_of_getElem? (i := 14) rfl)) (by decide) (by decide) (by decide) rfl rfl (by decide) (by decide) (lenOf pd_1 rfl) rfl (by first | decide | exact Nat.le_of_eq rfl) rfl d2_7 rfl rfl ?_
  intro T2 h2 X2 qq2
  rw [show h2 = h0 from qq2] at X2
  refine own_istoreN X2 (pc' := 11) (Ls' := #[.val (.ref a), .val (.int (7 : Int32)), .val (.int (c7 &&& (255 : Int32))), .val (.int (own_L (c7 &&& (255 : Int32)))), .unset, .unset]) d2_10 rfl rfl ?_
  refine own_aloadN X2 (pc' := 12) d2_11 rfl rfl rfl ?_
  refine own_len X2 (v := (8 : Int32)) (pc' := 13) A (by first | rfl | decide) d2_12 rfl ?_
  refine own_iloadN X2 (pc' := 14) d2_13 rfl rfl ?_
  refine own_isub X2 (r := (1 : Int32)) (pc' := 15) d2_14 rfl (by decide) ?_
  refine own_istore X2 (pc' := 17) (Ls' := #[.val (.ref a), .val (.int (7 : Int32)), .val (.int (c7 &&& (255 : Int32))), .val (.int (own_L (c7 &&& (255 : Int32)))), .val (.int (1 : Int32)), .unset]) d2_15 rfl rfl ?_
  refine own_iconst X2 (v := (1 : Int32)) (pc' := 18) d2_17 rfl (by decide) ?_
  refine own_istore X2 (pc' := 20) (Ls' := #[.val (.ref a), .val (.int (7 : Int32)), .val (.int (c7 &&& (255 : Int32))), .val (.int (own_L (c7 &&& (255 : Int32)))), .val (.int (1 : Int32)), .val (.int (1 : Int32))]) d2_18 rfl rfl ?_
  refine own_iloadN X2 (pc' := 21) d2_20 rfl rfl ?_
  refine own_iconst X2 (v := (2 : Int32)) (pc' := 22) d2_21 rfl (by decide) ?_
  refine own_icmp_lt X2 (pct := 102) (pc' := 25) d2_22 rfl (by decide) (by decide) (fun hc22_3 => ?_) (fun hc22_3 => ?_)
  · refine own_iload X2 (pc' := 104) d2_102 rfl rfl ?_
    subst hΦ
    exact own_retI X2 d2_104 (by decide) (by decide) (by rw [own_exn, if_pos hc22_3]) rfl
  · refine own_iload X2 (pc' := 27) d2_25 rfl rfl ?_
    refine own_iconst X2 (v := (2 : Int32)) (pc' := 28) d2_27 rfl (by decide) ?_
    refine own_icmp_lt X2 (pct := 102) (pc' := 31) d2_28 rfl (by decide) (by decide) (fun _ => ?_) (fun hc => absurd hc (by decide))
    refine own_iload X2 (pc' := 104) d2_102 rfl rfl ?_
    subst hΦ
    exact own_retI X2 d2_104 (by decide) (by decide) (by rw [own_exn, if_neg hc22_3]) rfl
theorem pn_rm0 : plainFor (⟨"com/example/quern/quern/text/TextBytesSequenceLengthPinLaw", "law", "(JI)Z"⟩ : MethodName) = true := plainFor_of_name (by first | (simp [plainName, overriddenIn]; done) | decide +kernel)
theorem ef_rm0 (m : MethodId) (x0 : Int64) (x1 : Int32) : entryFrame m #[(.long x0), (.int x1)] maxLocals = mkF m 0 #[.val (.long x0), .second, .val (.int x1), .unset, .unset, .unset] [] := by first | (simp [entryFrame, mkF, argsToLocals, Value.category, maxLocals]; done) | rfl
set_option maxRecDepth 65536 in
set_option maxHeartbeats 4000000 in
theorem rm0 (l : Launch) (Z : State) (a0 : Array Value) (hw : ∀ d ∈ tables_1, d.before a0 Z = true) (n0 : Nat) (x0 : Int64) (ss : Int32) (h0 : Heap) (hn0 : n0 ≤ h0.size) :
    own_Met l x code maxLocals ret room_1 Z n0 #[(.long x0), (.int ss)] h0 (some (.int 1)) (fun _ => True) := by
  refine own_met pn_rm0 hn0 ?_
  intro p e s m below meth c T X
  refine own_cast (ef_rm0 m x0 ss) ?_
  change own_S Z n0 code x 6 ret p l e room_1 s m _ below meth c T 0 0 h0 at X
  generalize hΦ : own_Q n0 below s _ _ _ = Φ
  refine own_bipush X (v := (8 : Int32)) (pc' := 2) at_0 rfl (by decide) ?_
  refine own_newarr X (len := 8) (vs := [0, 0, 0, 0, 0, 0, 0, 0]) (pc' := 4) (hw _ (List.mem_of_getElem? (i := 0) rfl)) rfl (by decide) (by decide) rfl (by decide) at_2 rfl (by decide) (by decide) ?_
  intro T1 h1 ad1 X1 ge_ad1 g_ad1 E1 A1
  refine own_astoreN X1 (pc' := 5) (Ls' := #[.val (.long x0), .second, .val (.int ss), .val (.ref ad1), .unset, .unset]) at_4 rfl rfl rfl ?_
  refine own_aloadN X1 (pc' := 6) at_5 rfl rfl rfl ?_
  refine own_iconst X1 (v := (0 : Int32)) (pc' := 7) at_6 rfl (by decide) ?_
  refine own_lloadN X1 (pc' := 8) at_7 rfl rfl ?_
  refine own_l2i X1 (r := (x0.toInt32)) (pc' := 9) at_8 rfl rfl ?_
  refine own_i2b X1 (r := ((x0.toInt32).toInt8.toInt32)) (pc' := 10) at_9 rfl rfl ?_
  refine own_bastore X1 (vs' := [((x0.toInt32).toInt8.toInt32), (0 : Int32), (0 : Int32), (0 : Int32), (0 : Int32), (0 : Int32), (0 : Int32), (0 : Int32)]) (pc' := 11) A1 ge_ad1 rfl (own_b8 _) rfl at_10 rfl ?_
  intro T2 h2 X2 A2 W2
  refine own_aloadN X2 (pc' := 12) at_11 rfl rfl rfl ?_
  refine own_iconst X2 (v := (1 : Int32)) (pc' := 13) at_12 rfl (by decide) ?_
  refine own_lloadN X2 (pc' := 14) at_13 rfl rfl ?_
  refine own_bipush X2 (v := (8 : Int32)) (pc' := 16) at_14 rfl (by decide) ?_
  refine own_lushr X2 (r := ((x0.toUInt64 >>> ((8 : Int32) &&& 0x3f).toInt64.toUInt64).toInt64)) (pc' := 17) at_16 rfl rfl ?_
  refine own_l2i X2 (r := (((x0.toUInt64 >>> ((8 : Int32) &&& 0x3f).toInt64.toUInt64).toInt64).toInt32)) (pc' := 18) at_17 rfl rfl ?_
  refine own_i2b X2 (r := ((((x0.toUInt64 >>> ((8 : Int32) &&& 0x3f).toInt64.toUInt64).toInt64).toInt32).toInt8.toInt32)) (pc' := 19) at_18 rfl rfl ?_
  refine own_bastore X2 (vs' := [((x0.toInt32).toInt8.toInt32), ((((x0.toUInt64 >>> ((8 : Int32) &&& 0x3f).toInt64.toUInt64).toInt64).toInt32).toInt8.toInt32), (0 : Int32), (0 : Int32), (0 : Int32), (0 : Int32), (0 : Int32), (0 : Int32)]) (pc' := 20) A2 ge_ad1 rfl (own_b8 _) rfl at_19 rfl ?_
  intro T3 h3 X3 A3 W3
  refine own_aloadN X3 (pc' := 21) at_20 rfl rfl rfl ?_
  refine own_iconst X3 (v := (2 : Int32)) (pc' := 22) at_21 rfl (by decide) ?_
  refine own_lloadN X3 (pc' := 23) at_22 rfl rfl ?_
  refine own_bipush X3 (v := (16 : Int32)) (pc' := 25) at_23 rfl (by decide) ?_
  refine own_lushr X3 (r := ((x0.toUInt64 >>> ((16 : Int32) &&& 0x3f).toInt64.toUInt64).toInt64)) (pc' := 26) at_25 rfl rfl ?_
  refine own_l2i X3 (r := (((x0.toUInt64 >>> ((16 : Int32) &&& 0x3f).toInt64.toUInt64).toInt64).toInt32)) (pc' := 27) at_26 rfl rfl ?_
  refine own_i2b X3 (r := ((((x0.toUInt64 >>> ((16 : Int32) &&& 0x3f).toInt64.toUInt64).toInt64).toInt32).toInt8.toInt32)) (pc' := 28) at_27 rfl rfl ?_
  refine own_bastore X3 (vs' := [((x0.toInt32).toInt8.toInt32), ((((x0.toUInt64 >>> ((8 : Int32) &&& 0x3f).toInt64.toUInt64).toInt64).toInt32).toInt8.toInt32), ((((x0.toUInt64 >>> ((16 : Int32) &&& 0x3f).toInt64.toUInt64).toInt64).toInt32).toInt8.toInt32), (0 : Int32), (0 : Int32), (0 : Int32), (0 : Int32), (0 : Int32)]) (pc' := 29) A3 ge_ad1 rfl (own_b8 _) rfl at_28 rfl ?_
  intro T4 h4 X4 A4 W4
  refine own_aloadN X4 (pc' := 30) at_29 rfl rfl rfl ?_
  refine own_iconst X4 (v := (3 : Int32)) (pc' := 31) at_30 rfl (by decide) ?_
  refine own_lloadN X4 (pc' := 32) at_31 rfl rfl ?_
  refine own_bipush X4 (v := (24 : Int32)) (pc' := 34) at_32 rfl (by decide) ?_
  refine own_lushr X4 (r := ((x0.toUInt64 >>> ((24 : Int32) &&& 0x3f).toInt64.toUInt64).toInt64)) (pc' := 35) at_34 rfl rfl ?_
  refine own_l2i X4 (r := (((x0.toUInt64 >>> ((24 : Int32) &&& 0x3f).toInt64.toUInt64).toInt64).toInt32)) (pc' := 36) at_35 rfl rfl ?_
  refine own_i2b X4 (r := ((((x0.toUInt64 >>> ((24 : Int32) &&& 0x3f).toInt64.toUInt64).toInt64).toInt32).toInt8.toInt32)) (pc' := 37) at_36 rfl rfl ?_
  refine own_bastore X4 (vs' := [((x0.toInt32).toInt8.toInt32), ((((x0.toUInt64 >>> ((8 : Int32) &&& 0x3f).toInt64.toUInt64).toInt64).toInt32).toInt8.toInt32), ((((x0.toUInt64 >>> ((16 : Int32) &&& 0x3f).toInt64.toUInt64).toInt64).toInt32).toInt8.toInt32), ((((x0.toUInt64 >>> ((24 : Int32) &&& 0x3f).toInt64.toUInt64).toInt64).toInt32).toInt8.toInt32), (0 : Int32), (0 : Int32), (0 : Int32), (0 : Int32)]) (pc' := 38) A4 ge_ad1 rfl (own_b8 _) rfl at_37 rfl ?_
  intro T5 h5 X5 A5 W5
  refine own_aloadN X5 (pc' := 39) at_38 rfl rfl rfl ?_
  refine own_iconst X5 (v := (4 : Int32)) (pc' := 40) at_39 rfl (by decide) ?_
  refine own_lloadN X5 (pc' := 41) at_40 rfl rfl ?_
  refine own_bipush X5 (v := (32 : Int32)) (pc' := 43) at_41 rfl (by decide) ?_
  refine own_lushr X5 (r := ((x0.toUInt64 >>> ((32 : Int32) &&& 0x3f).toInt64.toUInt64).toInt64)) (pc' := 44) at_43 rfl rfl ?_
  refine own_l2i X5 (r := (((x0.toUInt64 >>> ((32 : Int32) &&& 0x3f).toInt64.toUInt64).toInt64).toInt32)) (pc' := 45) at_44 rfl rfl ?_
  refine own_i2b X5 (r := ((((x0.toUInt64 >>> ((32 : Int32) &&& 0x3f).toInt64.toUInt64).toInt64).toInt32).toInt8.toInt32)) (pc' := 46) at_45 rfl rfl ?_
  refine own_bastore X5 (vs' := [((x0.toInt32).toInt8.toInt32), ((((x0.toUInt64 >>> ((8 : Int32) &&& 0x3f).toInt64.toUInt64).toInt64).toInt32).toInt8.toInt32), ((((x0.toUInt64 >>> ((16 : Int32) &&& 0x3f).toInt64.toUInt64).toInt64).toInt32).toInt8.toInt32), ((((x0.toUInt64 >>> ((24 : Int32) &&& 0x3f).toInt64.toUInt64).toInt64).toInt32).toInt8.toInt32), ((((x0.toUInt64 >>> ((32 : Int32) &&& 0x3f).toInt64.toUInt64).toInt64).toInt32).toInt8.toInt32), (0 : Int32), (0 : Int32), (0 : Int32)]) (pc' := 47) A5 ge_ad1 rfl (own_b8 _) rfl at_46 rfl ?_
  intro T6 h6 X6 A6 W6
  refine own_aloadN X6 (pc' := 48) at_47 rfl rfl rfl ?_
  refine own_iconst X6 (v := (5 : Int32)) (pc' := 49) at_48 rfl (by decide) ?_
  refine own_lloadN X6 (pc' := 50) at_49 rfl rfl ?_
  refine own_bipush X6 (v := (40 : Int32)) (pc' := 52) at_50 rfl (by decide) ?_
  refine own_lushr X6 (r := ((x0.toUInt64 >>> ((40 : Int32) &&& 0x3f).toInt64.toUInt64).toInt64)) (pc' := 53) at_52 rfl rfl ?_
  refine own_l2i X6 (r := (((x0.toUInt64 >>> ((40 : Int32) &&& 0x3f).toInt64.toUInt64).toInt64).toInt32)) (pc' := 54) at_53 rfl rfl ?_
  refine own_i2b X6 (r := ((((x0.toUInt64 >>> ((40 : Int32) &&& 0x3f).toInt64.toUInt64).toInt64).toInt32).toInt8.toInt32)) (pc' := 55) at_54 rfl rfl ?_
  refine own_bastore X6 (vs' := [((x0.toInt32).toInt8.toInt32), ((((x0.toUInt64 >>> ((8 : Int32) &&& 0x3f).toInt64.toUInt64).toInt64).toInt32).toInt8.toInt32), ((((x0.toUInt64 >>> ((16 : Int32) &&& 0x3f).toInt64.toUInt64).toInt64).toInt32).toInt8.toInt32), ((((x0.toUInt64 >>> ((24 : Int32) &&& 0x3f).toInt64.toUInt64).toInt64).toInt32).toInt8.toInt32), ((((x0.toUInt64 >>> ((32 : Int32) &&& 0x3f).toInt64.toUInt64).toInt64).toInt32).toInt8.toInt32), ((((x0.toUInt64 >>> ((40 : Int32) &&& 0x3f).toInt64.toUInt64).toInt64).toInt32).toInt8.toInt32), (0 : Int32), (0 : Int32)]) (pc' := 56) A6 ge_ad1 rfl (own_b8 _) rfl at_55 rfl ?_
  intro T7 h7 X7 A7 W7
  refine own_aloadN X7 (pc' := 57) at_56 rfl rfl rfl ?_
  refine own_bipush X7 (v := (6 : Int32)) (pc' := 59) at_57 rfl (by decide) ?_
  refine own_lloadN X7 (pc' := 60) at_59 rfl rfl ?_
  refine own_bipush X7 (v := (48 : Int32)) (pc' := 62) at_60 rfl (by decide) ?_
  refine own_lushr X7 (r := ((x0.toUInt64 >>> ((48 : Int32) &&& 0x3f).toInt64.toUInt64).toInt64)) (pc' := 63) at_62 rfl rfl ?_
  refine own_l2i X7 (r := (((x0.toUInt64 >>> ((48 : Int32) &&& 0x3f).toInt64.toUInt64).toInt64).toInt32)) (pc' := 64) at_63 rfl rfl ?_
  refine own_i2b X7 (r := ((((x0.toUInt64 >>> ((48 : Int32) &&& 0x3f).toInt64.toUInt64).toInt64).toInt32).toInt8.toInt32)) (pc' := 65) at_64 rfl rfl ?_
  refine own_bastore X7 (vs' := [((x0.toInt32).toInt8.toInt32), ((((x0.toUInt64 >>> ((8 : Int32) &&& 0x3f).toInt64.toUInt64).toInt64).toInt32).toInt8.toInt32), ((((x0.toUInt64 >>> ((16 : Int32) &&& 0x3f).toInt64.toUInt64).toInt64).toInt32).toInt8.toInt32), ((((x0.toUInt64 >>> ((24 : Int32) &&& 0x3f).toInt64.toUInt64).toInt64).toInt32).toInt8.toInt32), ((((x0.toUInt64 >>> ((32 : Int32) &&& 0x3f).toInt64.toUInt64).toInt64).toInt32).toInt8.toInt32), ((((x0.toUInt64 >>> ((40 : Int32) &&& 0x3f).toInt64.toUInt64).toInt64).toInt32).toInt8.toInt32), ((((x0.toUInt64 >>> ((48 : Int32) &&& 0x3f).toInt64.toUInt64).toInt64).toInt32).toInt8.toInt32), (0 : Int32)]) (pc' := 66) A7 ge_ad1 rfl (own_b8 _) rfl at_65 rfl ?_
  intro T8 h8 X8 A8 W8
  refine own_aloadN X8 (pc' := 67) at_66 rfl rfl rfl ?_
  refine own_bipush X8 (v := (7 : Int32)) (pc' := 69) at_67 rfl (by decide) ?_
  refine own_lloadN X8 (pc' := 70) at_69 rfl rfl ?_
  refine own_bipush X8 (v := (56 : Int32)) (pc' := 72) at_70 rfl (by decide) ?_
  refine own_lushr X8 (r := ((x0.toUInt64 >>> ((56 : Int32) &&& 0x3f).toInt64.toUInt64).toInt64)) (pc' := 73) at_72 rfl rfl ?_
  refine own_l2i X8 (r := (((x0.toUInt64 >>> ((56 : Int32) &&& 0x3f).toInt64.toUInt64).toInt64).toInt32)) (pc' := 74) at_73 rfl rfl ?_
  refine own_i2b X8 (r := ((((x0.toUInt64 >>> ((56 : Int32) &&& 0x3f).toInt64.toUInt64).toInt64).toInt32).toInt8.toInt32)) (pc' := 75) at_74 rfl rfl ?_
  refine own_bastore X8 (vs' := [((x0.toInt32).toInt8.toInt32), ((((x0.toUInt64 >>> ((8 : Int32) &&& 0x3f).toInt64.toUInt64).toInt64).toInt32).toInt8.toInt32), ((((x0.toUInt64 >>> ((16 : Int32) &&& 0x3f).toInt64.toUInt64).toInt64).toInt32).toInt8.toInt32), ((((x0.toUInt64 >>> ((24 : Int32) &&& 0x3f).toInt64.toUInt64).toInt64).toInt32).toInt8.toInt32), ((((x0.toUInt64 >>> ((32 : Int32) &&& 0x3f).toInt64.toUInt64).toInt64).toInt32).toInt8.toInt32), ((((x0.toUInt64 >>> ((40 : Int32) &&& 0x3f).toInt64.toUInt64).toInt64).toInt32).toInt8.toInt32), ((((x0.toUInt64 >>> ((48 : Int32) &&& 0x3f).toInt64.toUInt64).toInt64).toInt32).toInt8.toInt32), ((((x0.toUInt64 >>> ((56 : Int32) &&& 0x3f).toInt64.toUInt64).toInt64).toInt32).toInt8.toInt32)]) (pc' := 76) A8 ge_ad1 rfl (own_b8 _) rfl at_75 rfl ?_
  intro T9 h9 X9 A9 W9
  generalize ((x0.toInt32).toInt8.toInt32) = c0 at *
  generalize ((((x0.toUInt64 >>> ((8 : Int32) &&& 0x3f).toInt64.toUInt64).toInt64).toInt32).toInt8.toInt32) = c1 at *
  generalize ((((x0.toUInt64 >>> ((16 : Int32) &&& 0x3f).toInt64.toUInt64).toInt64).toInt32).toInt8.toInt32) = c2 at *
  generalize ((((x0.toUInt64 >>> ((24 : Int32) &&& 0x3f).toInt64.toUInt64).toInt64).toInt32).toInt8.toInt32) = c3 at *
  generalize ((((x0.toUInt64 >>> ((32 : Int32) &&& 0x3f).toInt64.toUInt64).toInt64).toInt32).toInt8.toInt32) = c4 at *
  generalize ((((x0.toUInt64 >>> ((40 : Int32) &&& 0x3f).toInt64.toUInt64).toInt64).toInt32).toInt8.toInt32) = c5 at *
  generalize ((((x0.toUInt64 >>> ((48 : Int32) &&& 0x3f).toInt64.toUInt64).toInt64).toInt32).toInt8.toInt32) = c6 at *
  generalize ((((x0.toUInt64 >>> ((56 : Int32) &&& 0x3f).toInt64.toUInt64).toInt64).toInt32).toInt8.toInt32) = c7 at *
  refine own_iloadN X9 (pc' := 77) at_76 rfl rfl ?_
  refine own_bipush X9 (v := (7 : Int32)) (pc' := 79) at_77 rfl (by decide) ?_
  refine own_iand X9 (r := (ss &&& (7 : Int32))) (pc' := 80) at_79 rfl rfl ?_
  refine own_istore X9 (pc' := 82) (Ls' := #[.val (.long x0), .second, .val (.int ss), .val (.ref ad1), .val (.int (ss &&& (7 : Int32))), .unset]) at_80 rfl rfl ?_
  generalize e10 : (ss &&& (7 : Int32)) = v10
  rcases own_and7 e10 with rfl | rfl | rfl | rfl | rfl | rfl | rfl | rfl
  · refine own_aloadN X9 (pc' := 83) at_82 rfl rfl rfl ?_
    refine own_iload X9 (pc' := 85) at_83 rfl rfl ?_
    refine own_callS X9 (W := 0) (argsL := [(.ref ad1), (.int (0 : Int32))]) (rest := []) (S' := [(.int (own_sq (own_L (c0 &&& (255 : Int32))) (own_lo (c0 &&& (255 : Int32))) (own_hi (c0 &&& (255 : Int32))) [(c1 &&& (255 : Int32)), (c2 &&& (255 : Int32)), (c3 &&& (255 : Int32)), (c4 &&& (255 : Int32)), (c5 &&& (255 : Int32)), (c6 &&& (255 : Int32)), (c7 &&& (255 : Int32))]))]) (pc' := 88) (rm1_0 l Z a0 hw n0 ad1 h9 X9.size c0 c1 c2 c3 c4 c5 c6 c7 A9) (hw _ (List.mem_of_getElem? (i := 1) rfl)) (hw _ (List.mem_of_getElem? (i := 2) rfl)) (hw _ (List.mem_of_getElem? (i := 3) rfl)) (hw _ (List.mem_of_getElem? (i := 4) rfl)) (by decide) (by decide) (by decide) rfl rfl (by decide) (by decide) (lenOf pd_0 rfl) rfl (by first | decide | exact Nat.le_of_eq rfl) rfl at_85 rfl rfl ?_
    intro T11 h11 X11 qq11
    rw [show h11 = h9 from qq11] at X11
    refine own_istore X11 (pc' := 90) (Ls' := #[.val (.long x0), .second, .val (.int ss), .val (.ref ad1), .val (.int (0 : Int32)), .val (.int (own_sq (own_L (c0 &&& (255 : Int32))) (own_lo (c0 &&& (255 : Int32))) (own_hi (c0 &&& (255 : Int32))) [(c1 &&& (255 : Int32)), (c2 &&& (255 : Int32)), (c3 &&& (255 : Int32)), (c4 &&& (255 : Int32)), (c5 &&& (255 : Int32)), (c6 &&& (255 : Int32)), (c7 &&& (255 : Int32))]))]) at_88 rfl rfl ?_
    refine own_iload X11 (pc' := 92) at_90 rfl rfl ?_
    refine own_aloadN X11 (pc' := 93) at_92 rfl rfl rfl ?_
    refine own_iload X11 (pc' := 95) at_93 rfl rfl ?_
    refine own_callS X11 (W := 1) (argsL := [(.ref ad1), (.int (0 : Int32))]) (rest := [(.int (own_sq (own_L (c0 &&& (255 : Int32))) (own_lo (c0 &&& (255 : Int32))) (own_hi (c0 &&& (255 : Int32))) [(c1 &&& (255 : Int32)), (c2 &&& (255 : Int32)), (c3 &&& (255 : Int32)), (c4 &&& (255 : Int32)), (c5 &&& (255 : Int32)), (c6 &&& (255 : Int32)), (c7 &&& (255 : Int32))]))]) (S' := [(.int (own_ex (own_L (c0 &&& (255 : Int32))) (c0 &&& (255 : Int32)) [(c1 &&& (255 : Int32)), (c2 &&& (255 : Int32)), (c3 &&& (255 : Int32)), (c4 &&& (255 : Int32)), (c5 &&& (255 : Int32)), (c6 &&& (255 : Int32)), (c7 &&& (255 : Int32))])), (.int (own_sq (own_L (c0 &&& (255 : Int32))) (own_lo (c0 &&& (255 : Int32))) (own_hi (c0 &&& (255 : Int32))) [(c1 &&& (255 : Int32)), (c2 &&& (255 : Int32)), (c3 &&& (255 : Int32)), (c4 &&& (255 : Int32)), (c5 &&& (255 : Int32)), (c6 &&& (255 : Int32)), (c7 &&& (255 : Int32))]))]) (pc' := 98) (rm2_0 l Z a0 hw n0 ad1 h9 X11.size c0 c1 c2 c3 c4 c5 c6 c7 A9) (hw _ (List.mem_of_getElem? (i := 5) rfl)) (hw _ (List.mem_of_getElem? (i := 6) rfl)) (hw _ (List.mem_of_getElem? (i := 7) rfl)) (hw _ (List.mem_of_getElem? (i := 8) rfl)) (by decide) (by decide) (by decide) rfl rfl (by decide) (by decide) (lenOf pd_0 rfl) rfl (by first | decide | exact Nat.le_of_eq rfl) rfl at_95 rfl rfl ?_
    intro T12 h12 X12 qq12
    rw [show h12 = h9 from qq12] at X12
    refine own_icmp_ne X12 (pct := 105) (pc' := 101) at_98 rfl (by decide) (by decide) (fun hc => absurd hc (fun q => q (own_q1 _ _ (own_fc (own_byte _) (own_fc (own_byte _) (own_fc (own_byte _) (own_fc (own_byte _) (own_fc (own_byte _) (own_fc (own_byte _) (own_fc (own_byte _) own_fn)))))))))) (fun _ => ?_)
    refine own_iconst X12 (v := (1 : Int32)) (pc' := 102) at_101 rfl (by decide) ?_
    refine own_goto X12 (pc' := 106) at_102 (by decide) (by decide) ?_
    subst hΦ
    exact own_retZ X12 at_106 (by decide) (by decide) (by decide) rfl trivial
  · refine own_aloadN X9 (pc' := 83) at_82 rfl rfl rfl ?_
    refine own_iload X9 (pc' := 85) at_83 rfl rfl ?_
    refine own_callS X9 (W := 0) (argsL := [(.ref ad1), (.int (1 : Int32))]) (rest := []) (S' := [(.int (own_sq (own_L (c1 &&& (255 : Int32))) (own_lo (c1 &&& (255 : Int32))) (own_hi (c1 &&& (255 : Int32))) [(c2 &&& (255 : Int32)), (c3 &&& (255 : Int32)), (c4 &&& (255 : Int32)), (c5 &&& (255 : Int32)), (c6 &&& (255 : Int32)), (c7 &&& (255 : Int32))]))]) (pc' := 88) (rm1_1 l Z a0 hw n0 ad1 h9 X9.size c0 c1 c2 c3 c4 c5 c6 c7 A9) (hw _ (List.mem_of_getElem? (i := 1) rfl)) (hw _ (List.mem_of_getElem? (i := 2) rfl)) (hw _ (List.mem_of_getElem? (i := 3) rfl)) (hw _ (List.mem_of_getElem? (i := 4) rfl)) (by decide) (by decide) (by decide) rfl rfl (by decide) (by decide) (lenOf pd_0 rfl) rfl (by first | decide | exact Nat.le_of_eq rfl) rfl at_85 rfl rfl ?_
    intro T13 h13 X13 qq13
    rw [show h13 = h9 from qq13] at X13
    refine own_istore X13 (pc' := 90) (Ls' := #[.val (.long x0), .second, .val (.int ss), .val (.ref ad1), .val (.int (1 : Int32)), .val (.int (own_sq (own_L (c1 &&& (255 : Int32))) (own_lo (c1 &&& (255 : Int32))) (own_hi (c1 &&& (255 : Int32))) [(c2 &&& (255 : Int32)), (c3 &&& (255 : Int32)), (c4 &&& (255 : Int32)), (c5 &&& (255 : Int32)), (c6 &&& (255 : Int32)), (c7 &&& (255 : Int32))]))]) at_88 rfl rfl ?_
    refine own_iload X13 (pc' := 92) at_90 rfl rfl ?_
    refine own_aloadN X13 (pc' := 93) at_92 rfl rfl rfl ?_
    refine own_iload X13 (pc' := 95) at_93 rfl rfl ?_
    refine own_callS X13 (W := 1) (argsL := [(.ref ad1), (.int (1 : Int32))]) (rest := [(.int (own_sq (own_L (c1 &&& (255 : Int32))) (own_lo (c1 &&& (255 : Int32))) (own_hi (c1 &&& (255 : Int32))) [(c2 &&& (255 : Int32)), (c3 &&& (255 : Int32)), (c4 &&& (255 : Int32)), (c5 &&& (255 : Int32)), (c6 &&& (255 : Int32)), (c7 &&& (255 : Int32))]))]) (S' := [(.int (own_ex (own_L (c1 &&& (255 : Int32))) (c1 &&& (255 : Int32)) [(c2 &&& (255 : Int32)), (c3 &&& (255 : Int32)), (c4 &&& (255 : Int32)), (c5 &&& (255 : Int32)), (c6 &&& (255 : Int32)), (c7 &&& (255 : Int32))])), (.int (own_sq (own_L (c1 &&& (255 : Int32))) (own_lo (c1 &&& (255 : Int32))) (own_hi (c1 &&& (255 : Int32))) [(c2 &&& (255 : Int32)), (c3 &&& (255 : Int32)), (c4 &&& (255 : Int32)), (c5 &&& (255 : Int32)), (c6 &&& (255 : Int32)), (c7 &&& (255 : Int32))]))]) (pc' := 98) (rm2_1 l Z a0 hw n0 ad1 h9 X13.size c0 c1 c2 c3 c4 c5 c6 c7 A9) (hw _ (List.mem_of_getElem? (i := 5) rfl)) (hw _ (List.mem_of_getElem? (i := 6) rfl)) (hw _ (List.mem_of_getElem? (i := 7) rfl)) (hw _ (List.mem_of_getElem? (i := 8) rfl)) (by decide) (by decide) (by decide) rfl rfl (by decide) (by decide) (lenOf pd_0 rfl) rfl (by first | decide | exact Nat.le_of_eq rfl) rfl at_95 rfl rfl ?_
    intro T14 h14 X14 qq14
    rw [show h14 = h9 from qq14] at X14
    refine own_icmp_ne X14 (pct := 105) (pc' := 101) at_98 rfl (by decide) (by decide) (fun hc => absurd hc (fun q => q (own_q1 _ _ (own_fc (own_byte _) (own_fc (own_byte _) (own_fc (own_byte _) (own_fc (own_byte _) (own_fc (own_byte _) (own_fc (own_byte _) own_fn))))))))) (fun _ => ?_)
    refine own_iconst X14 (v := (1 : Int32)) (pc' := 102) at_101 rfl (by decide) ?_
    refine own_goto X14 (pc' := 106) at_102 (by decide) (by decide) ?_
    subst hΦ
    exact own_retZ X14 at_106 (by decide) (by decide) (by decide) rfl trivial
  · refine own_aloadN X9 (pc' := 83) at_82 rfl rfl rfl ?_
    refine own_iload X9 (pc' := 85) at_83 rfl rfl ?_
    refine own_callS X9 (W := 0) (argsL := [(.ref ad1), (.int (2 : Int32))]) (rest := []) (S' := [(.int (own_sq (own_L (c2 &&& (255 : Int32))) (own_lo (c2 &&& (255 : Int32))) (own_hi (c2 &&& (255 : Int32))) [(c3 &&& (255 : Int32)), (c4 &&& (255 : Int32)), (c5 &&& (255 : Int32)), (c6 &&& (255 : Int32)), (c7 &&& (255 : Int32))]))]) (pc' := 88) (rm1_2 l Z a0 hw n0 ad1 h9 X9.size c0 c1 c2 c3 c4 c5 c6 c7 A9) (hw _ (List.mem_of_getElem? (i := 1) rfl)) (hw _ (List.mem_of_getElem? (i := 2) rfl)) (hw _ (List.mem_of_getElem? (i := 3) rfl)) (hw _ (List.mem_of_getElem? (i := 4) rfl)) (by decide) (by decide) (by decide) rfl rfl (by decide) (by decide) (lenOf pd_0 rfl) rfl (by first | decide | exact Nat.le_of_eq rfl) rfl at_85 rfl rfl ?_
    intro T15 h15 X15 qq15
    rw [show h15 = h9 from qq15] at X15
    refine own_istore X15 (pc' := 90) (Ls' := #[.val (.long x0), .second, .val (.int ss), .val (.ref ad1), .val (.int (2 : Int32)), .val (.int (own_sq (own_L (c2 &&& (255 : Int32))) (own_lo (c2 &&& (255 : Int32))) (own_hi (c2 &&& (255 : Int32))) [(c3 &&& (255 : Int32)), (c4 &&& (255 : Int32)), (c5 &&& (255 : Int32)), (c6 &&& (255 : Int32)), (c7 &&& (255 : Int32))]))]) at_88 rfl rfl ?_
    refine own_iload X15 (pc' := 92) at_90 rfl rfl ?_
    refine own_aloadN X15 (pc' := 93) at_92 rfl rfl rfl ?_
    refine own_iload X15 (pc' := 95) at_93 rfl rfl ?_
    refine own_callS X15 (W := 1) (argsL := [(.ref ad1), (.int (2 : Int32))]) (rest := [(.int (own_sq (own_L (c2 &&& (255 : Int32))) (own_lo (c2 &&& (255 : Int32))) (own_hi (c2 &&& (255 : Int32))) [(c3 &&& (255 : Int32)), (c4 &&& (255 : Int32)), (c5 &&& (255 : Int32)), (c6 &&& (255 : Int32)), (c7 &&& (255 : Int32))]))]) (S' := [(.int (own_ex (own_L (c2 &&& (255 : Int32))) (c2 &&& (255 : Int32)) [(c3 &&& (255 : Int32)), (c4 &&& (255 : Int32)), (c5 &&& (255 : Int32)), (c6 &&& (255 : Int32)), (c7 &&& (255 : Int32))])), (.int (own_sq (own_L (c2 &&& (255 : Int32))) (own_lo (c2 &&& (255 : Int32))) (own_hi (c2 &&& (255 : Int32))) [(c3 &&& (255 : Int32)), (c4 &&& (255 : Int32)), (c5 &&& (255 : Int32)), (c6 &&& (255 : Int32)), (c7 &&& (255 : Int32))]))]) (pc' := 98) (rm2_2 l Z a0 hw n0 ad1 h9 X15.size c0 c1 c2 c3 c4 c5 c6 c7 A9) (hw _ (List.mem_of_getElem? (i := 5) rfl)) (hw _ (List.mem_of_getElem? (i := 6) rfl)) (hw _ (List.mem_of_getElem? (i := 7) rfl)) (hw _ (List.mem_of_getElem? (i := 8) rfl)) (by decide) (by decide) (by decide) rfl rfl (by decide) (by decide) (lenOf pd_0 rfl) rfl (by first | decide | exact Nat.le_of_eq rfl) rfl at_95 rfl rfl ?_
    intro T16 h16 X16 qq16
    rw [show h16 = h9 from qq16] at X16
    refine own_icmp_ne X16 (pct := 105) (pc' := 101) at_98 rfl (by decide) (by decide) (fun hc => absurd hc (fun q => q (own_q1 _ _ (own_fc (own_byte _) (own_fc (own_byte _) (own_fc (own_byte _) (own_fc (own_byte _) (own_fc (own_byte _) own_fn)))))))) (fun _ => ?_)
    refine own_iconst X16 (v := (1 : Int32)) (pc' := 102) at_101 rfl (by decide) ?_
    refine own_goto X16 (pc' := 106) at_102 (by decide) (by decide) ?_
    subst hΦ
    exact own_retZ X16 at_106 (by decide) (by decide) (by decide) rfl trivial
  · refine own_aloadN X9 (pc' := 83) at_82 rfl rfl rfl ?_
    refine own_iload X9 (pc' := 85) at_83 rfl rfl ?_
    refine own_callS X9 (W := 0) (argsL := [(.ref ad1), (.int (3 : Int32))]) (rest := []) (S' := [(.int (own_sq (own_L (c3 &&& (255 : Int32))) (own_lo (c3 &&& (255 : Int32))) (own_hi (c3 &&& (255 : Int32))) [(c4 &&& (255 : Int32)), (c5 &&& (255 : Int32)), (c6 &&& (255 : Int32)), (c7 &&& (255 : Int32))]))]) (pc' := 88) (rm1_3 l Z a0 hw n0 ad1 h9 X9.size c0 c1 c2 c3 c4 c5 c6 c7 A9) (hw _ (List.mem_of_getElem? (i := 1) rfl)) (hw _ (List.mem_of_getElem? (i := 2) rfl)) (hw _ (List.mem_of_getElem? (i := 3) rfl)) (hw _ (List.mem_of_getElem? (i := 4) rfl)) (by decide) (by decide) (by decide) rfl rfl (by decide) (by decide) (lenOf pd_0 rfl) rfl (by first | decide | exact Nat.le_of_eq rfl) rfl at_85 rfl rfl ?_
    intro T17 h17 X17 qq17
    rw [show h17 = h9 from qq17] at X17
    refine own_istore X17 (pc' := 90) (Ls' := #[.val (.long x0), .second, .val (.int ss), .val (.ref ad1), .val (.int (3 : Int32)), .val (.int (own_sq (own_L (c3 &&& (255 : Int32))) (own_lo (c3 &&& (255 : Int32))) (own_hi (c3 &&& (255 : Int32))) [(c4 &&& (255 : Int32)), (c5 &&& (255 : Int32)), (c6 &&& (255 : Int32)), (c7 &&& (255 : Int32))]))]) at_88 rfl rfl ?_
    refine own_iload X17 (pc' := 92) at_90 rfl rfl ?_
    refine own_aloadN X17 (pc' := 93) at_92 rfl rfl rfl ?_
    refine own_iload X17 (pc' := 95) at_93 rfl rfl ?_
    refine own_callS X17 (W := 1) (argsL := [(.ref ad1), (.int (3 : Int32))]) (rest := [(.int (own_sq (own_L (c3 &&& (255 : Int32))) (own_lo (c3 &&& (255 : Int32))) (own_hi (c3 &&& (255 : Int32))) [(c4 &&& (255 : Int32)), (c5 &&& (255 : Int32)), (c6 &&& (255 : Int32)), (c7 &&& (255 : Int32))]))]) (S' := [(.int (own_ex (own_L (c3 &&& (255 : Int32))) (c3 &&& (255 : Int32)) [(c4 &&& (255 : Int32)), (c5 &&& (255 : Int32)), (c6 &&& (255 : Int32)), (c7 &&& (255 : Int32))])), (.int (own_sq (own_L (c3 &&& (255 : Int32))) (own_lo (c3 &&& (255 : Int32))) (own_hi (c3 &&& (255 : Int32))) [(c4 &&& (255 : Int32)), (c5 &&& (255 : Int32)), (c6 &&& (255 : Int32)), (c7 &&& (255 : Int32))]))]) (pc' := 98) (rm2_3 l Z a0 hw n0 ad1 h9 X17.size c0 c1 c2 c3 c4 c5 c6 c7 A9) (hw _ (List.mem_of_getElem? (i := 5) rfl)) (hw _ (List.mem_of_getElem? (i := 6) rfl)) (hw _ (List.mem_of_getElem? (i := 7) rfl)) (hw _ (List.mem_of_getElem? (i := 8) rfl)) (by decide) (by decide) (by decide) rfl rfl (by decide) (by decide) (lenOf pd_0 rfl) rfl (by first | decide | exact Nat.le_of_eq rfl) rfl at_95 rfl rfl ?_
    intro T18 h18 X18 qq18
    rw [show h18 = h9 from qq18] at X18
    refine own_icmp_ne X18 (pct := 105) (pc' := 101) at_98 rfl (by decide) (by decide) (fun hc => absurd hc (fun q => q (own_q1 _ _ (own_fc (own_byte _) (own_fc (own_byte _) (own_fc (own_byte _) (own_fc (own_byte _) own_fn))))))) (fun _ => ?_)
    refine own_iconst X18 (v := (1 : Int32)) (pc' := 102) at_101 rfl (by decide) ?_
    refine own_goto X18 (pc' := 106) at_102 (by decide) (by decide) ?_
    subst hΦ
    exact own_retZ X18 at_106 (by decide) (by decide) (by decide) rfl trivial
  · refine own_aloadN X9 (pc' := 83) at_82 rfl rfl rfl ?_
    refine own_iload X9 (pc' := 85) at_83 rfl rfl ?_
    refine own_callS X9 (W := 0) (argsL := [(.ref ad1), (.int (4 : Int32))]) (rest := []) (S' := [(.int (own_sq (own_L (c4 &&& (255 : Int32))) (own_lo (c4 &&& (255 : Int32))) (own_hi (c4 &&& (255 : Int32))) [(c5 &&& (255 : Int32)), (c6 &&& (255 : Int32)), (c7 &&& (255 : Int32))]))]) (pc' := 88) (rm1_4 l Z a0 hw n0 ad1 h9 X9.size c0 c1 c2 c3 c4 c5 c6 c7 A9) (hw _ (List.mem_of_getElem? (i := 1) rfl)) (hw _ (List.mem_of_getElem? (i := 2) rfl)) (hw _ (List.mem_of_getElem? (i := 3) rfl)) (hw _ (List.mem_of_getElem? (i := 4) rfl)) (by decide) (by decide) (by decide) rfl rfl (by decide) (by decide) (lenOf pd_0 rfl) rfl (by first | decide | exact Nat.le_of_eq rfl) rfl at_85 rfl rfl ?_
    intro T19 h19 X19 qq19
    rw [show h19 = h9 from qq19] at X19
    refine own_istore X19 (pc' := 90) (Ls' := #[.val (.long x0), .second, .val (.int ss), .val (.ref ad1), .val (.int (4 : Int32)), .val (.int (own_sq (own_L (c4 &&& (255 : Int32))) (own_lo (c4 &&& (255 : Int32))) (own_hi (c4 &&& (255 : Int32))) [(c5 &&& (255 : Int32)), (c6 &&& (255 : Int32)), (c7 &&& (255 : Int32))]))]) at_88 rfl rfl ?_
    refine own_iload X19 (pc' := 92) at_90 rfl rfl ?_
    refine own_aloadN X19 (pc' := 93) at_92 rfl rfl rfl ?_
    refine own_iload X19 (pc' := 95) at_93 rfl rfl ?_
    refine own_callS X19 (W := 1) (argsL := [(.ref ad1), (.int (4 : Int32))]) (rest := [(.int (own_sq (own_L (c4 &&& (255 : Int32))) (own_lo (c4 &&& (255 : Int32))) (own_hi (c4 &&& (255 : Int32))) [(c5 &&& (255 : Int32)), (c6 &&& (255 : Int32)), (c7 &&& (255 : Int32))]))]) (S' := [(.int (own_ex (own_L (c4 &&& (255 : Int32))) (c4 &&& (255 : Int32)) [(c5 &&& (255 : Int32)), (c6 &&& (255 : Int32)), (c7 &&& (255 : Int32))])), (.int (own_sq (own_L (c4 &&& (255 : Int32))) (own_lo (c4 &&& (255 : Int32))) (own_hi (c4 &&& (255 : Int32))) [(c5 &&& (255 : Int32)), (c6 &&& (255 : Int32)), (c7 &&& (255 : Int32))]))]) (pc' := 98) (rm2_4 l Z a0 hw n0 ad1 h9 X19.size c0 c1 c2 c3 c4 c5 c6 c7 A9) (hw _ (List.mem_of_getElem? (i := 5) rfl)) (hw _ (List.mem_of_getElem? (i := 6) rfl)) (hw _ (List.mem_of_getElem? (i := 7) rfl)) (hw _ (List.mem_of_getElem? (i := 8) rfl)) (by decide) (by decide) (by decide) rfl rfl (by decide) (by decide) (lenOf pd_0 rfl) rfl (by first | decide | exact Nat.le_of_eq rfl) rfl at_95 rfl rfl ?_
    intro T20 h20 X20 qq20
    rw [show h20 = h9 from qq20] at X20
    refine own_icmp_ne X20 (pct := 105) (pc' := 101) at_98 rfl (by decide) (by decide) (fun hc => absurd hc (fun q => q (own_q1 _ _ (own_fc (own_byte _) (own_fc (own_byte _) (own_fc (own_byte _) own_fn)))))) (fun _ => ?_)
    refine own_iconst X20 (v := (1 : Int32)) (pc' := 102) at_101 rfl (by decide) ?_
    refine own_goto X20 (pc' := 106) at_102 (by decide) (by decide) ?_
    subst hΦ
    exact own_retZ X20 at_106 (by decide) (by decide) (by decide) rfl trivial
  · refine own_aloadN X9 (pc' := 83) at_82 rfl rfl rfl ?_
    refine own_iload X9 (pc' := 85) at_83 rfl rfl ?_
    refine own_callS X9 (W := 0) (argsL := [(.ref ad1), (.int (5 : Int32))]) (rest := []) (S' := [(.int (own_sq (own_L (c5 &&& (255 : Int32))) (own_lo (c5 &&& (255 : Int32))) (own_hi (c5 &&& (255 : Int32))) [(c6 &&& (255 : Int32)), (c7 &&& (255 : Int32))]))]) (pc' := 88) (rm1_5 l Z a0 hw n0 ad1 h9 X9.size c0 c1 c2 c3 c4 c5 c6 c7 A9) (hw _ (List.mem_of_getElem? (i := 1) rfl)) (hw _ (List.mem_of_getElem? (i := 2) rfl)) (hw _ (List.mem_of_getElem? (i := 3) rfl)) (hw _ (List.mem_of_getElem? (i := 4) rfl)) (by decide) (by decide) (by decide) rfl rfl (by decide) (by decide) (lenOf pd_0 rfl) rfl (by first | decide | exact Nat.le_of_eq rfl) rfl at_85 rfl rfl ?_
    intro T21 h21 X21 qq21
    rw [show h21 = h9 from qq21] at X21
    refine own_istore X21 (pc' := 90) (Ls' := #[.val (.long x0), .second, .val (.int ss), .val (.ref ad1), .val (.int (5 : Int32)), .val (.int (own_sq (own_L (c5 &&& (255 : Int32))) (own_lo (c5 &&& (255 : Int32))) (own_hi (c5 &&& (255 : Int32))) [(c6 &&& (255 : Int32)), (c7 &&& (255 : Int32))]))]) at_88 rfl rfl ?_
    refine own_iload X21 (pc' := 92) at_90 rfl rfl ?_
    refine own_aloadN X21 (pc' := 93) at_92 rfl rfl rfl ?_
    refine own_iload X21 (pc' := 95) at_93 rfl rfl ?_
    refine own_callS X21 (W := 1) (argsL := [(.ref ad1), (.int (5 : Int32))]) (rest := [(.int (own_sq (own_L (c5 &&& (255 : Int32))) (own_lo (c5 &&& (255 : Int32))) (own_hi (c5 &&& (255 : Int32))) [(c6 &&& (255 : Int32)), (c7 &&& (255 : Int32))]))]) (S' := [(.int (own_ex (own_L (c5 &&& (255 : Int32))) (c5 &&& (255 : Int32)) [(c6 &&& (255 : Int32)), (c7 &&& (255 : Int32))])), (.int (own_sq (own_L (c5 &&& (255 : Int32))) (own_lo (c5 &&& (255 : Int32))) (own_hi (c5 &&& (255 : Int32))) [(c6 &&& (255 : Int32)), (c7 &&& (255 : Int32))]))]) (pc' := 98) (rm2_5 l Z a0 hw n0 ad1 h9 X21.size c0 c1 c2 c3 c4 c5 c6 c7 A9) (hw _ (List.mem_of_getElem? (i := 5) rfl)) (hw _ (List.mem_of_getElem? (i := 6) rfl)) (hw _ (List.mem_of_getElem? (i := 7) rfl)) (hw _ (List.mem_of_getElem? (i := 8) rfl)) (by decide) (by decide) (by decide) rfl rfl (by decide) (by decide) (lenOf pd_0 rfl) rfl (by first | decide | exact Nat.le_of_eq rfl) rfl at_95 rfl rfl ?_
    intro T22 h22 X22 qq22
    rw [show h22 = h9 from qq22] at X22
    refine own_icmp_ne X22 (pct := 105) (pc' := 101) at_98 rfl (by decide) (by decide) (fun hc => absurd hc (fun q => q (own_q1 _ _ (own_fc (own_byte _) (own_fc (own_byte _) own_fn))))) (fun _ => ?_)
    refine own_iconst X22 (v := (1 : Int32)) (pc' := 102) at_101 rfl (by decide) ?_
    refine own_goto X22 (pc' := 106) at_102 (by decide) (by decide) ?_
    subst hΦ
    exact own_retZ X22 at_106 (by decide) (by decide) (by decide) rfl trivial
  · refine own_aloadN X9 (pc' := 83) at_82 rfl rfl rfl ?_
    refine own_iload X9 (pc' := 85) at_83 rfl rfl ?_
    refine own_callS X9 (W := 0) (argsL := [(.ref ad1), (.int (6 : Int32))]) (rest := []) (S' := [(.int (own_sq (own_L (c6 &&& (255 : Int32))) (own_lo (c6 &&& (255 : Int32))) (own_hi (c6 &&& (255 : Int32))) [(c7 &&& (255 : Int32))]))]) (pc' := 88) (rm1_6 l Z a0 hw n0 ad1 h9 X9.size c0 c1 c2 c3 c4 c5 c6 c7 A9) (hw _ (List.mem_of_getElem? (i := 1) rfl)) (hw _ (List.mem_of_getElem? (i := 2) rfl)) (hw _ (List.mem_of_getElem? (i := 3) rfl)) (hw _ (List.mem_of_getElem? (i := 4) rfl)) (by decide) (by decide) (by decide) rfl rfl (by decide) (by decide) (lenOf pd_0 rfl) rfl (by first | decide | exact Nat.le_of_eq rfl) rfl at_85 rfl rfl ?_
    intro T23 h23 X23 qq23
    rw [show h23 = h9 from qq23] at X23
    refine own_istore X23 (pc' := 90) (Ls' := #[.val (.long x0), .second, .val (.int ss), .val (.ref ad1), .val (.int (6 : Int32)), .val (.int (own_sq (own_L (c6 &&& (255 : Int32))) (own_lo (c6 &&& (255 : Int32))) (own_hi (c6 &&& (255 : Int32))) [(c7 &&& (255 : Int32))]))]) at_88 rfl rfl ?_
    refine own_iload X23 (pc' := 92) at_90 rfl rfl ?_
    refine own_aloadN X23 (pc' := 93) at_92 rfl rfl rfl ?_
    refine own_iload X23 (pc' := 95) at_93 rfl rfl ?_
    refine own_callS X23 (W := 1) (argsL := [(.ref ad1), (.int (6 : Int32))]) (rest := [(.int (own_sq (own_L (c6 &&& (255 : Int32))) (own_lo (c6 &&& (255 : Int32))) (own_hi (c6 &&& (255 : Int32))) [(c7 &&& (255 : Int32))]))]) (S' := [(.int (own_ex (own_L (c6 &&& (255 : Int32))) (c6 &&& (255 : Int32)) [(c7 &&& (255 : Int32))])), (.int (own_sq (own_L (c6 &&& (255 : Int32))) (own_lo (c6 &&& (255 : Int32))) (own_hi (c6 &&& (255 : Int32))) [(c7 &&& (255 : Int32))]))]) (pc' := 98) (rm2_6 l Z a0 hw n0 ad1 h9 X23.size c0 c1 c2 c3 c4 c5 c6 c7 A9) (hw _ (List.mem_of_getElem? (i := 5) rfl)) (hw _ (List.mem_of_getElem? (i := 6) rfl)) (hw _ (List.mem_of_getElem? (i := 7) rfl)) (hw _ (List.mem_of_getElem? (i := 8) rfl)) (by decide) (by decide) (by decide) rfl rfl (by decide) (by decide) (lenOf pd_0 rfl) rfl (by first | decide | exact Nat.le_of_eq rfl) rfl at_95 rfl rfl ?_
    intro T24 h24 X24 qq24
    rw [show h24 = h9 from qq24] at X24
    refine own_icmp_ne X24 (pct := 105) (pc' := 101) at_98 rfl (by decide) (by decide) (fun hc => absurd hc (fun q => q (own_q1 _ _ (own_fc (own_byte _) own_fn)))) (fun _ => ?_)
    refine own_iconst X24 (v := (1 : Int32)) (pc' := 102) at_101 rfl (by decide) ?_
    refine own_goto X24 (pc' := 106) at_102 (by decide) (by decide) ?_
    subst hΦ
    exact own_retZ X24 at_106 (by decide) (by decide) (by decide) rfl trivial
  · refine own_aloadN X9 (pc' := 83) at_82 rfl rfl rfl ?_
    refine own_iload X9 (pc' := 85) at_83 rfl rfl ?_
    refine own_callS X9 (W := 0) (argsL := [(.ref ad1), (.int (7 : Int32))]) (rest := []) (S' := [(.int (own_sq (own_L (c7 &&& (255 : Int32))) (own_lo (c7 &&& (255 : Int32))) (own_hi (c7 &&& (255 : Int32))) []))]) (pc' := 88) (rm1_7 l Z a0 hw n0 ad1 h9 X9.size c0 c1 c2 c3 c4 c5 c6 c7 A9) (hw _ (List.mem_of_getElem? (i := 1) rfl)) (hw _ (List.mem_of_getElem? (i := 2) rfl)) (hw _ (List.mem_of_getElem? (i := 3) rfl)) (hw _ (List.mem_of_getElem? (i := 4) rfl)) (by decide) (by decide) (by decide) rfl rfl (by decide) (by decide) (lenOf pd_0 rfl) rfl (by first | decide | exact Nat.le_of_eq rfl) rfl at_85 rfl rfl ?_
    intro T25 h25 X25 qq25
    rw [show h25 = h9 from qq25] at X25
    refine own_istore X25 (pc' := 90) (Ls' := #[.val (.long x0), .second, .val (.int ss), .val (.ref ad1), .val (.int (7 : Int32)), .val (.int (own_sq (own_L (c7 &&& (255 : Int32))) (own_lo (c7 &&& (255 : Int32))) (own_hi (c7 &&& (255 : Int32))) []))]) at_88 rfl rfl ?_
    refine own_iload X25 (pc' := 92) at_90 rfl rfl ?_
    refine own_aloadN X25 (pc' := 93) at_92 rfl rfl rfl ?_
    refine own_iload X25 (pc' := 95) at_93 rfl rfl ?_
    refine own_callS X25 (W := 1) (argsL := [(.ref ad1), (.int (7 : Int32))]) (rest := [(.int (own_sq (own_L (c7 &&& (255 : Int32))) (own_lo (c7 &&& (255 : Int32))) (own_hi (c7 &&& (255 : Int32))) []))]) (S' := [(.int (own_ex (own_L (c7 &&& (255 : Int32))) (c7 &&& (255 : Int32)) [])), (.int (own_sq (own_L (c7 &&& (255 : Int32))) (own_lo (c7 &&& (255 : Int32))) (own_hi (c7 &&& (255 : Int32))) []))]) (pc' := 98) (rm2_7 l Z a0 hw n0 ad1 h9 X25.size c0 c1 c2 c3 c4 c5 c6 c7 A9) (hw _ (List.mem_of_getElem? (i := 5) rfl)) (hw _ (List.mem_of_getElem? (i := 6) rfl)) (hw _ (List.mem_of_getElem? (i := 7) rfl)) (hw _ (List.mem_of_getElem? (i := 8) rfl)) (by decide) (by decide) (by decide) rfl rfl (by decide) (by decide) (lenOf pd_0 rfl) rfl (by first | decide | exact Nat.le_of_eq rfl) rfl at_95 rfl rfl ?_
    intro T26 h26 X26 qq26
    rw [show h26 = h9 from qq26] at X26
    refine own_icmp_ne X26 (pct := 105) (pc' := 101) at_98 rfl (by decide) (by decide) (fun hc => absurd hc (fun q => q (own_q1 _ _ own_fn))) (fun _ => ?_)
    refine own_iconst X26 (v := (1 : Int32)) (pc' := 102) at_101 rfl (by decide) ?_
    refine own_goto X26 (pc' := 106) at_102 (by decide) (by decide) ?_
    subst hΦ
    exact own_retZ X26 at_106 (by decide) (by decide) (by decide) rfl trivial
set_option maxRecDepth 65536 in
set_option maxHeartbeats 4000000 in
theorem comes_1 {Post : Tables → Env → Array Value → State → Outcome → State → Prop} (hpost : ∀ tb e args s v u, (limb_1_1.after args s (.returned v) u = true ∧ limb_1_2.after args s (.returned v) u = true ∧ True) → FrameEnd s (.returned v) u (Jvm.fieldLocs frame_1_writes args s ++ Jvm.arrayLocs frame_1_arrays args s ++ Jvm.staticLocs frame_1_statics s) 16 128 → Post tb e args s (.returned v) u) :
    ArmFor flags0 classFile x code maxLocals ret World_1 tables_1 room_1 Calls_1 rest_1 Pre_1 Post := by
  intro l hfl _ _ p e ha hc hk s m args below hf hA hF happ hP
  obtain ⟨hcalls, hrest, hpre⟩ := hP
  obtain ⟨-, -, -, hnamed, -, -, -, hat⟩ := (Spec.applies_iff hf).mp happ
  obtain ⟨hg, hn⟩ := and_e (Cond.before_iff.mp (show (Jvm.Cond.and given_1 narrow_1).before args s = true from hpre))
  obtain ⟨hcnt, r0⟩ := and_e hg
  obtain ⟨k0, r1⟩ := and_e r0
  obtain ⟨w0, w1, rfl⟩ : ∃ w0 w1 : Value, args = #[w0, w1] := by
    have hs : args.size = 2 := by simpa [Cond.value, given_1] using hcnt
    obtain ⟨L⟩ := args
    match L, hs with
    | [w0, w1], _ => exact ⟨w0, w1, rfl⟩
  have hw := fun d (hd : d ∈ tables_1) => atoms_spec (ws := Jvm.Cond.code x code maxLocals ret :: tables_1) hat d (List.mem_cons_of_mem _ hd)
  obtain ⟨i0, ei0⟩ := isL_v k0
  obtain rfl : w0 = (.long i0) := Option.some.inj ei0
  obtain ⟨i1, ei1⟩ := is_v r1
  obtain rfl : w1 = (.int i1) := Option.some.inj ei1
  obtain ⟨n, o, h1, h2, h3, _, L, rfl, ⟨⟨rfl, -⟩, N⟩, hq⟩ := rm0 l s _ hw s.heap.size i0 i1 s.heap (Nat.le_refl _) tables_1 p e ha hc hk s m _ below hf ((Spec.applies_iff_loose hf).mp happ).1 ⟨rfl, State.Warmed39.refl s, rfl⟩ trivial
  refine ⟨n, _, h1, h2, h3, hpost _ _ _ _ _ _ ⟨Cond.after_iff.mpr rfl, Cond.after_iff.mpr (eq_i res_at (Term.int_eval (1)) rfl), trivial⟩ ⟨hq.1, hq.2.1, (hq.2.2.sift fun y hy => Or.inr (N y hy)).mono (by decide) (by decide)⟩⟩
theorem main_1_1 : Claimed_1_1 := comes_1 fun _ _ _ _ _ _ h hF => ⟨h.1, hF⟩
theorem main_1_2 : Claimed_1_2 := comes_1 fun _ _ _ _ _ _ h hF => ⟨h.2.1, hF⟩
end Jvm.Pilot.@@N@@
namespace Jvm.Pilot.@@N@@
open Jvm Jvm.ClassFile Sem Op Lib Jvm.Free Jvm.Stand Jvm.Pilot.@@N@@.Jvm.D
/-! MADE BY PROGRAM (witnessworld.py) out of the Statement's table words and the real class files: 9 classes; the members and pool entries that the words name. The judged class is class 1, her method 1. -/
namespace start1
open Jvm.ClassFile
def u (s : String) : CpInfo := .utf8 (stringToUtf16 s)
/-- a pool by its gaps: so many unusable entries, then the entry; so many at the end -/
def gap : Nat → List CpInfo → List CpInfo
  | 0, r => r
  | n + 1, r => .unusable :: gap n r
def poolList (es : List (Nat × CpInfo)) (last : Nat) : List CpInfo := es.foldr (fun e r => gap e.1 (e.2 :: r)) (gap last [])
def pool (es : List (Nat × CpInfo)) (last : Nat) : Array CpInfo := ⟨poolList es last⟩
def fileOf (pool : Array CpInfo) (this : Nat) (attrs : Array Attribute := #[]) (ms : Array MethodInfo := #[]) (fl : Nat := 33) (sup : Nat := 0) (ifs : Array Nat := #[]) (fds : Array FieldInfo := #[]) : ClassFile where
  minorVersion := 0
  majorVersion := 65
  constantPool := pool
  accessFlags := fl
  thisClass := this
  superClass := sup
  interfaces := ifs
  fields := fds
  methods := ms
  attributes := attrs
def plain (name : String) (sup : Option ClassId) : Class where
  name := name
  kind := .ordinary
  loader := none
  accessFlags := 33
  super := sup
  interfaces := #[]
  cf := none
  fields := #[]
  methods := #[]
  instanceTypes := #[]
  staticTypes := #[]
  resolved := #[]
  callSites := []
  init := .initialized
  statics := none
  mirror := none

def pool0 : Array CpInfo := pool [(5, u "<init>"), (0, u "()V"), (1, .class_ 10), (1, u "java/lang/Object")] 113

def k0m0 : Method := { name := "<init>", desc := "()V", sig := { parameters := [], returnType := none }, accessFlags := 1, code := none }
/-- java/lang/Object -/
def k0 : Class := { plain "java/lang/Object" none with
  accessFlags := 33
  interfaces := #[]
  cf := some (fileOf pool0 8 #[] #[{ accessFlags := 1, nameIndex := 5, descriptorIndex := 6, attributes := #[] }] 33 0 #[] #[])
  fields := #[]
  methods := #[k0m0]
  instanceTypes := #[]
  staticTypes := #[]
  resolved := Array.replicate 124 none
  statics := none }

def pool1 : Array CpInfo := pool [(2, .class_ 4), (1, u "java/lang/Object"), (0, u "<init>"), (0, u "()V"), (0, .methodref 8 9), (0, .class_ 10), (0, .nameAndType 11 12), (0, u "com/example/quern/quern/text/TextBytes"), (0, u "sequenceLength"), (0, u "([BI)I"), (0, .methodref 14 15), (0, .class_ 16), (0, .nameAndType 17 12), (0, u "com/example/quern/quern/text/TextBytesSequenceLengthPinLaw"), (0, u "expected"), (0, .methodref 14 19), (0, .nameAndType 20 12), (0, u "at"), (0, .methodref 14 22), (0, .nameAndType 23 24), (0, u "need"), (0, u "(I)I"), (0, .methodref 14 26), (0, .nameAndType 27 28), (0, u "secondFits"), (0, u "(II)Z"), (0, .methodref 14 30), (0, .nameAndType 31 32), (0, u "cont"), (0, u "(I)Z"), (2, u "law"), (0, u "(JI)Z")] 5

def k1m0 : Method := { name := "<init>", desc := "()V", sig := { parameters := [], returnType := none }, accessFlags := 1, code := none }
def k1c1 : Code := { maxStack := 5, maxLocals := 6, code := code, exceptionTable := #[], attributes := #[] }
def k1m1 : Method := { name := "law", desc := "(JI)Z", sig := { parameters := [.long, .int], returnType := some .boolean }, accessFlags := 9, code := some k1c1 }
def k1c2 : Code := { maxStack := 2, maxLocals := 2, code := method_3_code, exceptionTable := #[], attributes := #[] }
def k1m2 : Method := { name := "at", desc := "([BI)I", sig := { parameters := [(.array .byte), .int], returnType := some .int }, accessFlags := 10, code := some k1c2 }
def k1c3 : Code := { maxStack := 2, maxLocals := 1, code := method_4_code, exceptionTable := #[], attributes := #[] }
def k1m3 : Method := { name := "need", desc := "(I)I", sig := { parameters := [.int], returnType := some .int }, accessFlags := 10, code := some k1c3 }
def k1c4 : Code := { maxStack := 2, maxLocals := 2, code := method_5_code, exceptionTable := #[], attributes := #[] }
def k1m4 : Method := { name := "secondFits", desc := "(II)Z", sig := { parameters := [.int, .int], returnType := some .boolean }, accessFlags := 10, code := some k1c4 }
def k1c5 : Code := { maxStack := 2, maxLocals := 1, code := method_6_code, exceptionTable := #[], attributes := #[] }
def k1m5 : Method := { name := "cont", desc := "(I)Z", sig := { parameters := [.int], returnType := some .boolean }, accessFlags := 10, code := some k1c5 }
def k1c6 : Code := { maxStack := 4, maxLocals := 6, code := method_7_code, exceptionTable := #[], attributes := #[] }
def k1m6 : Method := { name := "expected", desc := "([BI)I", sig := { parameters := [(.array .byte), .int], returnType := some .int }, accessFlags := 10, code := some k1c6 }
/-- com/example/quern/quern/text/TextBytesSequenceLengthPinLaw -/
def k1 : Class := { plain "com/example/quern/quern/text/TextBytesSequenceLengthPinLaw" (some 0) with
  accessFlags := 49
  interfaces := #[]
  cf := some (fileOf pool1 14 #[] #[{ accessFlags := 1, nameIndex := 5, descriptorIndex := 6, attributes := #[] }, { accessFlags := 9, nameIndex := 35, descriptorIndex := 36, attributes := #[] }, { accessFlags := 10, nameIndex := 20, descriptorIndex := 12, attributes := #[] }, { accessFlags := 10, nameIndex := 23, descriptorIndex := 24, attributes := #[] }, { accessFlags := 10, nameIndex := 27, descriptorIndex := 28, attributes := #[] }, { accessFlags := 10, nameIndex := 31, descriptorIndex := 32, attributes := #[] }, { accessFlags := 10, nameIndex := 17, descriptorIndex := 12, attributes := #[] }] 49 2 #[] #[])
  fields := #[]
  methods := #[k1m0, k1m1, k1m2, k1m3, k1m4, k1m5, k1m6]
  instanceTypes := #[]
  staticTypes := #[]
  resolved := Array.replicate 42 none
  statics := none }

def pool2 : Array CpInfo := pool [(2, .class_ 4), (1, u "java/lang/Object"), (3, .class_ 10), (1, u "com/example/quern/quern/text/TextBytes"), (0, u "bytes"), (0, u "[B"), (13, u "text"), (0, u "Ljava/lang/String;"), (15, u "walkedCharacters"), (0, u "I"), (2, u "walkedBytes"), (2, u "sequenceLength"), (0, u "([BI)I")] 31

def k2c0 : Code := { maxStack := 3, maxLocals := 9, code := prog_310_method_5_code, exceptionTable := #[], attributes := #[] }
def k2m0 : Method := { name := "sequenceLength", desc := "([BI)I", sig := { parameters := [(.array .byte), .int], returnType := some .int }, accessFlags := 8, code := some k2c0 }
/-- com/example/quern/quern/text/TextBytes -/
def k2 : Class := { plain "com/example/quern/quern/text/TextBytes" (some 0) with
  accessFlags := 49
  interfaces := #[]
  cf := some (fileOf pool2 8 #[] #[{ accessFlags := 8, nameIndex := 50, descriptorIndex := 51, attributes := #[] }] 49 2 #[] #[{ accessFlags := 18, nameIndex := 11, descriptorIndex := 12, attributes := #[] }, { accessFlags := 18, nameIndex := 26, descriptorIndex := 27, attributes := #[] }, { accessFlags := 2, nameIndex := 43, descriptorIndex := 44, attributes := #[] }, { accessFlags := 2, nameIndex := 47, descriptorIndex := 44, attributes := #[] }])
  fields := #[{ name := "bytes", type := (.array .byte), accessFlags := 18, slot := 0, constantValue := 0 }, { name := "text", type := (.object "java/lang/String"), accessFlags := 18, slot := 1, constantValue := 0 }, { name := "walkedCharacters", type := .int, accessFlags := 2, slot := 2, constantValue := 0 }, { name := "walkedBytes", type := .int, accessFlags := 2, slot := 3, constantValue := 0 }]
  methods := #[k2m0]
  instanceTypes := #[(.array .byte), (.object "java/lang/String"), .int, .int]
  staticTypes := #[]
  resolved := Array.replicate 83 none
  statics := none }

def pool3 : Array CpInfo := pool [(1, u "java/lang/Cloneable"), (0, .class_ 1), (0, u "java/lang/Object"), (0, .class_ 3)] 3

/-- java/lang/Cloneable -/
def k3 : Class := { plain "java/lang/Cloneable" (some 0) with
  accessFlags := 1537
  interfaces := #[]
  cf := some (fileOf pool3 2 #[] #[] 1537 4 #[] #[])
  fields := #[]
  methods := #[]
  instanceTypes := #[]
  staticTypes := #[]
  resolved := Array.replicate 8 none
  statics := none }

def pool4 : Array CpInfo := pool [(1, u "java/io/Serializable"), (0, .class_ 1), (0, u "java/lang/Object"), (0, .class_ 3)] 3

/-- java/io/Serializable -/
def k4 : Class := { plain "java/io/Serializable" (some 0) with
  accessFlags := 1537
  interfaces := #[]
  cf := some (fileOf pool4 2 #[] #[] 1537 4 #[] #[])
  fields := #[]
  methods := #[]
  instanceTypes := #[]
  staticTypes := #[]
  resolved := Array.replicate 8 none
  statics := none }

/-- the primitive byte -/
def k5 : Class := { plain "byte" none with kind := .primitive 'B', accessFlags := 0x411 }
/-- [B -/
def k6 : Class := { plain "[B" (some 0) with kind := .array 5 .byte, interfaces := #[3, 4], accessFlags := 1041 }

/-- the primitive int -/
def k7 : Class := { plain "int" none with kind := .primitive 'I', accessFlags := 0x411 }
/-- [I -/
def k8 : Class := { plain "[I" (some 0) with kind := .array 7 .int, interfaces := #[3, 4], accessFlags := 1041 }

def heap : Heap := #[]
def classes : Array Class := #[k0, k1, k2, k3, k4, k5, k6, k7, k8]
def interned : List (Array UInt16 × Addr) := []
def slotsUsed : Nat := 0
def theMethod : MethodId := ⟨1, 1⟩
def args0 : Array Value := #[.long 7, .int 1]
def aboutOver (below : List Frame) : State where
  vm := { classes := classes, interned := interned.toArray }
  heap := heap
  slotsUsed := slotsUsed
  threads := #[{ frames := .invoking theMethod args0 :: below }]
def below0 : List Frame := [.native { method := ⟨0, 0⟩, args := #[] }]
def about1 : State := aboutOver below0
def p0 : Program := .bare "" "" ""
def e0 : Env := launch0.env 0 0 0
theorem w_frames : about1.frames = Frame.invoking theMethod args0 :: below0 := rfl
set_option maxRecDepth 65536 in
theorem w_args : argsFit about1.vm theMethod args0 = true := by decide +kernel
set_option maxRecDepth 65536 in
theorem w_heap : heapFits about1 = true := by decide +kernel
set_option maxRecDepth 65536 in
theorem w_runnable : about1.curStatus? = some .runnable := by decide +kernel
set_option maxRecDepth 65536 in
theorem w_alone : about1.alone = true := by decide +kernel
set_option maxRecDepth 65536 in
theorem w_named : about1.methodNamed? x = some theMethod := by decide +kernel
set_option maxRecDepth 65536 in
theorem w_hears : about1.hears theMethod below0 = true := by decide +kernel
set_option maxRecDepth 65536 in
theorem w_ripe : about1.ripe theMethod args0 below0 = true := by decide +kernel
theorem w_running : about1.status = .running := rfl
set_option maxRecDepth 65536 in
theorem w_room : about1.hasRoom e0.platform room_1 = true :=
  launch0.hasRoom_least _ room_1 (by decide +kernel) (by decide +kernel) (by decide +kernel) (by decide +kernel) (by decide +kernel) (by decide +kernel)
theorem allAtoms_all (ts : List Jvm.Cond) (a : Array Jvm.Value) (st : Jvm.State) : (allAtoms ts).before a st = ts.all (fun c => c.before a st) := by
  induction ts with
  | nil => rfl
  | cons c t ih =>
    show (Jvm.Cond.and c (allAtoms t)).before a st = _
    rw [Jvm.Cond.before_and, ih, List.all_cons]
def words1 : List Jvm.Cond := Jvm.Cond.code x code maxLocals ret :: tables_1
/-- a 'code' word, met by the world's own term for the bytes: nothing is compared byte by byte -/
theorem code_word {y : MethodName} {bytes : ByteArray} {mx : Nat} {rt : Option FieldType} {a : Array Value} {s : State} {m : MethodId} {meth : Method} {c : Code} (h1 : s.methodNamed? y = some m) (h2 : s.vm.method? m = some meth) (h3 : meth.code = some c) (h4 : c.code = bytes)
    (h5 : (c.maxLocals == mx && c.exceptionTable.isEmpty && decide (c.maxStack ≤ mostOperands) && decide (meth.sig.returnType = rt) && !meth.locks && decide (parseMethodDescriptor y.desc = some meth.sig)) = true) : (Jvm.Cond.code y bytes mx rt).before a s = true := by
  simp only [Bool.and_eq_true, beq_iff_eq, Bool.not_eq_true', decide_eq_true_eq] at h5
  obtain ⟨⟨⟨⟨⟨g1, g2⟩, g3⟩, g4⟩, g5⟩, g6⟩ := h5
  simp [Cond.before, Cond.holds, Cond.value, h1, h2, h3, h4, g1, g2, g3, g4, g5, g6]
def isCode : Jvm.Cond → Bool
  | .code _ _ _ _ => true
  | _ => false
theorem all_split {L : List Jvm.Cond} {P : Jvm.Cond → Bool} (h1 : L.all (fun c => isCode c || P c) = true) (h2 : ∀ c ∈ L.filter isCode, P c = true) : L.all P = true := by
  refine List.all_eq_true.mpr fun c hc => ?_
  have h := List.all_eq_true.mp h1 c hc
  rcases Bool.eq_false_or_eq_true (isCode c) with hi | hi
  · exact h2 c (List.mem_filter.mpr ⟨hc, hi⟩)
  · simpa [hi] using h
set_option maxRecDepth 65536 in
theorem w_c0 : (Jvm.Cond.code x code maxLocals ret).before args0 about1 = true := code_word (m := ⟨1, 1⟩) (meth := k1m1) (c := k1c1) (by decide +kernel) rfl rfl rfl (by decide +kernel)
set_option maxRecDepth 65536 in
theorem w_c1 : (Jvm.Cond.code ({ cls := "com/example/quern/quern/text/TextBytes", name := "sequenceLength", desc := "([BI)I" } : Jvm.MethodName) prog_310_method_5_code (9 : Nat) (Option.some Jvm.ClassFile.FieldType.int)).before args0 about1 = true := code_word (m := ⟨2, 0⟩) (meth := k2m0) (c := k2c0) (by decide +kernel) rfl rfl rfl (by decide +kernel)
set_option maxRecDepth 65536 in
theorem w_c2 : (Jvm.Cond.code ({ cls := "com/example/quern/quern/text/TextBytesSequenceLengthPinLaw", name := "expected", desc := "([BI)I" } : Jvm.MethodName) method_7_code (6 : Nat) (Option.some Jvm.ClassFile.FieldType.int)).before args0 about1 = true := code_word (m := ⟨1, 6⟩) (meth := k1m6) (c := k1c6) (by decide +kernel) rfl rfl rfl (by decide +kernel)
set_option maxRecDepth 65536 in
theorem w_c3 : (Jvm.Cond.code ({ cls := "com/example/quern/quern/text/TextBytesSequenceLengthPinLaw", name := "at", desc := "([BI)I" } : Jvm.MethodName) method_3_code (2 : Nat) (Option.some Jvm.ClassFile.FieldType.int)).before args0 about1 = true := code_word (m := ⟨1, 2⟩) (meth := k1m2) (c := k1c2) (by decide +kernel) rfl rfl rfl (by decide +kernel)
set_option maxRecDepth 65536 in
theorem w_c4 : (Jvm.Cond.code ({ cls := "com/example/quern/quern/text/TextBytesSequenceLengthPinLaw", name := "need", desc := "(I)I" } : Jvm.MethodName) method_4_code (1 : Nat) (Option.some Jvm.ClassFile.FieldType.int)).before args0 about1 = true := code_word (m := ⟨1, 3⟩) (meth := k1m3) (c := k1c3) (by decide +kernel) rfl rfl rfl (by decide +kernel)
set_option maxRecDepth 65536 in
theorem w_c5 : (Jvm.Cond.code ({ cls := "com/example/quern/quern/text/TextBytesSequenceLengthPinLaw", name := "secondFits", desc := "(II)Z" } : Jvm.MethodName) method_5_code (2 : Nat) (Option.some Jvm.ClassFile.FieldType.boolean)).before args0 about1 = true := code_word (m := ⟨1, 4⟩) (meth := k1m4) (c := k1c4) (by decide +kernel) rfl rfl rfl (by decide +kernel)
set_option maxRecDepth 65536 in
theorem w_c6 : (Jvm.Cond.code ({ cls := "com/example/quern/quern/text/TextBytesSequenceLengthPinLaw", name := "cont", desc := "(I)Z" } : Jvm.MethodName) method_6_code (1 : Nat) (Option.some Jvm.ClassFile.FieldType.boolean)).before args0 about1 = true := code_word (m := ⟨1, 5⟩) (meth := k1m5) (c := k1c5) (by decide +kernel) rfl rfl rfl (by decide +kernel)
def codes1 : List Jvm.Cond := [Jvm.Cond.code x code maxLocals ret, Jvm.Cond.code ({ cls := "com/example/quern/quern/text/TextBytes", name := "sequenceLength", desc := "([BI)I" } : Jvm.MethodName) prog_310_method_5_code (9 : Nat) (Option.some Jvm.ClassFile.FieldType.int), Jvm.Cond.code ({ cls := "com/example/quern/quern/text/TextBytesSequenceLengthPinLaw", name := "expected", desc := "([BI)I" } : Jvm.MethodName) method_7_code (6 : Nat) (Option.some Jvm.ClassFile.FieldType.int), Jvm.Cond.code ({ cls := "com/example/quern/quern/text/TextBytesSequenceLengthPinLaw", name := "at", desc := "([BI)I" } : Jvm.MethodName) method_3_code (2 : Nat) (Option.some Jvm.ClassFile.FieldType.int), Jvm.Cond.code ({ cls := "com/example/quern/quern/text/TextBytesSequenceLengthPinLaw", name := "need", desc := "(I)I" } : Jvm.MethodName) method_4_code (1 : Nat) (Option.some Jvm.ClassFile.FieldType.int), Jvm.Cond.code ({ cls := "com/example/quern/quern/text/TextBytesSequenceLengthPinLaw", name := "secondFits", desc := "(II)Z" } : Jvm.MethodName) method_5_code (2 : Nat) (Option.some Jvm.ClassFile.FieldType.boolean), Jvm.Cond.code ({ cls := "com/example/quern/quern/text/TextBytesSequenceLengthPinLaw", name := "cont", desc := "(I)Z" } : Jvm.MethodName) method_6_code (1 : Nat) (Option.some Jvm.ClassFile.FieldType.boolean)]
set_option maxRecDepth 65536 in
theorem codes_eq : words1.filter isCode = codes1 := rfl
theorem w_codes : ∀ c ∈ words1.filter isCode, c.before args0 about1 = true := by
  rw [codes_eq]
  intro c hc
  simp only [codes1, List.mem_cons, List.not_mem_nil, or_false] at hc
  rcases hc with rfl | rfl | rfl | rfl | rfl | rfl | rfl
  · exact w_c0
  · exact w_c1
  · exact w_c2
  · exact w_c3
  · exact w_c4
  · exact w_c5
  · exact w_c6
set_option maxRecDepth 65536 in
theorem w_t1 : words1.all (fun c => isCode c || c.before args0 about1) = true := by decide +kernel
theorem w_tables : (allAtoms (Jvm.Cond.code x code maxLocals ret :: tables_1)).before args0 about1 = true := by
  rw [allAtoms_all]
  show words1.all (fun c => c.before args0 about1) = true
  refine all_split ?_ w_codes
  rw [w_t1]
set_option maxRecDepth 65536 in
theorem w_case : (Jvm.Cond.and given_1 narrow_1).before args0 about1 = true := by decide +kernel
theorem w_applies : (headSpec (Jvm.Cond.code x code maxLocals ret :: tables_1) room_1).applies x e0.platform about1 = true :=
  (Spec.applies_iff w_frames).mpr ⟨w_running, w_runnable, w_alone, w_named, w_hears, w_ripe, w_room, w_tables⟩
theorem atStart : AtStart classFile x code maxLocals ret World_1 tables_1 room_1 Calls_1 rest_1 Pre_1 launch0 p0 e0 about1 theMethod args0 below0 :=
  ⟨lists_1, trivial, launch0.admits_env _ _ _, launch0.least_env, fairChoices_fair.cas, fairChoices_fair.clock, w_frames, w_args, w_heap, w_applies, trivial, trivial, w_case⟩
end start1
theorem witness_1 : WitnessClaimed_1 := ⟨start1.p0, start1.e0, start1.about1, start1.theMethod, start1.args0, start1.below0, start1.atStart⟩
end Jvm.Pilot.@@N@@
