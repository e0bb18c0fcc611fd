import JvmDerived
import JvmDerived.Pilot.@@N@@Statement
import JvmDerived.Pilot.@@N@@Code
set_option linter.unusedVariables false
set_option linter.unusedSimpArgs false
namespace Jvm.Pilot.@@N@@
open Jvm Jvm.ClassFile Sem Op Lib Jvm.Free Jvm.Stand Jvm.LawKit Jvm.RoadKit Bundle Jvm.Pilot.@@N@@.Jvm.D
section OwnKit
def own_G (p : Program) (e : Env) (below : List Frame) (Φ : State → Outcome → Prop) (T : State) (f : JFrame) : Prop := ∃ s₂ o, Steps p.tables e below (T.setTop f) s₂ ∧ Φ s₂ o
def own_S (Z : State) (n0 : Nat) (bytes : ByteArray) (y : MethodName) (ml : Nat) (ret : Option FieldType) (p : Program) (l : Launch) (e : Env) (R : Room) (s : State) (m : MethodId) (args : Array Value) (below : List Frame) (meth : Method) (c : Code) (T : State) (k sl : Nat) (h : Heap) : Prop :=
  (∃ locs, Stand p l e R s m args below meth c T locs k sl ∧ Fr n0 locs) ∧ T.heap = h ∧ n0 ≤ s.heap.size ∧ p.tables.exec = Jvm.exec ∧ Z.Warmed39 s.vm ∧ c.code = bytes ∧ c.maxLocals = ml ∧ s.vm.findClass y.cls = some m.cls ∧ meth.name = y.name ∧ meth.sig.returnType = ret ∧ meth.locks = false
def own_Q (n0 : Nat) (below : List Frame) (s : State) (R : Room) (w : Option Value) (Θ : Heap → Prop) : State → Outcome → Prop := fun s₂ o => s₂.status = .running ∧ Ended s₂ below o ∧ ∃ v L, o = .returned v ∧ ((v = w ∧ Θ s₂.heap) ∧ Fr n0 L) ∧ FrameEnd s o s₂ L R.cells R.slots
def own_Met (l : Launch) (y : MethodName) (bytes : ByteArray) (ml : Nat) (ret : Option FieldType) (rm : Room) (Z : State) (n0 : Nat) (as : Array Value) (h0 : Heap) (w : Option Value) (Θ : Heap → Prop) : Prop :=
  ∀ ws, MetFree l y (head1 (Jvm.Cond.code y bytes ml ret :: ws) rm) (fun a U => a = as ∧ Z.Warmed39 U.vm ∧ U.heap = h0) (fun _ _ _ _ _ => True) (fun _ U o U' => ∃ v L, o = .returned v ∧ ((v = w ∧ Θ U'.heap) ∧ Fr n0 L) ∧ FrameEnd U o U' L rm.cells rm.slots)
theorem own_met {l : Launch} {y : MethodName} {bytes : ByteArray} {ml : Nat} {ret : Option FieldType} {rm : Room} {Z : State} {n0 : Nat} {as : Array Value} {h0 : Heap} {w : Option Value} {Θ : Heap → Prop} (hp : plainFor y = true) (hn0 : n0 ≤ h0.size)
    (body : ∀ p e s m below meth c T, own_S Z n0 bytes y ml ret p l e rm s m as below meth c T 0 0 h0 → own_G p e below (own_Q n0 below s rm w Θ) T (entryFrame m as ml)) : own_Met l y bytes ml ret rm Z n0 as h0 w Θ := by
  intro ws
  refine MetFree.of_bodySF hp hisR ?_
  intro p e s m args below meth c s₁ Bd hml0 hP hK
  obtain ⟨rfl, hZ, hh⟩ := hP
  obtain ⟨s₂, o, st, h1, h2, h3⟩ := body p e s m below meth c s₁ ⟨⟨[], Stand.of_body Bd, Fr.nil n0⟩, by rw [← hh, Bd.state]; rfl, by rw [hh]; exact hn0, Bd.exec, hZ, Bd.bytes, hml0, findClass_of_methodNamed Bd.named, (name_of_methodNamed Bd.named Bd.method).1, Bd.returns, BodyLoose.notSynchronized Bd⟩
  exact ⟨s₂, o, st, h1, h2, h3⟩
variable {Z : State} {n0 : Nat} {bytes : ByteArray} {y : MethodName} {ml : Nat} {ret : Option FieldType} {p : Program} {l : Launch} {e : Env} {R : Room} {s : State} {m : MethodId} {args : Array Value} {below : List Frame} {meth : Method} {c : Code} {T : State} {k sl : Nat} {h : Heap} {Φ : State → Outcome → Prop} {pc pc' : Nat} {Ls Ls' : Array Slot} {S : List Value} {a0 : Array Value}
theorem own_cast {f f' : JFrame} (q : f = f') (K : own_G p e below Φ T f') : own_G p e below Φ T f := q ▸ K
theorem own_by {T T' : State} {f f' : JFrame} (K : own_G p e below Φ T' f') (st : ∀ t, Steps p.tables e below (T'.setTop f') t → Steps p.tables e below (T.setTop f) t) : own_G p e below Φ T f := by
  obtain ⟨s₂, o, q, r⟩ := K
  exact ⟨s₂, o, st _ q, r⟩
theorem own_S.size (X : own_S Z n0 bytes y ml ret p l e R s m args below meth c T k sl h) : n0 ≤ h.size := by
  obtain ⟨⟨locs, Y, N⟩, hh, hn, hx, hZ, hby, hml, hown, hnm, hret, hlk⟩ := X
  subst hh
  exact Nat.le_trans hn Y.same.2.1
theorem own_iadd (X : own_S Z n0 bytes y ml ret p l e R s m args below meth c T k sl h) {a b r : Int32} (hd : decode bytes pc = .ok (.iadd, 1)) (hpc : pc + 1 = pc') (hr : a + b = r) (K : own_G p e below Φ T (mkF m pc' Ls (.int r :: S))) : own_G p e below Φ T (mkF m pc Ls (.int b :: .int a :: S)) := by
  obtain ⟨⟨locs, Y, N⟩, hh, hn, hx, hZ, hby, hml, hown, hnm, hret, hlk⟩ := X
  subst hpc
  exact own_by K fun t kk => XS.iadd Y.here hx rfl (hb hby hd) rfl (hr ▸ kk)
theorem own_ladd (X : own_S Z n0 bytes y ml ret p l e R s m args below meth c T k sl h) {a b r : Int64} (hd : decode bytes pc = .ok (.ladd, 1)) (hpc : pc + 1 = pc') (hr : a + b = r) (K : own_G p e below Φ T (mkF m pc' Ls (.long r :: S))) : own_G p e below Φ T (mkF m pc Ls (.long b :: .long a :: S)) := by
  obtain ⟨⟨locs, Y, N⟩, hh, hn, hx, hZ, hby, hml, hown, hnm, hret, hlk⟩ := X
  subst hpc
  exact own_by K fun t kk => XS.ladd Y.here hx rfl (hb hby hd) rfl (hr ▸ kk)
theorem own_isub (X : own_S Z n0 bytes y ml ret p l e R s m args below meth c T k sl h) {a b r : Int32} (hd : decode bytes pc = .ok (.isub, 1)) (hpc : pc + 1 = pc') (hr : a - b = r) (K : own_G p e below Φ T (mkF m pc' Ls (.int r :: S))) : own_G p e below Φ T (mkF m pc Ls (.int b :: .int a :: S)) := by
  obtain ⟨⟨locs, Y, N⟩, hh, hn, hx, hZ, hby, hml, hown, hnm, hret, hlk⟩ := X
  subst hpc
  exact own_by K fun t kk => XS.isub Y.here hx rfl (hb hby hd) rfl (hr ▸ kk)
theorem own_lsub (X : own_S Z n0 bytes y ml ret p l e R s m args below meth c T k sl h) {a b r : Int64} (hd : decode bytes pc = .ok (.lsub, 1)) (hpc : pc + 1 = pc') (hr : a - b = r) (K : own_G p e below Φ T (mkF m pc' Ls (.long r :: S))) : own_G p e below Φ T (mkF m pc Ls (.long b :: .long a :: S)) := by
  obtain ⟨⟨locs, Y, N⟩, hh, hn, hx, hZ, hby, hml, hown, hnm, hret, hlk⟩ := X
  subst hpc
  exact own_by K fun t kk => XS.lsub Y.here hx rfl (hb hby hd) rfl (hr ▸ kk)
theorem own_imul (X : own_S Z n0 bytes y ml ret p l e R s m args below meth c T k sl h) {a b r : Int32} (hd : decode bytes pc = .ok (.imul, 1)) (hpc : pc + 1 = pc') (hr : a * b = r) (K : own_G p e below Φ T (mkF m pc' Ls (.int r :: S))) : own_G p e below Φ T (mkF m pc Ls (.int b :: .int a :: S)) := by
  obtain ⟨⟨locs, Y, N⟩, hh, hn, hx, hZ, hby, hml, hown, hnm, hret, hlk⟩ := X
  subst hpc
  exact own_by K fun t kk => XS.imul Y.here hx rfl (hb hby hd) rfl (hr ▸ kk)
theorem own_lmul (X : own_S Z n0 bytes y ml ret p l e R s m args below meth c T k sl h) {a b r : Int64} (hd : decode bytes pc = .ok (.lmul, 1)) (hpc : pc + 1 = pc') (hr : a * b = r) (K : own_G p e below Φ T (mkF m pc' Ls (.long r :: S))) : own_G p e below Φ T (mkF m pc Ls (.long b :: .long a :: S)) := by
  obtain ⟨⟨locs, Y, N⟩, hh, hn, hx, hZ, hby, hml, hown, hnm, hret, hlk⟩ := X
  subst hpc
  exact own_by K fun t kk => XS.lmul Y.here hx rfl (hb hby hd) rfl (hr ▸ kk)
theorem own_iand (X : own_S Z n0 bytes y ml ret p l e R s m args below meth c T k sl h) {a b r : Int32} (hd : decode bytes pc = .ok (.iand, 1)) (hpc : pc + 1 = pc') (hr : a &&& b = r) (K : own_G p e below Φ T (mkF m pc' Ls (.int r :: S))) : own_G p e below Φ T (mkF m pc Ls (.int b :: .int a :: S)) := by
  obtain ⟨⟨locs, Y, N⟩, hh, hn, hx, hZ, hby, hml, hown, hnm, hret, hlk⟩ := X
  subst hpc
  exact own_by K fun t kk => XS.iand Y.here hx rfl (hb hby hd) rfl (hr ▸ kk)
theorem own_land (X : own_S Z n0 bytes y ml ret p l e R s m args below meth c T k sl h) {a b r : Int64} (hd : decode bytes pc = .ok (.land, 1)) (hpc : pc + 1 = pc') (hr : a &&& b = r) (K : own_G p e below Φ T (mkF m pc' Ls (.long r :: S))) : own_G p e below Φ T (mkF m pc Ls (.long b :: .long a :: S)) := by
  obtain ⟨⟨locs, Y, N⟩, hh, hn, hx, hZ, hby, hml, hown, hnm, hret, hlk⟩ := X
  subst hpc
  exact own_by K fun t kk => XS.land Y.here hx rfl (hb hby hd) rfl (hr ▸ kk)
theorem own_ior (X : own_S Z n0 bytes y ml ret p l e R s m args below meth c T k sl h) {a b r : Int32} (hd : decode bytes pc = .ok (.ior, 1)) (hpc : pc + 1 = pc') (hr : a ||| b = r) (K : own_G p e below Φ T (mkF m pc' Ls (.int r :: S))) : own_G p e below Φ T (mkF m pc Ls (.int b :: .int a :: S)) := by
  obtain ⟨⟨locs, Y, N⟩, hh, hn, hx, hZ, hby, hml, hown, hnm, hret, hlk⟩ := X
  subst hpc
  exact own_by K fun t kk => XS.ior Y.here hx rfl (hb hby hd) rfl (hr ▸ kk)
theorem own_lor (X : own_S Z n0 bytes y ml ret p l e R s m args below meth c T k sl h) {a b r : Int64} (hd : decode bytes pc = .ok (.lor, 1)) (hpc : pc + 1 = pc') (hr : a ||| b = r) (K : own_G p e below Φ T (mkF m pc' Ls (.long r :: S))) : own_G p e below Φ T (mkF m pc Ls (.long b :: .long a :: S)) := by
  obtain ⟨⟨locs, Y, N⟩, hh, hn, hx, hZ, hby, hml, hown, hnm, hret, hlk⟩ := X
  subst hpc
  exact own_by K fun t kk => XS.lor Y.here hx rfl (hb hby hd) rfl (hr ▸ kk)
theorem own_ixor (X : own_S Z n0 bytes y ml ret p l e R s m args below meth c T k sl h) {a b r : Int32} (hd : decode bytes pc = .ok (.ixor, 1)) (hpc : pc + 1 = pc') (hr : a ^^^ b = r) (K : own_G p e below Φ T (mkF m pc' Ls (.int r :: S))) : own_G p e below Φ T (mkF m pc Ls (.int b :: .int a :: S)) := by
  obtain ⟨⟨locs, Y, N⟩, hh, hn, hx, hZ, hby, hml, hown, hnm, hret, hlk⟩ := X
  subst hpc
  exact own_by K fun t kk => XS.ixor Y.here hx rfl (hb hby hd) rfl (hr ▸ kk)
theorem own_lxor (X : own_S Z n0 bytes y ml ret p l e R s m args below meth c T k sl h) {a b r : Int64} (hd : decode bytes pc = .ok (.lxor, 1)) (hpc : pc + 1 = pc') (hr : a ^^^ b = r) (K : own_G p e below Φ T (mkF m pc' Ls (.long r :: S))) : own_G p e below Φ T (mkF m pc Ls (.long b :: .long a :: S)) := by
  obtain ⟨⟨locs, Y, N⟩, hh, hn, hx, hZ, hby, hml, hown, hnm, hret, hlk⟩ := X
  subst hpc
  exact own_by K fun t kk => XS.lxor Y.here hx rfl (hb hby hd) rfl (hr ▸ kk)
theorem own_ishl (X : own_S Z n0 bytes y ml ret p l e R s m args below meth c T k sl h) {a r : Int32} {b : Int32} (hd : decode bytes pc = .ok (.ishl, 1)) (hpc : pc + 1 = pc') (hr : (a <<< (b &&& 31)) = r) (K : own_G p e below Φ T (mkF m pc' Ls (.int r :: S))) : own_G p e below Φ T (mkF m pc Ls (.int b :: .int a :: S)) := by
  obtain ⟨⟨locs, Y, N⟩, hh, hn, hx, hZ, hby, hml, hown, hnm, hret, hlk⟩ := X
  subst hpc
  exact own_by K fun t kk => XS.ishl Y.here hx rfl (hb hby hd) rfl (hr ▸ kk)
theorem own_ishr (X : own_S Z n0 bytes y ml ret p l e R s m args below meth c T k sl h) {a r : Int32} {b : Int32} (hd : decode bytes pc = .ok (.ishr, 1)) (hpc : pc + 1 = pc') (hr : (a >>> (b &&& 31)) = r) (K : own_G p e below Φ T (mkF m pc' Ls (.int r :: S))) : own_G p e below Φ T (mkF m pc Ls (.int b :: .int a :: S)) := by
  obtain ⟨⟨locs, Y, N⟩, hh, hn, hx, hZ, hby, hml, hown, hnm, hret, hlk⟩ := X
  subst hpc
  exact own_by K fun t kk => XS.ishr Y.here hx rfl (hb hby hd) rfl (hr ▸ kk)
theorem own_iushr (X : own_S Z n0 bytes y ml ret p l e R s m args below meth c T k sl h) {a r : Int32} {b : Int32} (hd : decode bytes pc = .ok (.iushr, 1)) (hpc : pc + 1 = pc') (hr : ((a.toUInt32 >>> (b &&& 31).toUInt32).toInt32) = r) (K : own_G p e below Φ T (mkF m pc' Ls (.int r :: S))) : own_G p e below Φ T (mkF m pc Ls (.int b :: .int a :: S)) := by
  obtain ⟨⟨locs, Y, N⟩, hh, hn, hx, hZ, hby, hml, hown, hnm, hret, hlk⟩ := X
  subst hpc
  exact own_by K fun t kk => XS.iushr Y.here hx rfl (hb hby hd) rfl (hr ▸ kk)
theorem own_lshl (X : own_S Z n0 bytes y ml ret p l e R s m args below meth c T k sl h) {a r : Int64} {b : Int32} (hd : decode bytes pc = .ok (.lshl, 1)) (hpc : pc + 1 = pc') (hr : (a <<< (b &&& 0x3f).toInt64) = r) (K : own_G p e below Φ T (mkF m pc' Ls (.long r :: S))) : own_G p e below Φ T (mkF m pc Ls (.int b :: .long a :: S)) := by
  obtain ⟨⟨locs, Y, N⟩, hh, hn, hx, hZ, hby, hml, hown, hnm, hret, hlk⟩ := X
  subst hpc
  exact own_by K fun t kk => XS.lshl Y.here hx rfl (hb hby hd) rfl (hr ▸ kk)
theorem own_lshr (X : own_S Z n0 bytes y ml ret p l e R s m args below meth c T k sl h) {a r : Int64} {b : Int32} (hd : decode bytes pc = .ok (.lshr, 1)) (hpc : pc + 1 = pc') (hr : (a >>> (b &&& 0x3f).toInt64) = r) (K : own_G p e below Φ T (mkF m pc' Ls (.long r :: S))) : own_G p e below Φ T (mkF m pc Ls (.int b :: .long a :: S)) := by
  obtain ⟨⟨locs, Y, N⟩, hh, hn, hx, hZ, hby, hml, hown, hnm, hret, hlk⟩ := X
  subst hpc
  exact own_by K fun t kk => XS.lshr Y.here hx rfl (hb hby hd) rfl (hr ▸ kk)
theorem own_lushr (X : own_S Z n0 bytes y ml ret p l e R s m args below meth c T k sl h) {a r : Int64} {b : Int32} (hd : decode bytes pc = .ok (.lushr, 1)) (hpc : pc + 1 = pc') (hr : ((a.toUInt64 >>> (b &&& 0x3f).toInt64.toUInt64).toInt64) = r) (K : own_G p e below Φ T (mkF m pc' Ls (.long r :: S))) : own_G p e below Φ T (mkF m pc Ls (.int b :: .long a :: S)) := by
  obtain ⟨⟨locs, Y, N⟩, hh, hn, hx, hZ, hby, hml, hown, hnm, hret, hlk⟩ := X
  subst hpc
  exact own_by K fun t kk => XS.lushr Y.here hx rfl (hb hby hd) rfl (hr ▸ kk)
theorem own_idiv (X : own_S Z n0 bytes y ml ret p l e R s m args below meth c T k sl h) {a b r : Int32} (hd : decode bytes pc = .ok (.idiv, 1)) (hpc : pc + 1 = pc') (hz : b ≠ 0) (hr : a / b = r) (K : own_G p e below Φ T (mkF m pc' Ls (.int r :: S))) : own_G p e below Φ T (mkF m pc Ls (.int b :: .int a :: S)) := by
  obtain ⟨⟨locs, Y, N⟩, hh, hn, hx, hZ, hby, hml, hown, hnm, hret, hlk⟩ := X
  subst hpc
  exact own_by K fun t kk => XS.idiv Y.here hx rfl (hb hby hd) rfl hz (hr ▸ kk)
theorem own_irem (X : own_S Z n0 bytes y ml ret p l e R s m args below meth c T k sl h) {a b r : Int32} (hd : decode bytes pc = .ok (.irem, 1)) (hpc : pc + 1 = pc') (hz : b ≠ 0) (hr : a - (a / b) * b = r) (K : own_G p e below Φ T (mkF m pc' Ls (.int r :: S))) : own_G p e below Φ T (mkF m pc Ls (.int b :: .int a :: S)) := by
  obtain ⟨⟨locs, Y, N⟩, hh, hn, hx, hZ, hby, hml, hown, hnm, hret, hlk⟩ := X
  subst hpc
  exact own_by K fun t kk => XS.irem Y.here hx rfl (hb hby hd) rfl hz (hr ▸ kk)
theorem own_ldiv (X : own_S Z n0 bytes y ml ret p l e R s m args below meth c T k sl h) {a b r : Int64} (hd : decode bytes pc = .ok (.ldiv, 1)) (hpc : pc + 1 = pc') (hz : b ≠ 0) (hr : a / b = r) (K : own_G p e below Φ T (mkF m pc' Ls (.long r :: S))) : own_G p e below Φ T (mkF m pc Ls (.long b :: .long a :: S)) := by
  obtain ⟨⟨locs, Y, N⟩, hh, hn, hx, hZ, hby, hml, hown, hnm, hret, hlk⟩ := X
  subst hpc
  exact own_by K fun t kk => XS.ldiv Y.here hx rfl (hb hby hd) rfl hz (hr ▸ kk)
theorem own_lrem (X : own_S Z n0 bytes y ml ret p l e R s m args below meth c T k sl h) {a b r : Int64} (hd : decode bytes pc = .ok (.lrem, 1)) (hpc : pc + 1 = pc') (hz : b ≠ 0) (hr : a - (a / b) * b = r) (K : own_G p e below Φ T (mkF m pc' Ls (.long r :: S))) : own_G p e below Φ T (mkF m pc Ls (.long b :: .long a :: S)) := by
  obtain ⟨⟨locs, Y, N⟩, hh, hn, hx, hZ, hby, hml, hown, hnm, hret, hlk⟩ := X
  subst hpc
  exact own_by K fun t kk => XS.lrem Y.here hx rfl (hb hby hd) rfl hz (hr ▸ kk)
theorem own_ineg (X : own_S Z n0 bytes y ml ret p l e R s m args below meth c T k sl h) {a : Int32} {r : Int32} (hd : decode bytes pc = .ok (.ineg, 1)) (hpc : pc + 1 = pc') (hr : -a = r) (K : own_G p e below Φ T (mkF m pc' Ls (.int r :: S))) : own_G p e below Φ T (mkF m pc Ls (.int a :: S)) := by
  obtain ⟨⟨locs, Y, N⟩, hh, hn, hx, hZ, hby, hml, hown, hnm, hret, hlk⟩ := X
  subst hpc
  exact own_by K fun t kk => XS.ineg Y.here hx rfl (hb hby hd) rfl (hr ▸ kk)
theorem own_lneg (X : own_S Z n0 bytes y ml ret p l e R s m args below meth c T k sl h) {a : Int64} {r : Int64} (hd : decode bytes pc = .ok (.lneg, 1)) (hpc : pc + 1 = pc') (hr : -a = r) (K : own_G p e below Φ T (mkF m pc' Ls (.long r :: S))) : own_G p e below Φ T (mkF m pc Ls (.long a :: S)) := by
  obtain ⟨⟨locs, Y, N⟩, hh, hn, hx, hZ, hby, hml, hown, hnm, hret, hlk⟩ := X
  subst hpc
  exact own_by K fun t kk => XS.lneg Y.here hx rfl (hb hby hd) rfl (hr ▸ kk)
theorem own_i2l (X : own_S Z n0 bytes y ml ret p l e R s m args below meth c T k sl h) {a : Int32} {r : Int64} (hd : decode bytes pc = .ok (.i2l, 1)) (hpc : pc + 1 = pc') (hr : a.toInt64 = r) (K : own_G p e below Φ T (mkF m pc' Ls (.long r :: S))) : own_G p e below Φ T (mkF m pc Ls (.int a :: S)) := by
  obtain ⟨⟨locs, Y, N⟩, hh, hn, hx, hZ, hby, hml, hown, hnm, hret, hlk⟩ := X
  subst hpc
  exact own_by K fun t kk => XS.i2l Y.here hx rfl (hb hby hd) rfl (hr ▸ kk)
theorem own_l2i (X : own_S Z n0 bytes y ml ret p l e R s m args below meth c T k sl h) {a : Int64} {r : Int32} (hd : decode bytes pc = .ok (.l2i, 1)) (hpc : pc + 1 = pc') (hr : a.toInt32 = r) (K : own_G p e below Φ T (mkF m pc' Ls (.int r :: S))) : own_G p e below Φ T (mkF m pc Ls (.long a :: S)) := by
  obtain ⟨⟨locs, Y, N⟩, hh, hn, hx, hZ, hby, hml, hown, hnm, hret, hlk⟩ := X
  subst hpc
  exact own_by K fun t kk => XS.l2i Y.here hx rfl (hb hby hd) rfl (hr ▸ kk)
theorem own_i2b (X : own_S Z n0 bytes y ml ret p l e R s m args below meth c T k sl h) {a : Int32} {r : Int32} (hd : decode bytes pc = .ok (.i2b, 1)) (hpc : pc + 1 = pc') (hr : a.toInt8.toInt32 = r) (K : own_G p e below Φ T (mkF m pc' Ls (.int r :: S))) : own_G p e below Φ T (mkF m pc Ls (.int a :: S)) := by
  obtain ⟨⟨locs, Y, N⟩, hh, hn, hx, hZ, hby, hml, hown, hnm, hret, hlk⟩ := X
  subst hpc
  exact own_by K fun t kk => XS.i2b Y.here hx rfl (hb hby hd) rfl (hr ▸ kk)
theorem own_i2s (X : own_S Z n0 bytes y ml ret p l e R s m args below meth c T k sl h) {a : Int32} {r : Int32} (hd : decode bytes pc = .ok (.i2s, 1)) (hpc : pc + 1 = pc') (hr : a.toInt16.toInt32 = r) (K : own_G p e below Φ T (mkF m pc' Ls (.int r :: S))) : own_G p e below Φ T (mkF m pc Ls (.int a :: S)) := by
  obtain ⟨⟨locs, Y, N⟩, hh, hn, hx, hZ, hby, hml, hown, hnm, hret, hlk⟩ := X
  subst hpc
  exact own_by K fun t kk => XS.i2s Y.here hx rfl (hb hby hd) rfl (hr ▸ kk)
theorem own_i2c (X : own_S Z n0 bytes y ml ret p l e R s m args below meth c T k sl h) {a : Int32} {r : Int32} (hd : decode bytes pc = .ok (.i2c, 1)) (hpc : pc + 1 = pc') (hr : a.toUInt32.toUInt16.toUInt32.toInt32 = r) (K : own_G p e below Φ T (mkF m pc' Ls (.int r :: S))) : own_G p e below Φ T (mkF m pc Ls (.int a :: S)) := by
  obtain ⟨⟨locs, Y, N⟩, hh, hn, hx, hZ, hby, hml, hown, hnm, hret, hlk⟩ := X
  subst hpc
  exact own_by K fun t kk => XS.i2c Y.here hx rfl (hb hby hd) rfl (hr ▸ kk)
theorem own_lcmp (X : own_S Z n0 bytes y ml ret p l e R s m args below meth c T k sl h) {a b : Int64} (hd : decode bytes pc = .ok (.lcmp, 1)) (hpc : pc + 1 = pc') (K : own_G p e below Φ T (mkF m pc' Ls (.int (lcmpW a b) :: S))) : own_G p e below Φ T (mkF m pc Ls (.long b :: .long a :: S)) := by
  obtain ⟨⟨locs, Y, N⟩, hh, hn, hx, hZ, hby, hml, hown, hnm, hret, hlk⟩ := X
  subst hpc
  exact own_by K fun t kk => XS.lcmp Y.here hx rfl (hb hby hd) rfl kk
theorem own_iconst (X : own_S Z n0 bytes y ml ret p l e R s m args below meth c T k sl h) {i : Int} {v : Int32} (hd : decode bytes pc = .ok (.iconst i, 1)) (hpc : pc + 1 = pc') (hv : Int32.ofInt i = v) (K : own_G p e below Φ T (mkF m pc' Ls (.int v :: S))) : own_G p e below Φ T (mkF m pc Ls (S)) := by
  obtain ⟨⟨locs, Y, N⟩, hh, hn, hx, hZ, hby, hml, hown, hnm, hret, hlk⟩ := X
  subst hpc
  exact own_by K fun t kk => XS.iconst Y.here hx rfl (hb hby hd) (hv ▸ kk)
theorem own_bipush (X : own_S Z n0 bytes y ml ret p l e R s m args below meth c T k sl h) {i : Int} {v : Int32} (hd : decode bytes pc = .ok (.bipush i, 2)) (hpc : pc + 2 = pc') (hv : (Int8.ofInt i).toInt32 = v) (K : own_G p e below Φ T (mkF m pc' Ls (.int v :: S))) : own_G p e below Φ T (mkF m pc Ls (S)) := by
  obtain ⟨⟨locs, Y, N⟩, hh, hn, hx, hZ, hby, hml, hown, hnm, hret, hlk⟩ := X
  subst hpc
  exact own_by K fun t kk => XS.bipush Y.here hx rfl (hb hby hd) (hv ▸ kk)
theorem own_sipush (X : own_S Z n0 bytes y ml ret p l e R s m args below meth c T k sl h) {i : Int} {v : Int32} (hd : decode bytes pc = .ok (.sipush i, 3)) (hpc : pc + 3 = pc') (hv : (Int16.ofInt i).toInt32 = v) (K : own_G p e below Φ T (mkF m pc' Ls (.int v :: S))) : own_G p e below Φ T (mkF m pc Ls (S)) := by
  obtain ⟨⟨locs, Y, N⟩, hh, hn, hx, hZ, hby, hml, hown, hnm, hret, hlk⟩ := X
  subst hpc
  exact own_by K fun t kk => XS.sipush Y.here hx rfl (hb hby hd) (hv ▸ kk)
theorem own_lconst (X : own_S Z n0 bytes y ml ret p l e R s m args below meth c T k sl h) {i : Fin 2} {v : Int64} (hd : decode bytes pc = .ok (.lconst i, 1)) (hpc : pc + 1 = pc') (hv : Int64.ofNat i = v) (K : own_G p e below Φ T (mkF m pc' Ls (.long v :: S))) : own_G p e below Φ T (mkF m pc Ls (S)) := by
  obtain ⟨⟨locs, Y, N⟩, hh, hn, hx, hZ, hby, hml, hown, hnm, hret, hlk⟩ := X
  subst hpc
  exact own_by K fun t kk => XS.lconst Y.here hx rfl (hb hby hd) (hv ▸ kk)
theorem own_aconst_null (X : own_S Z n0 bytes y ml ret p l e R s m args below meth c T k sl h) (hd : decode bytes pc = .ok (.aconst_null, 1)) (hpc : pc + 1 = pc') (K : own_G p e below Φ T (mkF m pc' Ls (.null :: S))) : own_G p e below Φ T (mkF m pc Ls (S)) := by
  obtain ⟨⟨locs, Y, N⟩, hh, hn, hx, hZ, hby, hml, hown, hnm, hret, hlk⟩ := X
  subst hpc
  exact own_by K fun t kk => XS.aconstNull Y.here hx rfl (hb hby hd) kk
theorem own_iload (X : own_S Z n0 bytes y ml ret p l e R s m args below meth c T k sl h) {i : Nat} {v : Int32} (hd : decode bytes pc = .ok (.iload i, 2)) (hpc : pc + 2 = pc') (hl : Ls[i]? = some (.val (.int v))) (K : own_G p e below Φ T (mkF m pc' Ls (.int v :: S))) : own_G p e below Φ T (mkF m pc Ls (S)) := by
  obtain ⟨⟨locs, Y, N⟩, hh, hn, hx, hZ, hby, hml, hown, hnm, hret, hlk⟩ := X
  subst hpc
  exact own_by K fun t kk => XS.iload Y.here hx rfl (hb hby hd) hl kk
theorem own_iloadN (X : own_S Z n0 bytes y ml ret p l e R s m args below meth c T k sl h) {i : Fin 4} {v : Int32} (hd : decode bytes pc = .ok (.iload_n i, 1)) (hpc : pc + 1 = pc') (hl : Ls[i.val]? = some (.val (.int v))) (K : own_G p e below Φ T (mkF m pc' Ls (.int v :: S))) : own_G p e below Φ T (mkF m pc Ls (S)) := by
  obtain ⟨⟨locs, Y, N⟩, hh, hn, hx, hZ, hby, hml, hown, hnm, hret, hlk⟩ := X
  subst hpc
  exact own_by K fun t kk => XS.iloadN Y.here hx rfl (hb hby hd) hl kk
theorem own_lload (X : own_S Z n0 bytes y ml ret p l e R s m args below meth c T k sl h) {i : Nat} {v : Int64} (hd : decode bytes pc = .ok (.lload i, 2)) (hpc : pc + 2 = pc') (hl : Ls[i]? = some (.val (.long v))) (K : own_G p e below Φ T (mkF m pc' Ls (.long v :: S))) : own_G p e below Φ T (mkF m pc Ls (S)) := by
  obtain ⟨⟨locs, Y, N⟩, hh, hn, hx, hZ, hby, hml, hown, hnm, hret, hlk⟩ := X
  subst hpc
  exact own_by K fun t kk => XS.lload Y.here hx rfl (hb hby hd) hl kk
theorem own_lloadN (X : own_S Z n0 bytes y ml ret p l e R s m args below meth c T k sl h) {i : Fin 4} {v : Int64} (hd : decode bytes pc = .ok (.lload_n i, 1)) (hpc : pc + 1 = pc') (hl : Ls[i.val]? = some (.val (.long v))) (K : own_G p e below Φ T (mkF m pc' Ls (.long v :: S))) : own_G p e below Φ T (mkF m pc Ls (S)) := by
  obtain ⟨⟨locs, Y, N⟩, hh, hn, hx, hZ, hby, hml, hown, hnm, hret, hlk⟩ := X
  subst hpc
  exact own_by K fun t kk => XS.lloadN Y.here hx rfl (hb hby hd) hl kk
theorem own_aload (X : own_S Z n0 bytes y ml ret p l e R s m args below meth c T k sl h) {i : Nat} {v : Value} (hd : decode bytes pc = .ok (.aload i, 2)) (hpc : pc + 2 = pc') (hl : Ls[i]? = some (.val v)) (hv : v.isRef = true) (K : own_G p e below Φ T (mkF m pc' Ls (v :: S))) : own_G p e below Φ T (mkF m pc Ls (S)) := by
  obtain ⟨⟨locs, Y, N⟩, hh, hn, hx, hZ, hby, hml, hown, hnm, hret, hlk⟩ := X
  subst hpc
  exact own_by K fun t kk => XS.aload Y.here hx rfl (hb hby hd) hl hv kk
theorem own_aloadN (X : own_S Z n0 bytes y ml ret p l e R s m args below meth c T k sl h) {i : Fin 4} {v : Value} (hd : decode bytes pc = .ok (.aload_n i, 1)) (hpc : pc + 1 = pc') (hl : Ls[i.val]? = some (.val v)) (hv : v.isRef = true) (K : own_G p e below Φ T (mkF m pc' Ls (v :: S))) : own_G p e below Φ T (mkF m pc Ls (S)) := by
  obtain ⟨⟨locs, Y, N⟩, hh, hn, hx, hZ, hby, hml, hown, hnm, hret, hlk⟩ := X
  subst hpc
  exact own_by K fun t kk => XS.aloadN Y.here hx rfl (hb hby hd) hl hv kk
theorem own_dup (X : own_S Z n0 bytes y ml ret p l e R s m args below meth c T k sl h) {v : Value} (hd : decode bytes pc = .ok (.dup, 1)) (hpc : pc + 1 = pc') (hv : v.category = 1) (K : own_G p e below Φ T (mkF m pc' Ls (v :: v :: S))) : own_G p e below Φ T (mkF m pc Ls (v :: S)) := by
  obtain ⟨⟨locs, Y, N⟩, hh, hn, hx, hZ, hby, hml, hown, hnm, hret, hlk⟩ := X
  subst hpc
  exact own_by K fun t kk => XS.dup Y.here hx rfl (hb hby hd) rfl hv kk
theorem own_dup2 (X : own_S Z n0 bytes y ml ret p l e R s m args below meth c T k sl h) {v w : Value} (hd : decode bytes pc = .ok (.dup2, 1)) (hpc : pc + 1 = pc') (hv : v.category = 1) (hw : w.category = 1) (K : own_G p e below Φ T (mkF m pc' Ls (v :: w :: v :: w :: S))) : own_G p e below Φ T (mkF m pc Ls (v :: w :: S)) := by
  obtain ⟨⟨locs, Y, N⟩, hh, hn, hx, hZ, hby, hml, hown, hnm, hret, hlk⟩ := X
  subst hpc
  exact own_by K fun t kk => XT.dup2 Y.here hx rfl (hb hby hd) rfl hv hw kk
theorem own_pop (X : own_S Z n0 bytes y ml ret p l e R s m args below meth c T k sl h) {v : Value} (hd : decode bytes pc = .ok (.pop, 1)) (hpc : pc + 1 = pc') (hv : v.category = 1) (K : own_G p e below Φ T (mkF m pc' Ls (S))) : own_G p e below Φ T (mkF m pc Ls (v :: S)) := by
  obtain ⟨⟨locs, Y, N⟩, hh, hn, hx, hZ, hby, hml, hown, hnm, hret, hlk⟩ := X
  subst hpc
  exact own_by K fun t kk => XS.pop Y.here hx rfl (hb hby hd) rfl hv kk
theorem own_istore (X : own_S Z n0 bytes y ml ret p l e R s m args below meth c T k sl h) {i : Nat} {v : Int32} (hd : decode bytes pc = .ok (.istore i, 2)) (hpc : pc + 2 = pc') (hl : storeLocals Ls i (.int v) = some Ls') (K : own_G p e below Φ T (mkF m pc' Ls' S)) : own_G p e below Φ T (mkF m pc Ls (.int v :: S)) := by
  obtain ⟨⟨locs, Y, N⟩, hh, hn, hx, hZ, hby, hml, hown, hnm, hret, hlk⟩ := X
  subst hpc
  exact own_by K fun t kk => XS.istore Y.here hx rfl (hb hby hd) rfl hl kk
theorem own_istoreN (X : own_S Z n0 bytes y ml ret p l e R s m args below meth c T k sl h) {i : Fin 4} {v : Int32} (hd : decode bytes pc = .ok (.istore_n i, 1)) (hpc : pc + 1 = pc') (hl : storeLocals Ls i.val (.int v) = some Ls') (K : own_G p e below Φ T (mkF m pc' Ls' S)) : own_G p e below Φ T (mkF m pc Ls (.int v :: S)) := by
  obtain ⟨⟨locs, Y, N⟩, hh, hn, hx, hZ, hby, hml, hown, hnm, hret, hlk⟩ := X
  subst hpc
  exact own_by K fun t kk => XS.istoreN Y.here hx rfl (hb hby hd) rfl hl kk
theorem own_lstore (X : own_S Z n0 bytes y ml ret p l e R s m args below meth c T k sl h) {i : Nat} {v : Int64} (hd : decode bytes pc = .ok (.lstore i, 2)) (hpc : pc + 2 = pc') (hl : storeLocals Ls i (.long v) = some Ls') (K : own_G p e below Φ T (mkF m pc' Ls' S)) : own_G p e below Φ T (mkF m pc Ls (.long v :: S)) := by
  obtain ⟨⟨locs, Y, N⟩, hh, hn, hx, hZ, hby, hml, hown, hnm, hret, hlk⟩ := X
  subst hpc
  exact own_by K fun t kk => XS.lstore Y.here hx rfl (hb hby hd) rfl hl kk
theorem own_lstoreN (X : own_S Z n0 bytes y ml ret p l e R s m args below meth c T k sl h) {i : Fin 4} {v : Int64} (hd : decode bytes pc = .ok (.lstore_n i, 1)) (hpc : pc + 1 = pc') (hl : storeLocals Ls i.val (.long v) = some Ls') (K : own_G p e below Φ T (mkF m pc' Ls' S)) : own_G p e below Φ T (mkF m pc Ls (.long v :: S)) := by
  obtain ⟨⟨locs, Y, N⟩, hh, hn, hx, hZ, hby, hml, hown, hnm, hret, hlk⟩ := X
  subst hpc
  exact own_by K fun t kk => XS.lstoreN Y.here hx rfl (hb hby hd) rfl hl kk
theorem own_astore (X : own_S Z n0 bytes y ml ret p l e R s m args below meth c T k sl h) {i : Nat} {v : Value} (hd : decode bytes pc = .ok (.astore i, 2)) (hpc : pc + 2 = pc') (hv : v.isRef = true) (hl : storeLocals Ls i (v) = some Ls') (K : own_G p e below Φ T (mkF m pc' Ls' S)) : own_G p e below Φ T (mkF m pc Ls (v :: S)) := by
  obtain ⟨⟨locs, Y, N⟩, hh, hn, hx, hZ, hby, hml, hown, hnm, hret, hlk⟩ := X
  subst hpc
  exact own_by K fun t kk => XS.astore Y.here hx rfl (hb hby hd) rfl hv hl kk
theorem own_astoreN (X : own_S Z n0 bytes y ml ret p l e R s m args below meth c T k sl h) {i : Fin 4} {v : Value} (hd : decode bytes pc = .ok (.astore_n i, 1)) (hpc : pc + 1 = pc') (hv : v.isRef = true) (hl : storeLocals Ls i.val (v) = some Ls') (K : own_G p e below Φ T (mkF m pc' Ls' S)) : own_G p e below Φ T (mkF m pc Ls (v :: S)) := by
  obtain ⟨⟨locs, Y, N⟩, hh, hn, hx, hZ, hby, hml, hown, hnm, hret, hlk⟩ := X
  subst hpc
  exact own_by K fun t kk => XS.astoreN Y.here hx rfl (hb hby hd) rfl hv hl kk
theorem own_iinc (X : own_S Z n0 bytes y ml ret p l e R s m args below meth c T k sl h) {i : Nat} {cst : Int} {v : Int32} (hd : decode bytes pc = .ok (.iinc i cst, 3)) (hpc : pc + 3 = pc') (hl : Ls[i]? = some (.val (.int v))) {w : Int32} (hw : v + Int32.ofInt cst = w) (hs : storeLocals Ls i (.int w) = some Ls') (K : own_G p e below Φ T (mkF m pc' Ls' S)) : own_G p e below Φ T (mkF m pc Ls S) := by
  obtain ⟨⟨locs, Y, N⟩, hh, hn, hx, hZ, hby, hml, hown, hnm, hret, hlk⟩ := X
  subst hpc
  exact own_by K fun t kk => XS.iinc Y.here hx rfl (hb hby hd) hl (hw ▸ hs) kk
theorem own_goto (X : own_S Z n0 bytes y ml ret p l e R s m args below meth c T k sl h) {o : Int} (hd : decode bytes pc = .ok (.goto o, 3)) (ho : 0 ≤ (pc : Int) + o) (hp : ((pc : Int) + o).toNat = pc') (K : own_G p e below Φ T (mkF m pc' Ls S)) : own_G p e below Φ T (mkF m pc Ls S) := by
  obtain ⟨⟨locs, Y, N⟩, hh, hn, hx, hZ, hby, hml, hown, hnm, hret, hlk⟩ := X
  exact own_by K fun t kk => XS.goto Y.here hx rfl rfl (hb hby hd) ho hp kk
theorem own_icmp_eq (X : own_S Z n0 bytes y ml ret p l e R s m args below meth c T k sl h) {o : Int} {a b : Int32} {pct : Nat} (hd : decode bytes pc = .ok (.if_icmp .eq o, 3)) (hpc : pc + 3 = pc') (ho : 0 ≤ (pc : Int) + o) (hp : ((pc : Int) + o).toNat = pct) (Ky : a = b → own_G p e below Φ T (mkF m pct Ls S)) (Kn : ¬ a = b → own_G p e below Φ T (mkF m pc' Ls S)) : own_G p e below Φ T (mkF m pc Ls (.int b :: .int a :: S)) := by
  obtain ⟨⟨locs, Y, N⟩, hh, hn, hx, hZ, hby, hml, hown, hnm, hret, hlk⟩ := X
  subst hpc
  by_cases hc : a = b
  · exact own_by (Ky hc) fun t kk => XS.icmpYes Y.here hx rfl rfl (hb hby hd) rfl (teq hc).1 ho hp kk
  · exact own_by (Kn hc) fun t kk => XS.icmpNo Y.here hx rfl (hb hby hd) rfl (feq hc).1 kk
theorem own_if_eq (X : own_S Z n0 bytes y ml ret p l e R s m args below meth c T k sl h) {o : Int} {a : Int32} {pct : Nat} (hd : decode bytes pc = .ok (.ifCond .eq o, 3)) (hpc : pc + 3 = pc') (ho : 0 ≤ (pc : Int) + o) (hp : ((pc : Int) + o).toNat = pct) (Ky : a = 0 → own_G p e below Φ T (mkF m pct Ls S)) (Kn : ¬ a = 0 → own_G p e below Φ T (mkF m pc' Ls S)) : own_G p e below Φ T (mkF m pc Ls (.int a :: S)) := by
  obtain ⟨⟨locs, Y, N⟩, hh, hn, hx, hZ, hby, hml, hown, hnm, hret, hlk⟩ := X
  subst hpc
  by_cases hc : a = 0
  · exact own_by (Ky hc) fun t kk => XS.ifYes Y.here hx rfl rfl (hb hby hd) rfl ((if0 _ _).trans (teq hc).1) ho hp kk
  · exact own_by (Kn hc) fun t kk => XS.ifNo Y.here hx rfl (hb hby hd) rfl ((if0 _ _).trans (feq hc).1) kk
theorem own_icmp_ne (X : own_S Z n0 bytes y ml ret p l e R s m args below meth c T k sl h) {o : Int} {a b : Int32} {pct : Nat} (hd : decode bytes pc = .ok (.if_icmp .ne o, 3)) (hpc : pc + 3 = pc') (ho : 0 ≤ (pc : Int) + o) (hp : ((pc : Int) + o).toNat = pct) (Ky : ¬ a = b → own_G p e below Φ T (mkF m pct Ls S)) (Kn : a = b → own_G p e below Φ T (mkF m pc' Ls S)) : own_G p e below Φ T (mkF m pc Ls (.int b :: .int a :: S)) := by
  obtain ⟨⟨locs, Y, N⟩, hh, hn, hx, hZ, hby, hml, hown, hnm, hret, hlk⟩ := X
  subst hpc
  by_cases hc : ¬ a = b
  · exact own_by (Ky hc) fun t kk => XS.icmpYes Y.here hx rfl rfl (hb hby hd) rfl (feq hc).2 ho hp kk
  · replace hc := Decidable.not_not.mp hc; exact own_by (Kn hc) fun t kk => XS.icmpNo Y.here hx rfl (hb hby hd) rfl (teq hc).2 kk
theorem own_if_ne (X : own_S Z n0 bytes y ml ret p l e R s m args below meth c T k sl h) {o : Int} {a : Int32} {pct : Nat} (hd : decode bytes pc = .ok (.ifCond .ne o, 3)) (hpc : pc + 3 = pc') (ho : 0 ≤ (pc : Int) + o) (hp : ((pc : Int) + o).toNat = pct) (Ky : ¬ a = 0 → own_G p e below Φ T (mkF m pct Ls S)) (Kn : a = 0 → own_G p e below Φ T (mkF m pc' Ls S)) : own_G p e below Φ T (mkF m pc Ls (.int a :: S)) := by
  obtain ⟨⟨locs, Y, N⟩, hh, hn, hx, hZ, hby, hml, hown, hnm, hret, hlk⟩ := X
  subst hpc
  by_cases hc : ¬ a = 0
  · exact own_by (Ky hc) fun t kk => XS.ifYes Y.here hx rfl rfl (hb hby hd) rfl ((if0 _ _).trans (feq hc).2) ho hp kk
  · replace hc := Decidable.not_not.mp hc; exact own_by (Kn hc) fun t kk => XS.ifNo Y.here hx rfl (hb hby hd) rfl ((if0 _ _).trans (teq hc).2) kk
theorem own_icmp_lt (X : own_S Z n0 bytes y ml ret p l e R s m args below meth c T k sl h) {o : Int} {a b : Int32} {pct : Nat} (hd : decode bytes pc = .ok (.if_icmp .lt o, 3)) (hpc : pc + 3 = pc') (ho : 0 ≤ (pc : Int) + o) (hp : ((pc : Int) + o).toNat = pct) (Ky : a < b → own_G p e below Φ T (mkF m pct Ls S)) (Kn : ¬ a < b → own_G p e below Φ T (mkF m pc' Ls S)) : own_G p e below Φ T (mkF m pc Ls (.int b :: .int a :: S)) := by
  obtain ⟨⟨locs, Y, N⟩, hh, hn, hx, hZ, hby, hml, hown, hnm, hret, hlk⟩ := X
  subst hpc
  by_cases hc : a < b
  · exact own_by (Ky hc) fun t kk => XS.icmpYes Y.here hx rfl rfl (hb hby hd) rfl (tlt hc).1 ho hp kk
  · exact own_by (Kn hc) fun t kk => XS.icmpNo Y.here hx rfl (hb hby hd) rfl (flt hc).1 kk
theorem own_if_lt (X : own_S Z n0 bytes y ml ret p l e R s m args below meth c T k sl h) {o : Int} {a : Int32} {pct : Nat} (hd : decode bytes pc = .ok (.ifCond .lt o, 3)) (hpc : pc + 3 = pc') (ho : 0 ≤ (pc : Int) + o) (hp : ((pc : Int) + o).toNat = pct) (Ky : a < 0 → own_G p e below Φ T (mkF m pct Ls S)) (Kn : ¬ a < 0 → own_G p e below Φ T (mkF m pc' Ls S)) : own_G p e below Φ T (mkF m pc Ls (.int a :: S)) := by
  obtain ⟨⟨locs, Y, N⟩, hh, hn, hx, hZ, hby, hml, hown, hnm, hret, hlk⟩ := X
  subst hpc
  by_cases hc : a < 0
  · exact own_by (Ky hc) fun t kk => XS.ifYes Y.here hx rfl rfl (hb hby hd) rfl ((if0 _ _).trans (tlt hc).1) ho hp kk
  · exact own_by (Kn hc) fun t kk => XS.ifNo Y.here hx rfl (hb hby hd) rfl ((if0 _ _).trans (flt hc).1) kk
theorem own_icmp_ge (X : own_S Z n0 bytes y ml ret p l e R s m args below meth c T k sl h) {o : Int} {a b : Int32} {pct : Nat} (hd : decode bytes pc = .ok (.if_icmp .ge o, 3)) (hpc : pc + 3 = pc') (ho : 0 ≤ (pc : Int) + o) (hp : ((pc : Int) + o).toNat = pct) (Ky : ¬ a < b → own_G p e below Φ T (mkF m pct Ls S)) (Kn : a < b → own_G p e below Φ T (mkF m pc' Ls S)) : own_G p e below Φ T (mkF m pc Ls (.int b :: .int a :: S)) := by
  obtain ⟨⟨locs, Y, N⟩, hh, hn, hx, hZ, hby, hml, hown, hnm, hret, hlk⟩ := X
  subst hpc
  by_cases hc : ¬ a < b
  · exact own_by (Ky hc) fun t kk => XS.icmpYes Y.here hx rfl rfl (hb hby hd) rfl (flt hc).2.1 ho hp kk
  · replace hc := Decidable.not_not.mp hc; exact own_by (Kn hc) fun t kk => XS.icmpNo Y.here hx rfl (hb hby hd) rfl (tlt hc).2.1 kk
theorem own_if_ge (X : own_S Z n0 bytes y ml ret p l e R s m args below meth c T k sl h) {o : Int} {a : Int32} {pct : Nat} (hd : decode bytes pc = .ok (.ifCond .ge o, 3)) (hpc : pc + 3 = pc') (ho : 0 ≤ (pc : Int) + o) (hp : ((pc : Int) + o).toNat = pct) (Ky : ¬ a < 0 → own_G p e below Φ T (mkF m pct Ls S)) (Kn : a < 0 → own_G p e below Φ T (mkF m pc' Ls S)) : own_G p e below Φ T (mkF m pc Ls (.int a :: S)) := by
  obtain ⟨⟨locs, Y, N⟩, hh, hn, hx, hZ, hby, hml, hown, hnm, hret, hlk⟩ := X
  subst hpc
  by_cases hc : ¬ a < 0
  · exact own_by (Ky hc) fun t kk => XS.ifYes Y.here hx rfl rfl (hb hby hd) rfl ((if0 _ _).trans (flt hc).2.1) ho hp kk
  · replace hc := Decidable.not_not.mp hc; exact own_by (Kn hc) fun t kk => XS.ifNo Y.here hx rfl (hb hby hd) rfl ((if0 _ _).trans (tlt hc).2.1) kk
theorem own_icmp_gt (X : own_S Z n0 bytes y ml ret p l e R s m args below meth c T k sl h) {o : Int} {a b : Int32} {pct : Nat} (hd : decode bytes pc = .ok (.if_icmp .gt o, 3)) (hpc : pc + 3 = pc') (ho : 0 ≤ (pc : Int) + o) (hp : ((pc : Int) + o).toNat = pct) (Ky : b < a → own_G p e below Φ T (mkF m pct Ls S)) (Kn : ¬ b < a → own_G p e below Φ T (mkF m pc' Ls S)) : own_G p e below Φ T (mkF m pc Ls (.int b :: .int a :: S)) := by
  obtain ⟨⟨locs, Y, N⟩, hh, hn, hx, hZ, hby, hml, hown, hnm, hret, hlk⟩ := X
  subst hpc
  by_cases hc : b < a
  · exact own_by (Ky hc) fun t kk => XS.icmpYes Y.here hx rfl rfl (hb hby hd) rfl (tlt hc).2.2.1 ho hp kk
  · exact own_by (Kn hc) fun t kk => XS.icmpNo Y.here hx rfl (hb hby hd) rfl (flt hc).2.2.1 kk
theorem own_if_gt (X : own_S Z n0 bytes y ml ret p l e R s m args below meth c T k sl h) {o : Int} {a : Int32} {pct : Nat} (hd : decode bytes pc = .ok (.ifCond .gt o, 3)) (hpc : pc + 3 = pc') (ho : 0 ≤ (pc : Int) + o) (hp : ((pc : Int) + o).toNat = pct) (Ky : 0 < a → own_G p e below Φ T (mkF m pct Ls S)) (Kn : ¬ 0 < a → own_G p e below Φ T (mkF m pc' Ls S)) : own_G p e below Φ T (mkF m pc Ls (.int a :: S)) := by
  obtain ⟨⟨locs, Y, N⟩, hh, hn, hx, hZ, hby, hml, hown, hnm, hret, hlk⟩ := X
  subst hpc
  by_cases hc : 0 < a
  · exact own_by (Ky hc) fun t kk => XS.ifYes Y.here hx rfl rfl (hb hby hd) rfl ((if0 _ _).trans (tlt hc).2.2.1) ho hp kk
  · exact own_by (Kn hc) fun t kk => XS.ifNo Y.here hx rfl (hb hby hd) rfl ((if0 _ _).trans (flt hc).2.2.1) kk
theorem own_icmp_le (X : own_S Z n0 bytes y ml ret p l e R s m args below meth c T k sl h) {o : Int} {a b : Int32} {pct : Nat} (hd : decode bytes pc = .ok (.if_icmp .le o, 3)) (hpc : pc + 3 = pc') (ho : 0 ≤ (pc : Int) + o) (hp : ((pc : Int) + o).toNat = pct) (Ky : ¬ b < a → own_G p e below Φ T (mkF m pct Ls S)) (Kn : b < a → own_G p e below Φ T (mkF m pc' Ls S)) : own_G p e below Φ T (mkF m pc Ls (.int b :: .int a :: S)) := by
  obtain ⟨⟨locs, Y, N⟩, hh, hn, hx, hZ, hby, hml, hown, hnm, hret, hlk⟩ := X
  subst hpc
  by_cases hc : ¬ b < a
  · exact own_by (Ky hc) fun t kk => XS.icmpYes Y.here hx rfl rfl (hb hby hd) rfl (flt hc).2.2.2 ho hp kk
  · replace hc := Decidable.not_not.mp hc; exact own_by (Kn hc) fun t kk => XS.icmpNo Y.here hx rfl (hb hby hd) rfl (tlt hc).2.2.2 kk
theorem own_if_le (X : own_S Z n0 bytes y ml ret p l e R s m args below meth c T k sl h) {o : Int} {a : Int32} {pct : Nat} (hd : decode bytes pc = .ok (.ifCond .le o, 3)) (hpc : pc + 3 = pc') (ho : 0 ≤ (pc : Int) + o) (hp : ((pc : Int) + o).toNat = pct) (Ky : ¬ 0 < a → own_G p e below Φ T (mkF m pct Ls S)) (Kn : 0 < a → own_G p e below Φ T (mkF m pc' Ls S)) : own_G p e below Φ T (mkF m pc Ls (.int a :: S)) := by
  obtain ⟨⟨locs, Y, N⟩, hh, hn, hx, hZ, hby, hml, hown, hnm, hret, hlk⟩ := X
  subst hpc
  by_cases hc : ¬ 0 < a
  · exact own_by (Ky hc) fun t kk => XS.ifYes Y.here hx rfl rfl (hb hby hd) rfl ((if0 _ _).trans (flt hc).2.2.2) ho hp kk
  · replace hc := Decidable.not_not.mp hc; exact own_by (Kn hc) fun t kk => XS.ifNo Y.here hx rfl (hb hby hd) rfl ((if0 _ _).trans (tlt hc).2.2.2) kk
theorem own_ifl_eq (X : own_S Z n0 bytes y ml ret p l e R s m args below meth c T k sl h) {o : Int} {a b : Int64} {pct : Nat} (hd : decode bytes pc = .ok (.ifCond .eq o, 3)) (hpc : pc + 3 = pc') (ho : 0 ≤ (pc : Int) + o) (hp : ((pc : Int) + o).toNat = pct) (Ky : a = b → own_G p e below Φ T (mkF m pct Ls S)) (Kn : ¬ a = b → own_G p e below Φ T (mkF m pc' Ls S)) : own_G p e below Φ T (mkF m pc Ls (.int (lcmpW a b) :: S)) :=
  own_if_eq X hd hpc ho hp (fun q => Ky ((lw_eq a b).mp q)) (fun q => Kn (fun r => q ((lw_eq a b).mpr r)))
theorem own_ifl_ne (X : own_S Z n0 bytes y ml ret p l e R s m args below meth c T k sl h) {o : Int} {a b : Int64} {pct : Nat} (hd : decode bytes pc = .ok (.ifCond .ne o, 3)) (hpc : pc + 3 = pc') (ho : 0 ≤ (pc : Int) + o) (hp : ((pc : Int) + o).toNat = pct) (Ky : ¬ a = b → own_G p e below Φ T (mkF m pct Ls S)) (Kn : a = b → own_G p e below Φ T (mkF m pc' Ls S)) : own_G p e below Φ T (mkF m pc Ls (.int (lcmpW a b) :: S)) :=
  own_if_ne X hd hpc ho hp (fun q => Ky (fun r => q ((lw_eq a b).mpr r))) (fun q => Kn ((lw_eq a b).mp q))
theorem own_ifl_lt (X : own_S Z n0 bytes y ml ret p l e R s m args below meth c T k sl h) {o : Int} {a b : Int64} {pct : Nat} (hd : decode bytes pc = .ok (.ifCond .lt o, 3)) (hpc : pc + 3 = pc') (ho : 0 ≤ (pc : Int) + o) (hp : ((pc : Int) + o).toNat = pct) (Ky : a < b → own_G p e below Φ T (mkF m pct Ls S)) (Kn : ¬ a < b → own_G p e below Φ T (mkF m pc' Ls S)) : own_G p e below Φ T (mkF m pc Ls (.int (lcmpW a b) :: S)) :=
  own_if_lt X hd hpc ho hp (fun q => Ky ((lw_lt a b).mp q)) (fun q => Kn (fun r => q ((lw_lt a b).mpr r)))
theorem own_ifl_ge (X : own_S Z n0 bytes y ml ret p l e R s m args below meth c T k sl h) {o : Int} {a b : Int64} {pct : Nat} (hd : decode bytes pc = .ok (.ifCond .ge o, 3)) (hpc : pc + 3 = pc') (ho : 0 ≤ (pc : Int) + o) (hp : ((pc : Int) + o).toNat = pct) (Ky : ¬ a < b → own_G p e below Φ T (mkF m pct Ls S)) (Kn : a < b → own_G p e below Φ T (mkF m pc' Ls S)) : own_G p e below Φ T (mkF m pc Ls (.int (lcmpW a b) :: S)) :=
  own_if_ge X hd hpc ho hp (fun q => Ky (fun r => q ((lw_lt a b).mpr r))) (fun q => Kn ((lw_lt a b).mp q))
theorem own_ifl_gt (X : own_S Z n0 bytes y ml ret p l e R s m args below meth c T k sl h) {o : Int} {a b : Int64} {pct : Nat} (hd : decode bytes pc = .ok (.ifCond .gt o, 3)) (hpc : pc + 3 = pc') (ho : 0 ≤ (pc : Int) + o) (hp : ((pc : Int) + o).toNat = pct) (Ky : b < a → own_G p e below Φ T (mkF m pct Ls S)) (Kn : ¬ b < a → own_G p e below Φ T (mkF m pc' Ls S)) : own_G p e below Φ T (mkF m pc Ls (.int (lcmpW a b) :: S)) :=
  own_if_gt X hd hpc ho hp (fun q => Ky ((lw_gt a b).mp q)) (fun q => Kn (fun r => q ((lw_gt a b).mpr r)))
theorem own_ifl_le (X : own_S Z n0 bytes y ml ret p l e R s m args below meth c T k sl h) {o : Int} {a b : Int64} {pct : Nat} (hd : decode bytes pc = .ok (.ifCond .le o, 3)) (hpc : pc + 3 = pc') (ho : 0 ≤ (pc : Int) + o) (hp : ((pc : Int) + o).toNat = pct) (Ky : ¬ b < a → own_G p e below Φ T (mkF m pct Ls S)) (Kn : b < a → own_G p e below Φ T (mkF m pc' Ls S)) : own_G p e below Φ T (mkF m pc Ls (.int (lcmpW a b) :: S)) :=
  own_if_le X hd hpc ho hp (fun q => Ky (fun r => q ((lw_gt a b).mpr r))) (fun q => Kn ((lw_gt a b).mp q))
theorem own_ldc {i : Nat} {v : Int32} (X : own_S Z n0 bytes y ml ret p l e R s m args below meth c T k sl h) (hw : (Jvm.Cond.constant y.cls i v).before a0 Z = true) (hd : decode bytes pc = .ok (.ldc i, 2)) (hpc : pc + 2 = pc') (K : own_G p e below Φ T (mkF m pc' Ls (.int v :: S))) : own_G p e below Φ T (mkF m pc Ls S) := by
  obtain ⟨⟨locs, Y, N⟩, hh, hn, hx, hZ, hby, hml, hown, hnm, hret, hlk⟩ := X
  subst hpc
  exact own_by K fun t kk => Y.ldcInt hx hown (mvT hZ hw) (g := mkF m pc Ls S) rfl (hb hby hd) t kk
theorem own_ldc2 {i : Nat} {v : Int64} (X : own_S Z n0 bytes y ml ret p l e R s m args below meth c T k sl h) (hw : (Jvm.Cond.constantLong y.cls i v).before a0 Z = true) (hd : decode bytes pc = .ok (.ldc2_w i, 3)) (hpc : pc + 3 = pc') (K : own_G p e below Φ T (mkF m pc' Ls (.long v :: S))) : own_G p e below Φ T (mkF m pc Ls S) := by
  obtain ⟨⟨locs, Y, N⟩, hh, hn, hx, hZ, hby, hml, hown, hnm, hret, hlk⟩ := X
  subst hpc
  exact own_by K fun t kk => Y.ldc2Long hx hown (mvT hZ hw) (g := mkF m pc Ls S) rfl (hb hby hd) t kk
theorem own_ret {w' : Option Value} {Θ : Heap → Prop} {w : Value} {t : FieldType} {i : Instr} (X : own_S Z n0 bytes y ml (some t) p l e R s m args below meth c T k sl h)
    (hd : decode bytes pc = .ok (i, 1)) (hi : (i = .ireturn ∧ (t = .int ∨ t = .boolean ∨ t = .byte ∨ t = .char ∨ t = .short) ∧ ∃ z, w = .int z) ∨ (i = .lreturn ∧ t = .long ∧ ∃ z, w = .long z) ∨ (i = .dreturn ∧ t = .double ∧ ∃ z, w = .double z) ∨ (i = .freturn ∧ t = .float ∧ ∃ z, w = .float z) ∨ (i = .areturn ∧ t.isReference = true ∧ w.isRef = true))
    (hnw : narrow t w = w) (hk : k ≤ R.cells) (hs : sl ≤ R.slots) (hw : some w = w') (hΘ : Θ h) : own_G p e below (own_Q n0 below s R w' Θ) T (mkF m pc Ls (w :: S)) := by
  obtain ⟨⟨locs, Y, N⟩, hh, hn, hx, hZ, hby, hml, hown, hnm, hret, hlk⟩ := X
  obtain ⟨fs, hr, hrun, hended, hW, hsame⟩ := Y.leave (v := some w) (fun h => by rw [hret] at h; cases h) hlk
  refine ⟨_, _, retOut Y hx hret hnw hi (hb hby hd) hr, hrun, hended, _, _, rfl, ⟨⟨hw, ?_⟩, N⟩, ⟨_, rfl⟩, hW, hsame.mono hk hs⟩
  show Θ T.heap
  rw [hh]; exact hΘ
theorem own_retV {w' : Option Value} {Θ : Heap → Prop} (X : own_S Z n0 bytes y ml none p l e R s m args below meth c T k sl h)
    (hd : decode bytes pc = .ok (.return_, 1)) (hk : k ≤ R.cells) (hs : sl ≤ R.slots) (hw : none = w') (hΘ : Θ h) : own_G p e below (own_Q n0 below s R w' Θ) T (mkF m pc Ls []) := by
  obtain ⟨⟨locs, Y, N⟩, hh, hn, hx, hZ, hby, hml, hown, hnm, hret, hlk⟩ := X
  obtain ⟨fs, hr, hrun, hended, hW, hsame⟩ := Y.leave (v := none) (fun _ => rfl) hlk
  refine ⟨_, _, Y.returnOut hx hret (hb hby hd) hr, hrun, hended, _, _, rfl, ⟨⟨hw, ?_⟩, N⟩, ⟨_, rfl⟩, hW, hsame.mono hk hs⟩
  show Θ T.heap
  rw [hh]; exact hΘ
theorem own_retZ {w' : Option Value} {Θ : Heap → Prop} {z : Int32} (X : own_S Z n0 bytes y ml (some .boolean) p l e R s m args below meth c T k sl h) (hd : decode bytes pc = .ok (.ireturn, 1)) (hz : z &&& 1 = z) (hk : k ≤ R.cells) (hs : sl ≤ R.slots) (hw : some (.int z) = w') (hΘ : Θ h) : own_G p e below (own_Q n0 below s R w' Θ) T (mkF m pc Ls (.int z :: S)) :=
  own_ret X hd (Or.inl ⟨rfl, by simp, _, rfl⟩) (by simp [narrow, hz]) hk hs hw hΘ
theorem own_retI {w' : Option Value} {Θ : Heap → Prop} {z : Int32} (X : own_S Z n0 bytes y ml (some .int) p l e R s m args below meth c T k sl h) (hd : decode bytes pc = .ok (.ireturn, 1)) (hk : k ≤ R.cells) (hs : sl ≤ R.slots) (hw : some (.int z) = w') (hΘ : Θ h) : own_G p e below (own_Q n0 below s R w' Θ) T (mkF m pc Ls (.int z :: S)) :=
  own_ret X hd (Or.inl ⟨rfl, by simp, _, rfl⟩) rfl hk hs hw hΘ
theorem own_retB {w' : Option Value} {Θ : Heap → Prop} {z : Int32} (X : own_S Z n0 bytes y ml (some .byte) p l e R s m args below meth c T k sl h) (hd : decode bytes pc = .ok (.ireturn, 1)) (hz : z.toInt8.toInt32 = z) (hk : k ≤ R.cells) (hs : sl ≤ R.slots) (hw : some (.int z) = w') (hΘ : Θ h) : own_G p e below (own_Q n0 below s R w' Θ) T (mkF m pc Ls (.int z :: S)) :=
  own_ret X hd (Or.inl ⟨rfl, by simp, _, rfl⟩) (by simp [narrow, hz]) hk hs hw hΘ
theorem own_retL {w' : Option Value} {Θ : Heap → Prop} {z : Int64} (X : own_S Z n0 bytes y ml (some .long) p l e R s m args below meth c T k sl h) (hd : decode bytes pc = .ok (.lreturn, 1)) (hk : k ≤ R.cells) (hs : sl ≤ R.slots) (hw : some (.long z) = w') (hΘ : Θ h) : own_G p e below (own_Q n0 below s R w' Θ) T (mkF m pc Ls (.long z :: S)) :=
  own_ret X hd (Or.inr (Or.inl ⟨rfl, rfl, _, rfl⟩)) rfl hk hs hw hΘ
theorem own_callS {z : MethodName} {cb : ByteArray} {cml : Nat} {cret : Option FieldType} {crm : Room} {i : Nat} {argsL rest S' : List Value} {w : Option Value} {Θ : Heap → Prop} (X : own_S Z n0 bytes y ml ret p l e R s m args below meth c T k sl h) (M : own_Met l z cb cml cret crm Z n0 argsL.toArray h w Θ)
    (w1 : (Jvm.Cond.methodLink y.cls i z).before a0 Z = true) (w2 : (Jvm.Cond.static z).before a0 Z = true) (w3 : (Jvm.Cond.initialized z.cls).before a0 Z = true) (w4 : (Jvm.Cond.code z cb cml cret).before a0 Z = true) (hz : z.cls ≠ "java/lang/invoke/MethodHandle" ∧ z.cls ≠ "java/lang/invoke/VarHandle")
    {W : Nat} (hf : crm.frames + 1 ≤ R.frames) (hl : W + (cml + 11) + crm.locals ≤ R.locals) (hc0 : crm.cells = 0) (hs0 : crm.slots = 0) (hc : k ≤ R.cells) (hs : sl ≤ R.slots)
    (hlen : ∀ sig, parseMethodDescriptor z.desc = some sig → argsL.length = sig.parameters.length) (hst : S = argsL.reverse ++ rest) (hW : 2 * 0 + (rest.map fun v => v.category).sum ≤ W) (hsz : Ls.size = ml)
    (hd : decode bytes pc = .ok (.invokestatic i, 3)) (hpc : pc + 3 = pc')
    (hS' : w.toList ++ rest = S') (K : ∀ T' h', own_S Z n0 bytes y ml ret p l e R s m args below meth c T' k sl h' → Θ h' → own_G p e below Φ T' (mkF m pc' Ls S')) : own_G p e below Φ T (mkF m pc Ls S) := by
  obtain ⟨⟨locs, Y, N⟩, hh, hn, hx, hZ, hby, hml, hown, hnm, hret, hlk⟩ := X
  subst hpc
  obtain ⟨v, _, ⟨T', L', k', n'⟩, -, X', ⟨Lc, hQ, l1, y1, z1⟩, st⟩ := Jvm.LawKit.callS Y hx (y := z) hown (mvT hZ w1) (mvT hZ w2) (mvT hZ w3) (mvT hZ w4) hz (backOf (W := W) (Q := fun v h' L => (v = w ∧ Θ h') ∧ Fr n0 L) (M []) hZ w4 w3 hf hl) (g := mkF m pc Ls S) rfl (by rw [hml]; exact hsz) (argsL := argsL) (rest := rest) hlen hst hW (hb hby hd) (fun _ _ => ⟨rfl, hh, by rw [hc0]; exact hc, by rw [hs0]; exact hs⟩)
  dsimp only [Pt.U, Pt.locs, Pt.cells, Pt.slots] at X' l1 y1 z1 st hQ
  subst l1 y1 z1
  obtain ⟨⟨rfl, hQ1⟩, hQ2⟩ := hQ
  rw [hc0, hs0] at X'
  subst hS'
  exact own_by (K T' _ ⟨⟨_, X', N.app hQ2⟩, rfl, hn, hx, hZ, hby, hml, hown, hnm, hret, hlk⟩ hQ1) st
theorem own_callI {z : MethodName} {cb : ByteArray} {cml : Nat} {crm : Room} {i : Nat} {a : Addr} {argsL rest S' : List Value} {w : Option Value} {Θ : Heap → Prop} (X : own_S Z n0 bytes y ml ret p l e R s m args below meth c T k sl h) (M : own_Met l z cb cml none crm Z n0 (.ref a :: argsL).toArray h w Θ) (hi : z.name = "<init>")
    (w1 : (Jvm.Cond.methodLink y.cls i z).before a0 Z = true) (w2 : (Jvm.Cond.instanceMethod z).before a0 Z = true) (w3 : (Jvm.Cond.initialized z.cls).before a0 Z = true) (w4 : (Jvm.Cond.code z cb cml none).before a0 Z = true) (hz : z.cls ≠ "java/lang/invoke/MethodHandle" ∧ z.cls ≠ "java/lang/invoke/VarHandle")
    {W : Nat} (hf : crm.frames + 1 ≤ R.frames) (hl : W + (cml + 11) + crm.locals ≤ R.locals) (hc0 : crm.cells = 0) (hs0 : crm.slots = 0) (hc : k ≤ R.cells) (hs : sl ≤ R.slots)
    (hlen : ∀ sig, parseMethodDescriptor z.desc = some sig → argsL.length = sig.parameters.length) (hst : S = argsL.reverse ++ .ref a :: rest) (hW : 2 * 0 + (rest.map fun v => v.category).sum ≤ W) (hsz : Ls.size = ml)
    (hd : decode bytes pc = .ok (.invokespecial i, 3)) (hpc : pc + 3 = pc')
    (hS' : w.toList ++ rest = S') (K : ∀ T' h', own_S Z n0 bytes y ml ret p l e R s m args below meth c T' k sl h' → Θ h' → own_G p e below Φ T' (mkF m pc' Ls S')) : own_G p e below Φ T (mkF m pc Ls S) := by
  obtain ⟨⟨locs, Y, N⟩, hh, hn, hx, hZ, hby, hml, hown, hnm, hret, hlk⟩ := X
  subst hpc
  obtain ⟨v, _, ⟨T', L', k', n'⟩, -, X', ⟨Lc, hQ, l1, y1, z1⟩, st⟩ := Y.specialBack hx (y := z) hi hown (mvT hZ w1) (mvT hZ w2) (mvT hZ w4) hz (backOf (W := W) (Q := fun v h' L => (v = w ∧ Θ h') ∧ Fr n0 L) (M []) hZ w4 w3 hf hl) (g := mkF m pc Ls S) rfl (by rw [hml]; exact hsz) (Steps.refl _) (a := a) (argsL := argsL) (rest := rest) hlen hst hW (hb hby hd) (fun _ _ => ⟨rfl, hh, by rw [hc0]; exact hc, by rw [hs0]; exact hs⟩)
  dsimp only [Pt.U, Pt.locs, Pt.cells, Pt.slots] at X' l1 y1 z1 st hQ
  subst l1 y1 z1
  obtain ⟨⟨rfl, hQ1⟩, hQ2⟩ := hQ
  rw [hc0, hs0] at X'
  subst hS'
  exact own_by (K T' _ ⟨⟨_, X', N.app hQ2⟩, rfl, hn, hx, hZ, hby, hml, hown, hnm, hret, hlk⟩ hQ1) fun t kk => st.trans kk
theorem own_callV {z : MethodName} {cb : ByteArray} {cml : Nat} {cret : Option FieldType} {crm : Room} {i : Nat} {a : Addr} {argsL rest S' : List Value} {w : Option Value} {Θ : Heap → Prop} (X : own_S Z n0 bytes y ml ret p l e R s m args below meth c T k sl h) (M : own_Met l z cb cml cret crm Z n0 (.ref a :: argsL).toArray h w Θ) (E : Exa Z h a z.cls)
    (w1 : (Jvm.Cond.methodLink y.cls i z).before a0 Z = true) (w2 : (Jvm.Cond.declares z).before a0 Z = true) (w5 : (Jvm.Cond.selects z.cls z z).before a0 Z = true) (w6 : (Jvm.Cond.instanceMethod z).before a0 Z = true) (w3 : (Jvm.Cond.initialized z.cls).before a0 Z = true) (w4 : (Jvm.Cond.code z cb cml cret).before a0 Z = true) (hz : z.cls ≠ "java/lang/invoke/MethodHandle" ∧ z.cls ≠ "java/lang/invoke/VarHandle")
    {W : Nat} (hf : crm.frames + 1 ≤ R.frames) (hl : W + (cml + 11) + crm.locals ≤ R.locals) (hc0 : crm.cells = 0) (hs0 : crm.slots = 0) (hc : k ≤ R.cells) (hs : sl ≤ R.slots)
    (hlen : ∀ sig, parseMethodDescriptor z.desc = some sig → argsL.length = sig.parameters.length) (hst : S = argsL.reverse ++ .ref a :: rest) (hW : 2 * 0 + (rest.map fun v => v.category).sum ≤ W) (hsz : Ls.size = ml)
    (hd : decode bytes pc = .ok (.invokevirtual i, 3)) (hpc : pc + 3 = pc')
    (hS' : w.toList ++ rest = S') (K : ∀ T' h', own_S Z n0 bytes y ml ret p l e R s m args below meth c T' k sl h' → Θ h' → own_G p e below Φ T' (mkF m pc' Ls S')) : own_G p e below Φ T (mkF m pc Ls S) := by
  obtain ⟨⟨locs, Y, N⟩, hh, hn, hx, hZ, hby, hml, hown, hnm, hret, hlk⟩ := X
  subst hpc
  obtain ⟨cq, kq, qa, qb, qc⟩ := isOf hZ hh E
  obtain ⟨v, _, ⟨T', L', k', n'⟩, -, X', ⟨Lc, hQ, l1, y1, z1⟩, st⟩ := Y.virtualBack hx (y := z) (z := z) hown (mvT hZ w1) (mvT hZ w2) (notFace_of_selects (args := #[]) (mvT hZ w5)) (mvT hZ w5) (mvT hZ w6) hz (backOf (W := W) (Q := fun v h' L => (v = w ∧ Θ h') ∧ Fr n0 L) (M []) hZ w4 w3 hf hl) qa qc (g := mkF m pc Ls S) rfl (by rw [hml]; exact hsz) (Steps.refl _) (argsL := argsL) (rest := rest) hlen hst hW (hb hby hd) (fun _ _ => ⟨rfl, hh, by rw [hc0]; exact hc, by rw [hs0]; exact hs⟩)
  dsimp only [Pt.U, Pt.locs, Pt.cells, Pt.slots] at X' l1 y1 z1 st hQ
  subst l1 y1 z1
  obtain ⟨⟨rfl, hQ1⟩, hQ2⟩ := hQ
  rw [hc0, hs0] at X'
  subst hS'
  exact own_by (K T' _ ⟨⟨_, X', N.app hQ2⟩, rfl, hn, hx, hZ, hby, hml, hown, hnm, hret, hlk⟩ hQ1) fun t kk => st.trans kk
theorem own_objI (X : own_S Z n0 bytes y ml ret p l e R s m args below meth c T k sl h) {i : Nat} {a : Addr} (w1 : (Jvm.Cond.methodLink y.cls i Lib.objectInit).before a0 Z = true) (w2 : (Jvm.Cond.instanceMethod Lib.objectInit).before a0 Z = true) (w3 : (Jvm.Cond.code Lib.objectInit object_method_1_code 1 none).before a0 Z = true)
    (hd : decode bytes pc = .ok (.invokespecial i, 3)) (hpc : pc + 3 = pc') (hsz : Ls.size = ml) (hf : 1 ≤ R.frames) {W : Nat} (hW : 2 * 0 + (S.map fun v => v.category).sum ≤ W) (hl : W + 12 ≤ R.locals)
    (K : ∀ T', own_S Z n0 bytes y ml ret p l e R s m args below meth c T' k sl h → own_G p e below Φ T' (mkF m pc' Ls S)) : own_G p e below Φ T (mkF m pc Ls (.ref a :: S)) := by
  obtain ⟨⟨locs, Y, N⟩, hh, hn, hx, hZ, hby, hml, hown, hnm, hret, hlk⟩ := X
  subst hpc
  obtain ⟨T', X', e', st⟩ := initO Y hx hZ hown w1 w2 w3 hh (g := mkF m pc Ls (.ref a :: S)) rfl (by rw [hml]; exact hsz) rfl (hb hby hd) hf (W := W) hW hl
  exact own_by (K T' ⟨⟨_, X', N⟩, e', hn, hx, hZ, hby, hml, hown, hnm, hret, hlk⟩) st
theorem own_getF (X : own_S Z n0 bytes y ml ret p l e R s m args below meth c T k sl h) {i : Nat} {a : Addr} {O nm d : String} {v : Value} (w : (Jvm.Cond.fieldLink y.cls i O nm d).before a0 Z = true) (F : Fld Z h a O nm d v) (hd : decode bytes pc = .ok (.getfield i, 3)) (hpc : pc + 3 = pc')
    (K : ∀ T', own_S Z n0 bytes y ml ret p l e R s m args below meth c T' k sl h → own_G p e below Φ T' (mkF m pc' Ls (v :: S))) : own_G p e below Φ T (mkF m pc Ls (.ref a :: S)) := by
  obtain ⟨⟨locs, Y, N⟩, hh, hn, hx, hZ, hby, hml, hown, hnm, hret, hlk⟩ := X
  subst hpc
  obtain ⟨T', X', e', st⟩ := getF Y hx hZ hown (host := "") (Or.inl w) Via.refl hh F (g := mkF m pc Ls (.ref a :: S)) rfl rfl (hb hby hd)
  exact own_by (K T' ⟨⟨_, X', N⟩, e', hn, hx, hZ, hby, hml, hown, hnm, hret, hlk⟩) st
theorem own_putF (X : own_S Z n0 bytes y ml ret p l e R s m args below meth c T k sl h) {i kk : Nat} {a : Addr} {O nm d C : String} {v v' old : Value} {ty : FieldType} (w : (Jvm.Cond.fieldLink y.cls i O nm d).before a0 Z = true) (F : Fld Z h a O nm d old) (E : Exa Z h a C) (ha : n0 ≤ a)
    (L : (Jvm.Cond.lays C O nm d).before a0 Z = true ∨ ((Jvm.Cond.laysFinal C O nm d).before a0 Z = true ∧ y.cls = O ∧ y.name = "<init>")) (wi : (Jvm.Cond.instantiable C kk).before a0 Z = true) (hty : parseFieldDescriptor d = some ty) (hv : narrow ty v = v') (hf : fits ty v' = true)
    (hd : decode bytes pc = .ok (.putfield i, 3)) (hpc : pc + 3 = pc')
    (K : ∀ T' h', own_S Z n0 bytes y ml ret p l e R s m args below meth c T' k sl h' → Wr h h' a (Jvm.RoadKit.slotOf Z O nm d) v' → own_G p e below Φ T' (mkF m pc' Ls S)) : own_G p e below Φ T (mkF m pc Ls (v :: .ref a :: S)) := by
  obtain ⟨⟨locs, Y, N⟩, hh, hn, hx, hZ, hby, hml, hown, hnm, hret, hlk⟩ := X
  subst hpc
  obtain ⟨T', h', X', e', W', st⟩ := putFN Y hx hZ hown w Via.refl hh F E (L.imp id fun q => ⟨q.1, q.2.1, hnm.trans q.2.2⟩) wi hty hv hf (g := mkF m pc Ls (v :: .ref a :: S)) rfl rfl (hb hby hd)
  exact own_by (K T' h' ⟨⟨_, X', Fr.snoc X' N ha⟩, e', hn, hx, hZ, hby, hml, hown, hnm, hret, hlk⟩ W') st
theorem own_new (X : own_S Z n0 bytes y ml ret p l e R s m args below meth c T k sl h) {i n : Nat} {C : String} (w : (Jvm.Cond.classLink y.cls i C).before a0 Z = true) (wi : (Jvm.Cond.instantiable C n).before a0 Z = true) (wz : (Jvm.Cond.initialized C).before a0 Z = true) (hd : decode bytes pc = .ok (.new i, 3)) (hpc : pc + 3 = pc') (hc : k + 1 ≤ R.cells) (hs : sl + n ≤ R.slots)
    (K : ∀ T' h' a, own_S Z n0 bytes y ml ret p l e R s m args below meth c T' (k + 1) (sl + n) h' → n0 ≤ a → a = h.size → Ext h h' → Exa Z h' a C → (∀ {O nm d : String} {ty : FieldType}, Laid Z a0 C O nm d → parseFieldDescriptor d = some ty → Fld Z h' a O nm d (defaultValue ty)) → own_G p e below Φ T' (mkF m pc' Ls (.ref a :: S))) : own_G p e below Φ T (mkF m pc Ls S) := by
  have hsz := X.size
  obtain ⟨⟨locs, Y, N⟩, hh, hn, hx, hZ, hby, hml, hown, hnm, hret, hlk⟩ := X
  subst hpc
  obtain ⟨T', h', X', e', E', A', D', -, st⟩ := newO Y hx hZ hown w wi wz hh (g := mkF m pc Ls S) rfl (hb hby hd) hc hs
  exact own_by (K T' h' h.size ⟨⟨_, X', N⟩, e', hn, hx, hZ, hby, hml, hown, hnm, hret, hlk⟩ hsz rfl E' A' D') st
def own_A (Z : State) (h : Heap) (a : Addr) (ty : FieldType) (vs : List Int32) : Prop := ∃ cl : Cell, Arr Z h a cl ty ∧ cl.slots.size = vs.length ∧ ∀ j, j < vs.length → cl.slots[j]? = some (.int (vs.getD j 0))
theorem own_A.ext {h' : Heap} {a : Addr} {ty : FieldType} {vs : List Int32} (A : own_A Z h a ty vs) (E : Ext h h') : own_A Z h' a ty vs := by obtain ⟨cl, q, r⟩ := A; exact ⟨cl, q.ext E, r⟩
theorem own_A.other {h' : Heap} {a b : Addr} {ty : FieldType} {vs : List Int32} {i : Nat} {v : Value} (A : own_A Z h b ty vs) (W : Wr h h' a i v) (q : b ≠ a) : own_A Z h' b ty vs := by obtain ⟨cl, r, t⟩ := A; exact ⟨cl, r.other W q, t⟩
theorem own_A.keep {h' : Heap} {a : Addr} {ty : FieldType} {vs : List Int32} {ws : List Addr} (A : own_A Z h a ty vs) (K : Keep h h' ws) (q : a ∉ ws) : own_A Z h' a ty vs := by obtain ⟨cl, r, t⟩ := A; exact ⟨cl, ⟨K.2.1 a cl r.1 q, r.2⟩, t⟩
theorem own_A.lt {a : Addr} {ty : FieldType} {vs : List Int32} (A : own_A Z h a ty vs) : a < h.size := by obtain ⟨cl, q, r⟩ := A; exact q.lt
def own_in (j : Int32) (n : Nat) : Bool := decide (0 ≤ j.toInt) && Nat.blt j.toNatClampNeg n
theorem own_in_not {j : Int32} {n : Nat} (q : own_in j n = true) : j.toNatClampNeg < n ∧ ¬ (j < 0 ∨ n ≤ j.toNatClampNeg) := by
  simp only [own_in, Bool.and_eq_true, decide_eq_true_eq] at q
  have h2 : j.toNatClampNeg < n := Nat.le_of_ble_eq_true q.2
  refine ⟨h2, ?_⟩
  simp only [Int32.lt_iff_toInt_lt, Int32.reduceToInt]
  omega
theorem own_baload (X : own_S Z n0 bytes y ml ret p l e R s m args below meth c T k sl h) {a : Addr} {vs : List Int32} {j v : Int32} (A : own_A Z h a .byte vs) (hj : own_in j vs.length = true) (hv : vs.getD j.toNatClampNeg 0 = v) (hd : decode bytes pc = .ok (.baload, 1)) (hpc : pc + 1 = pc') (K : own_G p e below Φ T (mkF m pc' Ls (.int v :: S))) : own_G p e below Φ T (mkF m pc Ls (.int j :: .ref a :: S)) := by
  obtain ⟨⟨locs, Y, N⟩, hh, hn, hx, hZ, hby, hml, hown, hnm, hret, hlk⟩ := X
  subst hpc
  obtain ⟨cl, q, r, t⟩ := A
  obtain ⟨j1, j2⟩ := own_in_not hj
  exact own_by K fun t' kk => Y.baloadBytes hx (j := j) (v := .int v) (by rw [hh]; exact q.1) (State.isArrayOf_alike hZ.alike q.2.1) q.2.2 (by rw [r]; exact j2) (by rw [t _ j1, hv]) (g := mkF m pc Ls (.int j :: .ref a :: S)) rfl rfl (hb hby hd) t' kk
theorem own_iaload (X : own_S Z n0 bytes y ml ret p l e R s m args below meth c T k sl h) {a : Addr} {vs : List Int32} {j v : Int32} (A : own_A Z h a .int vs) (hj : own_in j vs.length = true) (hv : vs.getD j.toNatClampNeg 0 = v) (hd : decode bytes pc = .ok (.iaload, 1)) (hpc : pc + 1 = pc') (K : own_G p e below Φ T (mkF m pc' Ls (.int v :: S))) : own_G p e below Φ T (mkF m pc Ls (.int j :: .ref a :: S)) := by
  obtain ⟨⟨locs, Y, N⟩, hh, hn, hx, hZ, hby, hml, hown, hnm, hret, hlk⟩ := X
  subst hpc
  obtain ⟨cl, q, r, t⟩ := A
  obtain ⟨j1, j2⟩ := own_in_not hj
  exact own_by K fun t' kk => Y.iaload hx (j := j) (v := .int v) (by rw [hh]; exact q.1) (State.isArrayOf_alike hZ.alike q.2.1) q.2.2 (by rw [r]; exact j2) (by rw [t _ j1, hv]) (g := mkF m pc Ls (.int j :: .ref a :: S)) rfl rfl (hb hby hd) t' kk
theorem own_len (X : own_S Z n0 bytes y ml ret p l e R s m args below meth c T k sl h) {a : Addr} {ty : FieldType} {vs : List Int32} {v : Int32} (A : own_A Z h a ty vs) (hv : vs.length.toInt32 = v) (hd : decode bytes pc = .ok (.arraylength, 1)) (hpc : pc + 1 = pc') (K : own_G p e below Φ T (mkF m pc' Ls (.int v :: S))) : own_G p e below Φ T (mkF m pc Ls (.ref a :: S)) := by
  obtain ⟨⟨locs, Y, N⟩, hh, hn, hx, hZ, hby, hml, hown, hnm, hret, hlk⟩ := X
  subst hpc
  obtain ⟨cl, q, r, t⟩ := A
  exact own_by K fun t' kk => Y.arraylength hx (by rw [hh]; exact q.1) (State.isArrayOf_alike hZ.alike q.2.1) (g := mkF m pc Ls (.ref a :: S)) rfl rfl (hb hby hd) t' (by rw [r, hv]; exact kk)
theorem own_set {h' : Heap} {a : Addr} {ty : FieldType} {vs : List Int32} {i : Nat} {v : Int32} {cl : Cell} (q : Arr Z h a cl ty) (r : cl.slots.size = vs.length) (t : ∀ j, j < vs.length → cl.slots[j]? = some (.int (vs.getD j 0))) (hi : i < vs.length) (W : Wr h h' a i (.int v)) : own_A Z h' a ty (vs.set i v) := by
  refine ⟨cl.setSlot i (.int v), q.same W, by rw [sz_set, r, List.length_set], fun j hj => ?_⟩
  rw [List.length_set] at hj
  have hc : i < cl.slots.size := by rw [r]; exact hi
  show (cl.slots.setIfInBounds i (.int v))[j]? = _
  rw [Array.getElem?_setIfInBounds]
  by_cases e : i = j
  · subst e
    simp [hc, List.getD_eq_getElem?_getD, hi]
  · simp only [e, if_false]
    rw [t j hj]
    simp [List.getD_eq_getElem?_getD, List.getElem?_set, e]
theorem own_bastore (X : own_S Z n0 bytes y ml ret p l e R s m args below meth c T k sl h) {a : Addr} {vs vs' : List Int32} {j v v' : Int32} (A : own_A Z h a .byte vs) (ha : n0 ≤ a) (hj : own_in j vs.length = true) (hv : v.toInt8.toInt32 = v') (hvs : vs.set j.toNatClampNeg v' = vs') (hd : decode bytes pc = .ok (.bastore, 1)) (hpc : pc + 1 = pc')
    (K : ∀ T' h', own_S Z n0 bytes y ml ret p l e R s m args below meth c T' k sl h' → own_A Z h' a .byte vs' → Wr h h' a j.toNatClampNeg (.int v') → own_G p e below Φ T' (mkF m pc' Ls S)) : own_G p e below Φ T (mkF m pc Ls (.int v :: .int j :: .ref a :: S)) := by
  obtain ⟨⟨locs, Y, N⟩, hh, hn, hx, hZ, hby, hml, hown, hnm, hret, hlk⟩ := X
  subst hpc hvs hv
  obtain ⟨cl, q, r, t⟩ := A
  obtain ⟨j1, j2⟩ := own_in_not hj
  obtain ⟨T', h', X', e', W', st⟩ := stB Y hx hZ hh q (j := j) (x := v) (by rw [r]; exact j2) (g := mkF m pc Ls (.int v :: .int j :: .ref a :: S)) rfl rfl (hb hby hd)
  exact own_by (K T' h' ⟨⟨_, X', Fr.snoc X' N ha⟩, e', hn, hx, hZ, hby, hml, hown, hnm, hret, hlk⟩ (own_set q r t j1 W') W') st
theorem own_iastore (X : own_S Z n0 bytes y ml ret p l e R s m args below meth c T k sl h) {a : Addr} {vs vs' : List Int32} {j v : Int32} (A : own_A Z h a .int vs) (ha : n0 ≤ a) (hj : own_in j vs.length = true) (hvs : vs.set j.toNatClampNeg v = vs') (hd : decode bytes pc = .ok (.iastore, 1)) (hpc : pc + 1 = pc')
    (K : ∀ T' h', own_S Z n0 bytes y ml ret p l e R s m args below meth c T' k sl h' → own_A Z h' a .int vs' → Wr h h' a j.toNatClampNeg (.int v) → own_G p e below Φ T' (mkF m pc' Ls S)) : own_G p e below Φ T (mkF m pc Ls (.int v :: .int j :: .ref a :: S)) := by
  obtain ⟨⟨locs, Y, N⟩, hh, hn, hx, hZ, hby, hml, hown, hnm, hret, hlk⟩ := X
  subst hpc hvs
  obtain ⟨cl, q, r, t⟩ := A
  obtain ⟨j1, j2⟩ := own_in_not hj
  obtain ⟨T', h', X', e', W', st⟩ := stI Y hx hZ hh q (j := j) (x := v) (by rw [r]; exact j2) (g := mkF m pc Ls (.int v :: .int j :: .ref a :: S)) rfl rfl (hb hby hd)
  exact own_by (K T' h' ⟨⟨_, X', Fr.snoc X' N ha⟩, e', hn, hx, hZ, hby, hml, hown, hnm, hret, hlk⟩ (own_set q r t j1 W') W') st
theorem own_newarr (X : own_S Z n0 bytes y ml ret p l e R s m args below meth c T k sl h) {aty : ArrayType} {n : Int32} {len : Nat} {vs : List Int32} (w : (Jvm.Cond.arrayClass (newarray.typeOf aty)).before a0 Z = true) (hty : defaultValue (newarray.typeOf aty) = .int 0) (hn0 : ¬ n < 0) (hlen : n.toNatClampNeg = len) (hvs : List.replicate len 0 = vs) (hbig : len * 8 ≤ 536870912) (hd : decode bytes pc = .ok (.newarray aty, 2)) (hpc : pc + 2 = pc') (hc : k + 1 ≤ R.cells) (hs : sl + len ≤ R.slots)
    (K : ∀ T' h' a, own_S Z n0 bytes y ml ret p l e R s m args below meth c T' (k + 1) (sl + len) h' → n0 ≤ a → a = h.size → Ext h h' → own_A Z h' a (newarray.typeOf aty) vs → own_G p e below Φ T' (mkF m pc' Ls (.ref a :: S))) : own_G p e below Φ T (mkF m pc Ls (.int n :: S)) := by
  have hsz := X.size
  obtain ⟨⟨locs, Y, N⟩, hh, hn, hx, hZ, hby, hml, hown, hnm, hret, hlk⟩ := X
  subst hpc hvs hlen
  obtain ⟨T', h', cA, X', e', E', A', st⟩ := newP Y hx hZ w hh (g := mkF m pc Ls (.int n :: S)) rfl (hb hby hd) rfl hn0 (cap := n.toNatClampNeg) (Nat.le_refl _) hbig hc hs
  refine own_by (K T' h' h.size ⟨⟨_, X', N⟩, e', hn, hx, hZ, hby, hml, hown, hnm, hret, hlk⟩ hsz rfl E' ⟨_, A', by rw [sz_new, List.length_replicate], fun j hj => ?_⟩) st
  rw [List.length_replicate] at hj
  simp [newA, hj, hty, List.getD_eq_getElem?_getD]
theorem own_b8 (v : Int32) : (v.toInt8.toInt32).toInt8.toInt32 = v.toInt8.toInt32 := by simp
end OwnKit
def own_W (Z : State) (h : Heap) (a d : Addr) (k : Int32) : Prop := Exa Z h a "com/example/quern/quern/index/DeletionsFile$Walk" ∧ Fld Z h a "com/example/quern/quern/index/DeletionsFile$Walk" "documents" "[I" (.ref d) ∧ Fld Z h a "com/example/quern/quern/index/DeletionsFile$Walk" "next" "I" (.int k)
def own_mn (a b : Int32) : Int32 := if b < a then b else a
def own_mx (a b : Int32) : Int32 := if b < a then a else b
theorem own_cp (a b : Int32) : (own_mn a b).toInt ≤ (own_mx a b).toInt ∧ (((own_mn a b).toInt = a.toInt ∧ (own_mx a b).toInt = b.toInt) ∨ ((own_mn a b).toInt = b.toInt ∧ (own_mx a b).toInt = a.toInt)) := by
  unfold own_mn own_mx
  by_cases h : b < a
  · rw [if_pos h, if_pos h]; rw [Int32.lt_iff_toInt_lt] at h; omega
  · rw [if_neg h, if_neg h]; rw [Int32.lt_iff_toInt_lt] at h; omega
theorem own_ne {a b : Int32} (h : ¬ a = b) : a.toInt ≠ b.toInt := fun q => h (Int32.toInt_inj.mp q)
theorem own_s3 (a b c : Int32) (h1 : a.toInt ≠ b.toInt) (h2 : b.toInt ≠ c.toInt) (h3 : a.toInt ≠ c.toInt) :
    (own_mn (own_mn a b) (own_mn (own_mx a b) c)).toInt < (own_mx (own_mn a b) (own_mn (own_mx a b) c)).toInt ∧ (own_mx (own_mn a b) (own_mn (own_mx a b) c)).toInt < (own_mx (own_mx a b) c).toInt := by
  have c1 := own_cp a b
  generalize own_mn a b = x at *
  generalize own_mx a b = y at *
  have c2 := own_cp y c
  generalize own_mn y c = z at *
  generalize own_mx y c = w at *
  have c3 := own_cp x z
  omega
theorem own_s4 (a b c d : Int32) : ∀ q0 q1 q2 q3, q0 = own_mn (own_mn a b) (own_mn c d) → q1 = own_mn (own_mn (own_mx a b) (own_mx c d)) (own_mx (own_mn a b) (own_mn c d)) → q2 = own_mx (own_mn (own_mx a b) (own_mx c d)) (own_mx (own_mn a b) (own_mn c d)) → q3 = own_mx (own_mx a b) (own_mx c d) → q0.toInt ≤ q1.toInt ∧ q1.toInt ≤ q2.toInt ∧ q2.toInt ≤ q3.toInt := by
  intro q0 q1 q2 q3 e0 e1 e2 e3
  subst e0 e1 e2 e3
  have c1 := own_cp a b
  generalize own_mn a b = a1 at *
  generalize own_mx a b = b1 at *
  have c2 := own_cp c d
  generalize own_mn c d = c1' at *
  generalize own_mx c d = d1 at *
  have c3 := own_cp a1 c1'
  have c4 := own_cp b1 d1
  generalize own_mn a1 c1' = a2 at *
  generalize own_mx a1 c1' = c2' at *
  generalize own_mn b1 d1 = b2 at *
  generalize own_mx b1 d1 = d2 at *
  have c5 := own_cp b2 c2'
  omega
def own_nx : List Int32 → Int32 → Int32 → Int32
  | [], k, _ => k
  | d :: ds, k, q => if d < q then own_nx ds (k + 1) q else k
def own_hd : List Int32 → Int32 → Int32
  | [], _ => 0
  | d :: ds, q => if d < q then own_hd ds q else if d = q then 1 else 0
def own_mb : List Int32 → Int32 → Int32
  | [], _ => 0
  | d :: ds, q => if q = d then 1 else own_mb ds q
theorem own_nxn (k q : Int32) : own_nx [] k q = k := rfl
theorem own_nxc (d k q : Int32) (ds : List Int32) : own_nx (d :: ds) k q = if d < q then own_nx ds (k + 1) q else k := rfl
theorem own_hdn (q : Int32) : own_hd [] q = 0 := rfl
theorem own_hdc (d q : Int32) (ds : List Int32) : own_hd (d :: ds) q = if d < q then own_hd ds q else if d = q then 1 else 0 := rfl
theorem own_mbn (q : Int32) : own_mb [] q = 0 := rfl
theorem own_mbc (d q : Int32) (ds : List Int32) : own_mb (d :: ds) q = if q = d then 1 else own_mb ds q := rfl
theorem own_and3 {a v : Int32} (e : a &&& (3 : Int32) = v) : v = 0 ∨ v = 1 ∨ v = 2 ∨ v = 3 := by
  have h := c_mask a 3 2 (by decide) (by decide)
  rw [e] at h
  have k1 : ∀ n : Int32, v = n ↔ v.toInt = n.toInt := fun n => Int32.toInt_inj.symm
  simp only [k1, Int32.reduceToInt]
  omega
def own_pk (s0 s1 s2 mode raw : Int32) : Int32 := if ¬ (mode &&& (3 : Int32)) = 3 then (([s0, s1, s2].getD (mode &&& (3 : Int32)).toNatClampNeg 0 + (((mode.toUInt32 >>> ((2 : Int32) &&& 31).toUInt32).toInt32) &&& (3 : Int32))) - (1 : Int32)) else raw
theorem own_pin {mode : Int32} (h : ¬ (mode &&& (3 : Int32)) = 3) : own_in (mode &&& (3 : Int32)) 3 = true := by
  rcases own_and3 (a := mode) rfl with q | q | q | q <;> rw [q] at h ⊢ <;> first | rfl | exact absurd rfl h
theorem own_hm_0_0 (s0 s1 s2 q : Int32) (h1 : s0.toInt < s1.toInt) (h2 : s1.toInt < s2.toInt)  : own_hd [] q = own_mb [] q := by
  have k1 : ∀ a b : Int32, a < b ↔ a.toInt < b.toInt := fun a b => Int32.lt_iff_toInt_lt
  have k2 : ∀ a b : Int32, a = b ↔ a.toInt = b.toInt := fun a b => Int32.toInt_inj.symm
  have e1 : ∀ d q : Int32, ∀ ds, own_hd (d :: ds) q = if d.toInt < q.toInt then own_hd ds q else if d.toInt = q.toInt then 1 else 0 := fun d q ds => by rw [own_hdc]; simp only [k1, k2 d q]
  have e2 : ∀ d q : Int32, ∀ ds, own_mb (d :: ds) q = if q.toInt = d.toInt then 1 else own_mb ds q := fun d q ds => by rw [own_mbc]; simp only [k2 q d]
  simp only [e1, e2, own_hdn, own_mbn]
  repeat' split
  all_goals first | rfl | omega
theorem own_nc_0_0 (_u q : Int32) : (own_nx [] 0 q = 0) := by
  rfl
theorem own_hm_1_0 (s0 s1 s2 q : Int32) (h1 : s0.toInt < s1.toInt) (h2 : s1.toInt < s2.toInt)  : own_hd [s0] q = own_mb [s0] q := by
  have k1 : ∀ a b : Int32, a < b ↔ a.toInt < b.toInt := fun a b => Int32.lt_iff_toInt_lt
  have k2 : ∀ a b : Int32, a = b ↔ a.toInt = b.toInt := fun a b => Int32.toInt_inj.symm
  have e1 : ∀ d q : Int32, ∀ ds, own_hd (d :: ds) q = if d.toInt < q.toInt then own_hd ds q else if d.toInt = q.toInt then 1 else 0 := fun d q ds => by rw [own_hdc]; simp only [k1, k2 d q]
  have e2 : ∀ d q : Int32, ∀ ds, own_mb (d :: ds) q = if q.toInt = d.toInt then 1 else own_mb ds q := fun d q ds => by rw [own_mbc]; simp only [k2 q d]
  simp only [e1, e2, own_hdn, own_mbn]
  repeat' split
  all_goals first | rfl | omega
theorem own_nc_1_0 (s0 q : Int32) : (own_nx [s0] 0 q = 0) ∨ (own_nx [s0] 0 q = 1 ∧ s0.toInt < q.toInt) := by
  have k1 : ∀ a b : Int32, a < b ↔ a.toInt < b.toInt := fun a b => Int32.lt_iff_toInt_lt
  by_cases g0 : s0 < q
  rotate_left
  · exact Or.inl (by rw [own_nxc, if_neg g0])
  exact Or.inr ⟨by rw [own_nxc, if_pos g0, own_nxn]; try decide, (k1 _ _).mp g0⟩
theorem own_hm_1_1 (s0 s1 s2 q : Int32) (h1 : s0.toInt < s1.toInt) (h2 : s1.toInt < s2.toInt) (f0 : s0.toInt < q.toInt) : own_hd [] q = own_mb [s0] q := by
  have k1 : ∀ a b : Int32, a < b ↔ a.toInt < b.toInt := fun a b => Int32.lt_iff_toInt_lt
  have k2 : ∀ a b : Int32, a = b ↔ a.toInt = b.toInt := fun a b => Int32.toInt_inj.symm
  have e1 : ∀ d q : Int32, ∀ ds, own_hd (d :: ds) q = if d.toInt < q.toInt then own_hd ds q else if d.toInt = q.toInt then 1 else 0 := fun d q ds => by rw [own_hdc]; simp only [k1, k2 d q]
  have e2 : ∀ d q : Int32, ∀ ds, own_mb (d :: ds) q = if q.toInt = d.toInt then 1 else own_mb ds q := fun d q ds => by rw [own_mbc]; simp only [k2 q d]
  simp only [e1, e2, own_hdn, own_mbn]
  repeat' split
  all_goals first | rfl | omega
theorem own_nc_1_1 (_u q : Int32) : (own_nx [] 1 q = 1) := by
  rfl
theorem own_hm_2_0 (s0 s1 s2 q : Int32) (h1 : s0.toInt < s1.toInt) (h2 : s1.toInt < s2.toInt)  : own_hd [s0, s1] q = own_mb [s0, s1] q := by
  have k1 : ∀ a b : Int32, a < b ↔ a.toInt < b.toInt := fun a b => Int32.lt_iff_toInt_lt
  have k2 : ∀ a b : Int32, a = b ↔ a.toInt = b.toInt := fun a b => Int32.toInt_inj.symm
  have e1 : ∀ d q : Int32, ∀ ds, own_hd (d :: ds) q = if d.toInt < q.toInt then own_hd ds q else if d.toInt = q.toInt then 1 else 0 := fun d q ds => by rw [own_hdc]; simp only [k1, k2 d q]
  have e2 : ∀ d q : Int32, ∀ ds, own_mb (d :: ds) q = if q.toInt = d.toInt then 1 else own_mb ds q := fun d q ds => by rw [own_mbc]; simp only [k2 q d]
  simp only [e1, e2, own_hdn, own_mbn]
  repeat' split
  all_goals first | rfl | omega
theorem own_nc_2_0 (s0 s1 q : Int32) : (own_nx [s0, s1] 0 q = 0) ∨ (own_nx [s0, s1] 0 q = 1 ∧ s0.toInt < q.toInt) ∨ (own_nx [s0, s1] 0 q = 2 ∧ s0.toInt < q.toInt ∧ s1.toInt < q.toInt) := by
  have k1 : ∀ a b : Int32, a < b ↔ a.toInt < b.toInt := fun a b => Int32.lt_iff_toInt_lt
  by_cases g0 : s0 < q
  rotate_left
  · exact Or.inl (by rw [own_nxc, if_neg g0])
  by_cases g1 : s1 < q
  rotate_left
  · exact Or.inr (Or.inl ⟨by rw [own_nxc, if_pos g0, own_nxc, if_neg g1]; try decide, (k1 _ _).mp g0⟩)
  exact Or.inr (Or.inr ⟨by rw [own_nxc, if_pos g0, own_nxc, if_pos g1, own_nxn]; try decide, (k1 _ _).mp g0, (k1 _ _).mp g1⟩)
theorem own_hm_2_1 (s0 s1 s2 q : Int32) (h1 : s0.toInt < s1.toInt) (h2 : s1.toInt < s2.toInt) (f0 : s0.toInt < q.toInt) : own_hd [s1] q = own_mb [s0, s1] q := by
  have k1 : ∀ a b : Int32, a < b ↔ a.toInt < b.toInt := fun a b => Int32.lt_iff_toInt_lt
  have k2 : ∀ a b : Int32, a = b ↔ a.toInt = b.toInt := fun a b => Int32.toInt_inj.symm
  have e1 : ∀ d q : Int32, ∀ ds, own_hd (d :: ds) q = if d.toInt < q.toInt then own_hd ds q else if d.toInt = q.toInt then 1 else 0 := fun d q ds => by rw [own_hdc]; simp only [k1, k2 d q]
  have e2 : ∀ d q : Int32, ∀ ds, own_mb (d :: ds) q = if q.toInt = d.toInt then 1 else own_mb ds q := fun d q ds => by rw [own_mbc]; simp only [k2 q d]
  simp only [e1, e2, own_hdn, own_mbn]
  repeat' split
  all_goals first | rfl | omega
theorem own_nc_2_1 (s1 q : Int32) : (own_nx [s1] 1 q = 1) ∨ (own_nx [s1] 1 q = 2 ∧ s1.toInt < q.toInt) := by
  have k1 : ∀ a b : Int32, a < b ↔ a.toInt < b.toInt := fun a b => Int32.lt_iff_toInt_lt
  by_cases g0 : s1 < q
  rotate_left
  · exact Or.inl (by rw [own_nxc, if_neg g0])
  exact Or.inr ⟨by rw [own_nxc, if_pos g0, own_nxn]; try decide, (k1 _ _).mp g0⟩
theorem own_hm_2_2 (s0 s1 s2 q : Int32) (h1 : s0.toInt < s1.toInt) (h2 : s1.toInt < s2.toInt) (f0 : s0.toInt < q.toInt) (f1 : s1.toInt < q.toInt) : own_hd [] q = own_mb [s0, s1] q := by
  have k1 : ∀ a b : Int32, a < b ↔ a.toInt < b.toInt := fun a b => Int32.lt_iff_toInt_lt
  have k2 : ∀ a b : Int32, a = b ↔ a.toInt = b.toInt := fun a b => Int32.toInt_inj.symm
  have e1 : ∀ d q : Int32, ∀ ds, own_hd (d :: ds) q = if d.toInt < q.toInt then own_hd ds q else if d.toInt = q.toInt then 1 else 0 := fun d q ds => by rw [own_hdc]; simp only [k1, k2 d q]
  have e2 : ∀ d q : Int32, ∀ ds, own_mb (d :: ds) q = if q.toInt = d.toInt then 1 else own_mb ds q := fun d q ds => by rw [own_mbc]; simp only [k2 q d]
  simp only [e1, e2, own_hdn, own_mbn]
  repeat' split
  all_goals first | rfl | omega
theorem own_nc_2_2 (_u q : Int32) : (own_nx [] 2 q = 2) := by
  rfl
theorem own_hm_3_0 (s0 s1 s2 q : Int32) (h1 : s0.toInt < s1.toInt) (h2 : s1.toInt < s2.toInt)  : own_hd [s0, s1, s2] q = own_mb [s0, s1, s2] q := by
  have k1 : ∀ a b : Int32, a < b ↔ a.toInt < b.toInt := fun a b => Int32.lt_iff_toInt_lt
  have k2 : ∀ a b : Int32, a = b ↔ a.toInt = b.toInt := fun a b => Int32.toInt_inj.symm
  have e1 : ∀ d q : Int32, ∀ ds, own_hd (d :: ds) q = if d.toInt < q.toInt then own_hd ds q else if d.toInt = q.toInt then 1 else 0 := fun d q ds => by rw [own_hdc]; simp only [k1, k2 d q]
  have e2 : ∀ d q : Int32, ∀ ds, own_mb (d :: ds) q = if q.toInt = d.toInt then 1 else own_mb ds q := fun d q ds => by rw [own_mbc]; simp only [k2 q d]
  simp only [e1, e2, own_hdn, own_mbn]
  repeat' split
  all_goals first | rfl | omega
theorem own_nc_3_0 (s0 s1 s2 q : Int32) : (own_nx [s0, s1, s2] 0 q = 0) ∨ (own_nx [s0, s1, s2] 0 q = 1 ∧ s0.toInt < q.toInt) ∨ (own_nx [s0, s1, s2] 0 q = 2 ∧ s0.toInt < q.toInt ∧ s1.toInt < q.toInt) ∨ (own_nx [s0, s1, s2] 0 q = 3 ∧ s0.toInt < q.toInt ∧ s1.toInt < q.toInt ∧ s2.toInt < q.toInt) := by
  have k1 : ∀ a b : Int32, a < b ↔ a.toInt < b.toInt := fun a b => Int32.lt_iff_toInt_lt
  by_cases g0 : s0 < q
  rotate_left
  · exact Or.inl (by rw [own_nxc, if_neg g0])
  by_cases g1 : s1 < q
  rotate_left
  · exact Or.inr (Or.inl ⟨by rw [own_nxc, if_pos g0, own_nxc, if_neg g1]; try decide, (k1 _ _).mp g0⟩)
  by_cases g2 : s2 < q
  rotate_left
  · exact Or.inr (Or.inr (Or.inl ⟨by rw [own_nxc, if_pos g0, own_nxc, if_pos g1, own_nxc, if_neg g2]; try decide, (k1 _ _).mp g0, (k1 _ _).mp g1⟩))
  exact Or.inr (Or.inr (Or.inr ⟨by rw [own_nxc, if_pos g0, own_nxc, if_pos g1, own_nxc, if_pos g2, own_nxn]; try decide, (k1 _ _).mp g0, (k1 _ _).mp g1, (k1 _ _).mp g2⟩))
theorem own_hm_3_1 (s0 s1 s2 q : Int32) (h1 : s0.toInt < s1.toInt) (h2 : s1.toInt < s2.toInt) (f0 : s0.toInt < q.toInt) : own_hd [s1, s2] q = own_mb [s0, s1, s2] q := by
  have k1 : ∀ a b : Int32, a < b ↔ a.toInt < b.toInt := fun a b => Int32.lt_iff_toInt_lt
  have k2 : ∀ a b : Int32, a = b ↔ a.toInt = b.toInt := fun a b => Int32.toInt_inj.symm
  have e1 : ∀ d q : Int32, ∀ ds, own_hd (d :: ds) q = if d.toInt < q.toInt then own_hd ds q else if d.toInt = q.toInt then 1 else 0 := fun d q ds => by rw [own_hdc]; simp only [k1, k2 d q]
  have e2 : ∀ d q : Int32, ∀ ds, own_mb (d :: ds) q = if q.toInt = d.toInt then 1 else own_mb ds q := fun d q ds => by rw [own_mbc]; simp only [k2 q d]
  simp only [e1, e2, own_hdn, own_mbn]
  repeat' split
  all_goals first | rfl | omega
theorem own_nc_3_1 (s1 s2 q : Int32) : (own_nx [s1, s2] 1 q = 1) ∨ (own_nx [s1, s2] 1 q = 2 ∧ s1.toInt < q.toInt) ∨ (own_nx [s1, s2] 1 q = 3 ∧ s1.toInt < q.toInt ∧ s2.toInt < q.toInt) := by
  have k1 : ∀ a b : Int32, a < b ↔ a.toInt < b.toInt := fun a b => Int32.lt_iff_toInt_lt
  by_cases g0 : s1 < q
  rotate_left
  · exact Or.inl (by rw [own_nxc, if_neg g0])
  by_cases g1 : s2 < q
  rotate_left
  · exact Or.inr (Or.inl ⟨by rw [own_nxc, if_pos g0, own_nxc, if_neg g1]; try decide, (k1 _ _).mp g0⟩)
  exact Or.inr (Or.inr ⟨by rw [own_nxc, if_pos g0, own_nxc, if_pos g1, own_nxn]; try decide, (k1 _ _).mp g0, (k1 _ _).mp g1⟩)
theorem own_hm_3_2 (s0 s1 s2 q : Int32) (h1 : s0.toInt < s1.toInt) (h2 : s1.toInt < s2.toInt) (f0 : s0.toInt < q.toInt) (f1 : s1.toInt < q.toInt) : own_hd [s2] q = own_mb [s0, s1, s2] q := by
  have k1 : ∀ a b : Int32, a < b ↔ a.toInt < b.toInt := fun a b => Int32.lt_iff_toInt_lt
  have k2 : ∀ a b : Int32, a = b ↔ a.toInt = b.toInt := fun a b => Int32.toInt_inj.symm
  have e1 : ∀ d q : Int32, ∀ ds, own_hd (d :: ds) q = if d.toInt < q.toInt then own_hd ds q else if d.toInt = q.toInt then 1 else 0 := fun d q ds => by rw [own_hdc]; simp only [k1, k2 d q]
  have e2 : ∀ d q : Int32, ∀ ds, own_mb (d :: ds) q = if q.toInt = d.toInt then 1 else own_mb ds q := fun d q ds => by rw [own_mbc]; simp only [k2 q d]
  simp only [e1, e2, own_hdn, own_mbn]
  repeat' split
  all_goals first | rfl | omega
theorem own_nc_3_2 (s2 q : Int32) : (own_nx [s2] 2 q = 2) ∨ (own_nx [s2] 2 q = 3 ∧ s2.toInt < q.toInt) := by
  have k1 : ∀ a b : Int32, a < b ↔ a.toInt < b.toInt := fun a b => Int32.lt_iff_toInt_lt
  by_cases g0 : s2 < q
  rotate_left
  · exact Or.inl (by rw [own_nxc, if_neg g0])
  exact Or.inr ⟨by rw [own_nxc, if_pos g0, own_nxn]; try decide, (k1 _ _).mp g0⟩
theorem own_hm_3_3 (s0 s1 s2 q : Int32) (h1 : s0.toInt < s1.toInt) (h2 : s1.toInt < s2.toInt) (f0 : s0.toInt < q.toInt) (f1 : s1.toInt < q.toInt) (f2 : s2.toInt < q.toInt) : own_hd [] q = own_mb [s0, s1, s2] q := by
  have k1 : ∀ a b : Int32, a < b ↔ a.toInt < b.toInt := fun a b => Int32.lt_iff_toInt_lt
  have k2 : ∀ a b : Int32, a = b ↔ a.toInt = b.toInt := fun a b => Int32.toInt_inj.symm
  have e1 : ∀ d q : Int32, ∀ ds, own_hd (d :: ds) q = if d.toInt < q.toInt then own_hd ds q else if d.toInt = q.toInt then 1 else 0 := fun d q ds => by rw [own_hdc]; simp only [k1, k2 d q]
  have e2 : ∀ d q : Int32, ∀ ds, own_mb (d :: ds) q = if q.toInt = d.toInt then 1 else own_mb ds q := fun d q ds => by rw [own_mbc]; simp only [k2 q d]
  simp only [e1, e2, own_hdn, own_mbn]
  repeat' split
  all_goals first | rfl | omega
theorem own_nc_3_3 (_u q : Int32) : (own_nx [] 3 q = 3) := by
  rfl
theorem d1_0 : decode method_3_code 0 = .ok (.aload_n 0, 1) := by decide +kernel
theorem d1_1 : decode method_3_code 1 = .ok (.iload_n 1, 1) := by decide +kernel
theorem d1_2 : decode method_3_code 2 = .ok (.iaload, 1) := by decide +kernel
theorem d1_3 : decode method_3_code 3 = .ok (.aload_n 0, 1) := by decide +kernel
theorem d1_4 : decode method_3_code 4 = .ok (.iload_n 2, 1) := by decide +kernel
theorem d1_5 : decode method_3_code 5 = .ok (.iaload, 1) := by decide +kernel
theorem d1_6 : decode method_3_code 6 = .ok (.if_icmp .le 17, 3) := by decide +kernel
theorem d1_9 : decode method_3_code 9 = .ok (.aload_n 0, 1) := by decide +kernel
theorem d1_10 : decode method_3_code 10 = .ok (.iload_n 1, 1) := by decide +kernel
theorem d1_11 : decode method_3_code 11 = .ok (.iaload, 1) := by decide +kernel
theorem d1_12 : decode method_3_code 12 = .ok (.istore_n 3, 1) := by decide +kernel
theorem d1_13 : decode method_3_code 13 = .ok (.aload_n 0, 1) := by decide +kernel
theorem d1_14 : decode method_3_code 14 = .ok (.iload_n 1, 1) := by decide +kernel
theorem d1_15 : decode method_3_code 15 = .ok (.aload_n 0, 1) := by decide +kernel
theorem d1_16 : decode method_3_code 16 = .ok (.iload_n 2, 1) := by decide +kernel
theorem d1_17 : decode method_3_code 17 = .ok (.iaload, 1) := by decide +kernel
theorem d1_18 : decode method_3_code 18 = .ok (.iastore, 1) := by decide +kernel
theorem d1_19 : decode method_3_code 19 = .ok (.aload_n 0, 1) := by decide +kernel
theorem d1_20 : decode method_3_code 20 = .ok (.iload_n 2, 1) := by decide +kernel
theorem d1_21 : decode method_3_code 21 = .ok (.iload_n 3, 1) := by decide +kernel
theorem d1_22 : decode method_3_code 22 = .ok (.iastore, 1) := by decide +kernel
theorem d1_23 : decode method_3_code 23 = .ok (.return_, 1) := by decide +kernel
theorem pn_rm1_3_01 : plainFor (⟨"com/example/quern/quern/index/WalkHoldsPinLaw", "swap", "([III)V"⟩ : MethodName) = true := plainFor_of_name (by first | (simp [plainName, overriddenIn]; done) | decide +kernel)
theorem ef_rm1_3_01 (m : MethodId) (x0 : Addr) (x1 : Int32) (x2 : Int32) : entryFrame m #[(.ref x0), (.int x1), (.int x2)] 4 = mkF m 0 #[.val (.ref x0), .val (.int x1), .val (.int x2), .unset] [] := by first | (simp [entryFrame, mkF, argsToLocals, Value.category]; done) | rfl
set_option maxRecDepth 65536 in
set_option maxHeartbeats 4000000 in
theorem rm1_3_01 (l : Launch) (Z : State) (a0 : Array Value) (hw : ∀ d ∈ tables_1, d.before a0 Z = true) (n0 : Nat) (a : Addr) (h0 : Heap) (hn0 : n0 ≤ h0.size) (c0 c1 c2 : Int32) (A : own_A Z h0 a .int [c0, c1, c2]) (ge : n0 ≤ a) :
    own_Met l (⟨"com/example/quern/quern/index/WalkHoldsPinLaw", "swap", "([III)V"⟩ : MethodName) method_3_code 4 none ({ frames := 0, cells := 0, slots := 0, locals := 0 } : Room) Z n0 #[(.ref a), (.int (0 : Int32)), (.int (1 : Int32))] h0 none (fun h' => own_A Z h' a .int [(own_mn c0 c1), (own_mx c0 c1), c2] ∧ Keep h0 h' [a]) := by
  refine own_met pn_rm1_3_01 hn0 ?_
  intro p e s m below meth c T X
  refine own_cast (ef_rm1_3_01 m a (0 : Int32) (1 : Int32)) ?_
  generalize hΦ : own_Q n0 below s _ _ _ = Φ
  have K0 := Keep.refl h0 [a]
  refine own_aloadN X (pc' := 1) d1_0 rfl rfl rfl ?_
  refine own_iloadN X (pc' := 2) d1_1 rfl rfl ?_
  refine own_iaload X (v := c0) (pc' := 3) A rfl rfl d1_2 rfl ?_
  refine own_aloadN X (pc' := 4) d1_3 rfl rfl rfl ?_
  refine own_iloadN X (pc' := 5) d1_4 rfl rfl ?_
  refine own_iaload X (v := c1) (pc' := 6) A rfl rfl d1_5 rfl ?_
  refine own_icmp_le X (pct := 23) (pc' := 9) d1_6 rfl (by decide) (by decide) (fun hc6_1 => ?_) (fun hc6_1 => ?_)
  · subst hΦ
    exact own_retV X d1_23 (by decide) (by decide) rfl ⟨by rw [own_mn, own_mx, if_neg hc6_1, if_neg hc6_1]; exact A, K0⟩
  · refine own_aloadN X (pc' := 10) d1_9 rfl rfl rfl ?_
    refine own_iloadN X (pc' := 11) d1_10 rfl rfl ?_
    refine own_iaload X (v := c0) (pc' := 12) A rfl rfl d1_11 rfl ?_
    refine own_istoreN X (pc' := 13) (Ls' := #[.val (.ref a), .val (.int (0 : Int32)), .val (.int (1 : Int32)), .val (.int c0)]) d1_12 rfl rfl ?_
    refine own_aloadN X (pc' := 14) d1_13 rfl rfl rfl ?_
    refine own_iloadN X (pc' := 15) d1_14 rfl rfl ?_
    refine own_aloadN X (pc' := 16) d1_15 rfl rfl rfl ?_
    refine own_iloadN X (pc' := 17) d1_16 rfl rfl ?_
    refine own_iaload X (v := c1) (pc' := 18) A rfl rfl d1_17 rfl ?_
    refine own_iastore X (vs' := [c1, c1, c2]) (pc' := 19) A ge rfl rfl d1_18 rfl ?_
    intro T2 h2 X2 A2 W2
    have K3 := K0.wr W2 (Or.inl (by simp))
    refine own_aloadN X2 (pc' := 20) d1_19 rfl rfl rfl ?_
    refine own_iloadN X2 (pc' := 21) d1_20 rfl rfl ?_
    refine own_iloadN X2 (pc' := 22) d1_21 rfl rfl ?_
    refine own_iastore X2 (vs' := [c1, c0, c2]) (pc' := 23) A2 ge rfl rfl d1_22 rfl ?_
    intro T4 h4 X4 A4 W4
    have K5 := K3.wr W4 (Or.inl (by simp))
    subst hΦ
    exact own_retV X4 d1_23 (by decide) (by decide) rfl ⟨by rw [own_mn, own_mx, if_pos hc6_1, if_pos hc6_1]; exact A4, K5⟩
theorem pn_rm1_3_12 : plainFor (⟨"com/example/quern/quern/index/WalkHoldsPinLaw", "swap", "([III)V"⟩ : MethodName) = true := plainFor_of_name (by first | (simp [plainName, overriddenIn]; done) | decide +kernel)
theorem ef_rm1_3_12 (m : MethodId) (x0 : Addr) (x1 : Int32) (x2 : Int32) : entryFrame m #[(.ref x0), (.int x1), (.int x2)] 4 = mkF m 0 #[.val (.ref x0), .val (.int x1), .val (.int x2), .unset] [] := by first | (simp [entryFrame, mkF, argsToLocals, Value.category]; done) | rfl
set_option maxRecDepth 65536 in
set_option maxHeartbeats 4000000 in
theorem rm1_3_12 (l : Launch) (Z : State) (a0 : Array Value) (hw : ∀ d ∈ tables_1, d.before a0 Z = true) (n0 : Nat) (a : Addr) (h0 : Heap) (hn0 : n0 ≤ h0.size) (c0 c1 c2 : Int32) (A : own_A Z h0 a .int [c0, c1, c2]) (ge : n0 ≤ a) :
    own_Met l (⟨"com/example/quern/quern/index/WalkHoldsPinLaw", "swap", "([III)V"⟩ : MethodName) method_3_code 4 none ({ frames := 0, cells := 0, slots := 0, locals := 0 } : Room) Z n0 #[(.ref a), (.int (1 : Int32)), (.int (2 : Int32))] h0 none (fun h' => own_A Z h' a .int [c0, (own_mn c1 c2), (own_mx c1 c2)] ∧ Keep h0 h' [a]) := by
  refine own_met pn_rm1_3_12 hn0 ?_
  intro p e s m below meth c T X
  refine own_cast (ef_rm1_3_12 m a (1 : Int32) (2 : Int32)) ?_
  generalize hΦ : own_Q n0 below s _ _ _ = Φ
  have K0 := Keep.refl h0 [a]
  refine own_aloadN X (pc' := 1) d1_0 rfl rfl rfl ?_
  refine own_iloadN X (pc' := 2) d1_1 rfl rfl ?_
  refine own_iaload X (v := c1) (pc' := 3) A rfl rfl d1_2 rfl ?_
  refine own_aloadN X (pc' := 4) d1_3 rfl rfl rfl ?_
  refine own_iloadN X (pc' := 5) d1_4 rfl rfl ?_
  refine own_iaload X (v := c2) (pc' := 6) A rfl rfl d1_5 rfl ?_
  refine own_icmp_le X (pct := 23) (pc' := 9) d1_6 rfl (by decide) (by decide) (fun hc6_1 => ?_) (fun hc6_1 => ?_)
  · subst hΦ
    exact own_retV X d1_23 (by decide) (by decide) rfl ⟨by rw [own_mn, own_mx, if_neg hc6_1, if_neg hc6_1]; exact A, K0⟩
  · refine own_aloadN X (pc' := 10) d1_9 rfl rfl rfl ?_
    refine own_iloadN X (pc' := 11) d1_10 rfl rfl ?_
    refine own_iaload X (v := c1) (pc' := 12) A rfl rfl d1_11 rfl ?_
    refine own_istoreN X (pc' := 13) (Ls' := #[.val (.ref a), .val (.int (1 : Int32)), .val (.int (2 : Int32)), .val (.int c1)]) d1_12 rfl rfl ?_
    refine own_aloadN X (pc' := 14) d1_13 rfl rfl rfl ?_
    refine own_iloadN X (pc' := 15) d1_14 rfl rfl ?_
    refine own_aloadN X (pc' := 16) d1_15 rfl rfl rfl ?_
    refine own_iloadN X (pc' := 17) d1_16 rfl rfl ?_
    refine own_iaload X (v := c2) (pc' := 18) A rfl rfl d1_17 rfl ?_
    refine own_iastore X (vs' := [c0, c2, c2]) (pc' := 19) A ge rfl rfl d1_18 rfl ?_
    intro T2 h2 X2 A2 W2
    have K3 := K0.wr W2 (Or.inl (by simp))
    refine own_aloadN X2 (pc' := 20) d1_19 rfl rfl rfl ?_
    refine own_iloadN X2 (pc' := 21) d1_20 rfl rfl ?_
    refine own_iloadN X2 (pc' := 22) d1_21 rfl rfl ?_
    refine own_iastore X2 (vs' := [c0, c2, c1]) (pc' := 23) A2 ge rfl rfl d1_22 rfl ?_
    intro T4 h4 X4 A4 W4
    have K5 := K3.wr W4 (Or.inl (by simp))
    subst hΦ
    exact own_retV X4 d1_23 (by decide) (by decide) rfl ⟨by rw [own_mn, own_mx, if_pos hc6_1, if_pos hc6_1]; exact A4, K5⟩
theorem pn_rm1_4_01 : plainFor (⟨"com/example/quern/quern/index/WalkHoldsPinLaw", "swap", "([III)V"⟩ : MethodName) = true := plainFor_of_name (by first | (simp [plainName, overriddenIn]; done) | decide +kernel)
theorem ef_rm1_4_01 (m : MethodId) (x0 : Addr) (x1 : Int32) (x2 : Int32) : entryFrame m #[(.ref x0), (.int x1), (.int x2)] 4 = mkF m 0 #[.val (.ref x0), .val (.int x1), .val (.int x2), .unset] [] := by first | (simp [entryFrame, mkF, argsToLocals, Value.category]; done) | rfl
set_option maxRecDepth 65536 in
set_option maxHeartbeats 4000000 in
theorem rm1_4_01 (l : Launch) (Z : State) (a0 : Array Value) (hw : ∀ d ∈ tables_1, d.before a0 Z = true) (n0 : Nat) (a : Addr) (h0 : Heap) (hn0 : n0 ≤ h0.size) (c0 c1 c2 c3 : Int32) (A : own_A Z h0 a .int [c0, c1, c2, c3]) (ge : n0 ≤ a) :
    own_Met l (⟨"com/example/quern/quern/index/WalkHoldsPinLaw", "swap", "([III)V"⟩ : MethodName) method_3_code 4 none ({ frames := 0, cells := 0, slots := 0, locals := 0 } : Room) Z n0 #[(.ref a), (.int (0 : Int32)), (.int (1 : Int32))] h0 none (fun h' => own_A Z h' a .int [(own_mn c0 c1), (own_mx c0 c1), c2, c3] ∧ Keep h0 h' [a]) := by
  refine own_met pn_rm1_4_01 hn0 ?_
  intro p e s m below meth c T X
  refine own_cast (ef_rm1_4_01 m a (0 : Int32) (1 : Int32)) ?_
  generalize hΦ : own_Q n0 below s _ _ _ = Φ
  have K0 := Keep.refl h0 [a]
  refine own_aloadN X (pc' := 1) d1_0 rfl rfl rfl ?_
  refine own_iloadN X (pc' := 2) d1_1 rfl rfl ?_
  refine own_iaload X (v := c0) (pc' := 3) A rfl rfl d1_2 rfl ?_
  refine own_aloadN X (pc' := 4) d1_3 rfl rfl rfl ?_
  refine own_iloadN X (pc' := 5) d1_4 rfl rfl ?_
  refine own_iaload X (v := c1) (pc' := 6) A rfl rfl d1_5 rfl ?_
  refine own_icmp_le X (pct := 23) (pc' := 9) d1_6 rfl (by decide) (by decide) (fun hc6_1 => ?_) (fun hc6_1 => ?_)
  · subst hΦ
    exact own_retV X d1_23 (by decide) (by decide) rfl ⟨by rw [own_mn, own_mx, if_neg hc6_1, if_neg hc6_1]; exact A, K0⟩
  · refine own_aloadN X (pc' := 10) d1_9 rfl rfl rfl ?_
    refine own_iloadN X (pc' := 11) d1_10 rfl rfl ?_
    refine own_iaload X (v := c0) (pc' := 12) A rfl rfl d1_11 rfl ?_
    refine own_istoreN X (pc' := 13) (Ls' := #[.val (.ref a), .val (.int (0 : Int32)), .val (.int (1 : Int32)), .val (.int c0)]) d1_12 rfl rfl ?_
    refine own_aloadN X (pc' := 14) d1_13 rfl rfl rfl ?_
    refine own_iloadN X (pc' := 15) d1_14 rfl rfl ?_
    refine own_aloadN X (pc' := 16) d1_15 rfl rfl rfl ?_
    refine own_iloadN X (pc' := 17) d1_16 rfl rfl ?_
    refine own_iaload X (v := c1) (pc' := 18) A rfl rfl d1_17 rfl ?_
    refine own_iastore X (vs' := [c1, c1, c2, c3]) (pc' := 19) A ge rfl rfl d1_18 rfl ?_
    intro T2 h2 X2 A2 W2
    have K3 := K0.wr W2 (Or.inl (by simp))
    refine own_aloadN X2 (pc' := 20) d1_19 rfl rfl rfl ?_
    refine own_iloadN X2 (pc' := 21) d1_20 rfl rfl ?_
    refine own_iloadN X2 (pc' := 22) d1_21 rfl rfl ?_
    refine own_iastore X2 (vs' := [c1, c0, c2, c3]) (pc' := 23) A2 ge rfl rfl d1_22 rfl ?_
    intro T4 h4 X4 A4 W4
    have K5 := K3.wr W4 (Or.inl (by simp))
    subst hΦ
    exact own_retV X4 d1_23 (by decide) (by decide) rfl ⟨by rw [own_mn, own_mx, if_pos hc6_1, if_pos hc6_1]; exact A4, K5⟩
theorem pn_rm1_4_23 : plainFor (⟨"com/example/quern/quern/index/WalkHoldsPinLaw", "swap", "([III)V"⟩ : MethodName) = true := plainFor_of_name (by first | (simp [plainName, overriddenIn]; done) | decide +kernel)
theorem ef_rm1_4_23 (m : MethodId) (x0 : Addr) (x1 : Int32) (x2 : Int32) : entryFrame m #[(.ref x0), (.int x1), (.int x2)] 4 = mkF m 0 #[.val (.ref x0), .val (.int x1), .val (.int x2), .unset] [] := by first | (simp [entryFrame, mkF, argsToLocals, Value.category]; done) | rfl
set_option maxRecDepth 65536 in
set_option maxHeartbeats 4000000 in
theorem rm1_4_23 (l : Launch) (Z : State) (a0 : Array Value) (hw : ∀ d ∈ tables_1, d.before a0 Z = true) (n0 : Nat) (a : Addr) (h0 : Heap) (hn0 : n0 ≤ h0.size) (c0 c1 c2 c3 : Int32) (A : own_A Z h0 a .int [c0, c1, c2, c3]) (ge : n0 ≤ a) :
    own_Met l (⟨"com/example/quern/quern/index/WalkHoldsPinLaw", "swap", "([III)V"⟩ : MethodName) method_3_code 4 none ({ frames := 0, cells := 0, slots := 0, locals := 0 } : Room) Z n0 #[(.ref a), (.int (2 : Int32)), (.int (3 : Int32))] h0 none (fun h' => own_A Z h' a .int [c0, c1, (own_mn c2 c3), (own_mx c2 c3)] ∧ Keep h0 h' [a]) := by
  refine own_met pn_rm1_4_23 hn0 ?_
  intro p e s m below meth c T X
  refine own_cast (ef_rm1_4_23 m a (2 : Int32) (3 : Int32)) ?_
  generalize hΦ : own_Q n0 below s _ _ _ = Φ
  have K0 := Keep.refl h0 [a]
  refine own_aloadN X (pc' := 1) d1_0 rfl rfl rfl ?_
  refine own_iloadN X (pc' := 2) d1_1 rfl rfl ?_
  refine own_iaload X (v := c2) (pc' := 3) A rfl rfl d1_2 rfl ?_
  refine own_aloadN X (pc' := 4) d1_3 rfl rfl rfl ?_
  refine own_iloadN X (pc' := 5) d1_4 rfl rfl ?_
  refine own_iaload X (v := c3) (pc' := 6) A rfl rfl d1_5 rfl ?_
  refine own_icmp_le X (pct := 23) (pc' := 9) d1_6 rfl (by decide) (by decide) (fun hc6_1 => ?_) (fun hc6_1 => ?_)
  · subst hΦ
    exact own_retV X d1_23 (by decide) (by decide) rfl ⟨by rw [own_mn, own_mx, if_neg hc6_1, if_neg hc6_1]; exact A, K0⟩
  · refine own_aloadN X (pc' := 10) d1_9 rfl rfl rfl ?_
    refine own_iloadN X (pc' := 11) d1_10 rfl rfl ?_
    refine own_iaload X (v := c2) (pc' := 12) A rfl rfl d1_11 rfl ?_
    refine own_istoreN X (pc' := 13) (Ls' := #[.val (.ref a), .val (.int (2 : Int32)), .val (.int (3 : Int32)), .val (.int c2)]) d1_12 rfl rfl ?_
    refine own_aloadN X (pc' := 14) d1_13 rfl rfl rfl ?_
    refine own_iloadN X (pc' := 15) d1_14 rfl rfl ?_
    refine own_aloadN X (pc' := 16) d1_15 rfl rfl rfl ?_
    refine own_iloadN X (pc' := 17) d1_16 rfl rfl ?_
    refine own_iaload X (v := c3) (pc' := 18) A rfl rfl d1_17 rfl ?_
    refine own_iastore X (vs' := [c0, c1, c3, c3]) (pc' := 19) A ge rfl rfl d1_18 rfl ?_
    intro T2 h2 X2 A2 W2
    have K3 := K0.wr W2 (Or.inl (by simp))
    refine own_aloadN X2 (pc' := 20) d1_19 rfl rfl rfl ?_
    refine own_iloadN X2 (pc' := 21) d1_20 rfl rfl ?_
    refine own_iloadN X2 (pc' := 22) d1_21 rfl rfl ?_
    refine own_iastore X2 (vs' := [c0, c1, c3, c2]) (pc' := 23) A2 ge rfl rfl d1_22 rfl ?_
    intro T4 h4 X4 A4 W4
    have K5 := K3.wr W4 (Or.inl (by simp))
    subst hΦ
    exact own_retV X4 d1_23 (by decide) (by decide) rfl ⟨by rw [own_mn, own_mx, if_pos hc6_1, if_pos hc6_1]; exact A4, K5⟩
theorem pn_rm1_4_02 : plainFor (⟨"com/example/quern/quern/index/WalkHoldsPinLaw", "swap", "([III)V"⟩ : MethodName) = true := plainFor_of_name (by first | (simp [plainName, overriddenIn]; done) | decide +kernel)
theorem ef_rm1_4_02 (m : MethodId) (x0 : Addr) (x1 : Int32) (x2 : Int32) : entryFrame m #[(.ref x0), (.int x1), (.int x2)] 4 = mkF m 0 #[.val (.ref x0), .val (.int x1), .val (.int x2), .unset] [] := by first | (simp [entryFrame, mkF, argsToLocals, Value.category]; done) | rfl
set_option maxRecDepth 65536 in
set_option maxHeartbeats 4000000 in
theorem rm1_4_02 (l : Launch) (Z : State) (a0 : Array Value) (hw : ∀ d ∈ tables_1, d.before a0 Z = true) (n0 : Nat) (a : Addr) (h0 : Heap) (hn0 : n0 ≤ h0.size) (c0 c1 c2 c3 : Int32) (A : own_A Z h0 a .int [c0, c1, c2, c3]) (ge : n0 ≤ a) :
    own_Met l (⟨"com/example/quern/quern/index/WalkHoldsPinLaw", "swap", "([III)V"⟩ : MethodName) method_3_code 4 none ({ frames := 0, cells := 0, slots := 0, locals := 0 } : Room) Z n0 #[(.ref a), (.int (0 : Int32)), (.int (2 : Int32))] h0 none (fun h' => own_A Z h' a .int [(own_mn c0 c2), c1, (own_mx c0 c2), c3] ∧ Keep h0 h' [a]) := by
  refine own_met pn_rm1_4_02 hn0 ?_
  intro p e s m below meth c T X
  refine own_cast (ef_rm1_4_02 m a (0 : Int32) (2 : Int32)) ?_
  generalize hΦ : own_Q n0 below s _ _ _ = Φ
  have K0 := Keep.refl h0 [a]
  refine own_aloadN X (pc' := 1) d1_0 rfl rfl rfl ?_
  refine own_iloadN X (pc' := 2) d1_1 rfl rfl ?_
  refine own_iaload X (v := c0) (pc' := 3) A rfl rfl d1_2 rfl ?_
  refine own_aloadN X (pc' := 4) d1_3 rfl rfl rfl ?_
  refine own_iloadN X (pc' := 5) d1_4 rfl rfl ?_
  refine own_iaload X (v := c2) (pc' := 6) A rfl rfl d1_5 rfl ?_
  refine own_icmp_le X (pct := 23) (pc' := 9) d1_6 rfl (by decide) (by decide) (fun hc6_1 => ?_) (fun hc6_1 => ?_)
  · subst hΦ
    exact own_retV X d1_23 (by decide) (by decide) rfl ⟨by rw [own_mn, own_mx, if_neg hc6_1, if_neg hc6_1]; exact A, K0⟩
  · refine own_aloadN X (pc' := 10) d1_9 rfl rfl rfl ?_
    refine own_iloadN X (pc' := 11) d1_10 rfl rfl ?_
    refine own_iaload X (v := c0) (pc' := 12) A rfl rfl d1_11 rfl ?_
    refine own_istoreN X (pc' := 13) (Ls' := #[.val (.ref a), .val (.int (0 : Int32)), .val (.int (2 : Int32)), .val (.int c0)]) d1_12 rfl rfl ?_
    refine own_aloadN X (pc' := 14) d1_13 rfl rfl rfl ?_
    refine own_iloadN X (pc' := 15) d1_14 rfl rfl ?_
    refine own_aloadN X (pc' := 16) d1_15 rfl rfl rfl ?_
    refine own_iloadN X (pc' := 17) d1_16 rfl rfl ?_
    refine own_iaload X (v := c2) (pc' := 18) A rfl rfl d1_17 rfl ?_
    refine own_iastore X (vs' := [c2, c1, c2, c3]) (pc' := 19) A ge rfl rfl d1_18 rfl ?_
    intro T2 h2 X2 A2 W2
    have K3 := K0.wr W2 (Or.inl (by simp))
    refine own_aloadN X2 (pc' := 20) d1_19 rfl rfl rfl ?_
    refine own_iloadN X2 (pc' := 21) d1_20 rfl rfl ?_
    refine own_iloadN X2 (pc' := 22) d1_21 rfl rfl ?_
    refine own_iastore X2 (vs' := [c2, c1, c0, c3]) (pc' := 23) A2 ge rfl rfl d1_22 rfl ?_
    intro T4 h4 X4 A4 W4
    have K5 := K3.wr W4 (Or.inl (by simp))
    subst hΦ
    exact own_retV X4 d1_23 (by decide) (by decide) rfl ⟨by rw [own_mn, own_mx, if_pos hc6_1, if_pos hc6_1]; exact A4, K5⟩
theorem pn_rm1_4_13 : plainFor (⟨"com/example/quern/quern/index/WalkHoldsPinLaw", "swap", "([III)V"⟩ : MethodName) = true := plainFor_of_name (by first | (simp [plainName, overriddenIn]; done) | decide +kernel)
theorem ef_rm1_4_13 (m : MethodId) (x0 : Addr) (x1 : Int32) (x2 : Int32) : entryFrame m #[(.ref x0), (.int x1), (.int x2)] 4 = mkF m 0 #[.val (.ref x0), .val (.int x1), .val (.int x2), .unset] [] := by first | (simp [entryFrame, mkF, argsToLocals, Value.category]; done) | rfl
set_option maxRecDepth 65536 in
set_option maxHeartbeats 4000000 in
theorem rm1_4_13 (l : Launch) (Z : State) (a0 : Array Value) (hw : ∀ d ∈ tables_1, d.before a0 Z = true) (n0 : Nat) (a : Addr) (h0 : Heap) (hn0 : n0 ≤ h0.size) (c0 c1 c2 c3 : Int32) (A : own_A Z h0 a .int [c0, c1, c2, c3]) (ge : n0 ≤ a) :
    own_Met l (⟨"com/example/quern/quern/index/WalkHoldsPinLaw", "swap", "([III)V"⟩ : MethodName) method_3_code 4 none ({ frames := 0, cells := 0, slots := 0, locals := 0 } : Room) Z n0 #[(.ref a), (.int (1 : Int32)), (.int (3 : Int32))] h0 none (fun h' => own_A Z h' a .int [c0, (own_mn c1 c3), c2, (own_mx c1 c3)] ∧ Keep h0 h' [a]) := by
  refine own_met pn_rm1_4_13 hn0 ?_
  intro p e s m below meth c T X
  refine own_cast (ef_rm1_4_13 m a (1 : Int32) (3 : Int32)) ?_
  generalize hΦ : own_Q n0 below s _ _ _ = Φ
  have K0 := Keep.refl h0 [a]
  refine own_aloadN X (pc' := 1) d1_0 rfl rfl rfl ?_
  refine own_iloadN X (pc' := 2) d1_1 rfl rfl ?_
  refine own_iaload X (v := c1) (pc' := 3) A rfl rfl d1_2 rfl ?_
  refine own_aloadN X (pc' := 4) d1_3 rfl rfl rfl ?_
  refine own_iloadN X (pc' := 5) d1_4 rfl rfl ?_
  refine own_iaload X (v := c3) (pc' := 6) A rfl rfl d1_5 rfl ?_
  refine own_icmp_le X (pct := 23) (pc' := 9) d1_6 rfl (by decide) (by decide) (fun hc6_1 => ?_) (fun hc6_1 => ?_)
  · subst hΦ
    exact own_retV X d1_23 (by decide) (by decide) rfl ⟨by rw [own_mn, own_mx, if_neg hc6_1, if_neg hc6_1]; exact A, K0⟩
  · refine own_aloadN X (pc' := 10) d1_9 rfl rfl rfl ?_
    refine own_iloadN X (pc' := 11) d1_10 rfl rfl ?_
    refine own_iaload X (v := c1) (pc' := 12) A rfl rfl d1_11 rfl ?_
    refine own_istoreN X (pc' := 13) (Ls' := #[.val (.ref a), .val (.int (1 : Int32)), .val (.int (3 : Int32)), .val (.int c1)]) d1_12 rfl rfl ?_
    refine own_aloadN X (pc' := 14) d1_13 rfl rfl rfl ?_
    refine own_iloadN X (pc' := 15) d1_14 rfl rfl ?_
    refine own_aloadN X (pc' := 16) d1_15 rfl rfl rfl ?_
    refine own_iloadN X (pc' := 17) d1_16 rfl rfl ?_
    refine own_iaload X (v := c3) (pc' := 18) A rfl rfl d1_17 rfl ?_
    refine own_iastore X (vs' := [c0, c3, c2, c3]) (pc' := 19) A ge rfl rfl d1_18 rfl ?_
    intro T2 h2 X2 A2 W2
    have K3 := K0.wr W2 (Or.inl (by simp))
    refine own_aloadN X2 (pc' := 20) d1_19 rfl rfl rfl ?_
    refine own_iloadN X2 (pc' := 21) d1_20 rfl rfl ?_
    refine own_iloadN X2 (pc' := 22) d1_21 rfl rfl ?_
    refine own_iastore X2 (vs' := [c0, c3, c2, c1]) (pc' := 23) A2 ge rfl rfl d1_22 rfl ?_
    intro T4 h4 X4 A4 W4
    have K5 := K3.wr W4 (Or.inl (by simp))
    subst hΦ
    exact own_retV X4 d1_23 (by decide) (by decide) rfl ⟨by rw [own_mn, own_mx, if_pos hc6_1, if_pos hc6_1]; exact A4, K5⟩
theorem pn_rm1_4_12 : plainFor (⟨"com/example/quern/quern/index/WalkHoldsPinLaw", "swap", "([III)V"⟩ : MethodName) = true := plainFor_of_name (by first | (simp [plainName, overriddenIn]; done) | decide +kernel)
theorem ef_rm1_4_12 (m : MethodId) (x0 : Addr) (x1 : Int32) (x2 : Int32) : entryFrame m #[(.ref x0), (.int x1), (.int x2)] 4 = mkF m 0 #[.val (.ref x0), .val (.int x1), .val (.int x2), .unset] [] := by first | (simp [entryFrame, mkF, argsToLocals, Value.category]; done) | rfl
set_option maxRecDepth 65536 in
set_option maxHeartbeats 4000000 in
theorem rm1_4_12 (l : Launch) (Z : State) (a0 : Array Value) (hw : ∀ d ∈ tables_1, d.before a0 Z = true) (n0 : Nat) (a : Addr) (h0 : Heap) (hn0 : n0 ≤ h0.size) (c0 c1 c2 c3 : Int32) (A : own_A Z h0 a .int [c0, c1, c2, c3]) (ge : n0 ≤ a) :
    own_Met l (⟨"com/example/quern/quern/index/WalkHoldsPinLaw", "swap", "([III)V"⟩ : MethodName) method_3_code 4 none ({ frames := 0, cells := 0, slots := 0, locals := 0 } : Room) Z n0 #[(.ref a), (.int (1 : Int32)), (.int (2 : Int32))] h0 none (fun h' => own_A Z h' a .int [c0, (own_mn c1 c2), (own_mx c1 c2), c3] ∧ Keep h0 h' [a]) := by
  refine own_met pn_rm1_4_12 hn0 ?_
  intro p e s m below meth c T X
  refine own_cast (ef_rm1_4_12 m a (1 : Int32) (2 : Int32)) ?_
  generalize hΦ : own_Q n0 below s _ _ _ = Φ
  have K0 := Keep.refl h0 [a]
  refine own_aloadN X (pc' := 1) d1_0 rfl rfl rfl ?_
  refine own_iloadN X (pc' := 2) d1_1 rfl rfl ?_
  refine own_iaload X (v := c1) (pc' := 3) A rfl rfl d1_2 rfl ?_
  refine own_aloadN X (pc' := 4) d1_3 rfl rfl rfl ?_
  refine own_iloadN X (pc' := 5) d1_4 rfl rfl ?_
  refine own_iaload X (v := c2) (pc' := 6) A rfl rfl d1_5 rfl ?_
  refine own_icmp_le X (pct := 23) (pc' := 9) d1_6 rfl (by decide) (by decide) (fun hc6_1 => ?_) (fun hc6_1 => ?_)
  · subst hΦ
    exact own_retV X d1_23 (by decide) (by decide) rfl ⟨by rw [own_mn, own_mx, if_neg hc6_1, if_neg hc6_1]; exact A, K0⟩
  · refine own_aloadN X (pc' := 10) d1_9 rfl rfl rfl ?_
    refine own_iloadN X (pc' := 11) d1_10 rfl rfl ?_
    refine own_iaload X (v := c1) (pc' := 12) A rfl rfl d1_11 rfl ?_
    refine own_istoreN X (pc' := 13) (Ls' := #[.val (.ref a), .val (.int (1 : Int32)), .val (.int (2 : Int32)), .val (.int c1)]) d1_12 rfl rfl ?_
    refine own_aloadN X (pc' := 14) d1_13 rfl rfl rfl ?_
    refine own_iloadN X (pc' := 15) d1_14 rfl rfl ?_
    refine own_aloadN X (pc' := 16) d1_15 rfl rfl rfl ?_
    refine own_iloadN X (pc' := 17) d1_16 rfl rfl ?_
    refine own_iaload X (v := c2) (pc' := 18) A rfl rfl d1_17 rfl ?_
    refine own_iastore X (vs' := [c0, c2, c2, c3]) (pc' := 19) A ge rfl rfl d1_18 rfl ?_
    intro T2 h2 X2 A2 W2
    have K3 := K0.wr W2 (Or.inl (by simp))
    refine own_aloadN X2 (pc' := 20) d1_19 rfl rfl rfl ?_
    refine own_iloadN X2 (pc' := 21) d1_20 rfl rfl ?_
    refine own_iloadN X2 (pc' := 22) d1_21 rfl rfl ?_
    refine own_iastore X2 (vs' := [c0, c2, c1, c3]) (pc' := 23) A2 ge rfl rfl d1_22 rfl ?_
    intro T4 h4 X4 A4 W4
    have K5 := K3.wr W4 (Or.inl (by simp))
    subst hΦ
    exact own_retV X4 d1_23 (by decide) (by decide) rfl ⟨by rw [own_mn, own_mx, if_pos hc6_1, if_pos hc6_1]; exact A4, K5⟩
theorem d2_0 : decode method_4_code 0 = .ok (.iload_n 1, 1) := by decide +kernel
theorem d2_1 : decode method_4_code 1 = .ok (.iconst 3, 1) := by decide +kernel
theorem d2_2 : decode method_4_code 2 = .ok (.iand, 1) := by decide +kernel
theorem d2_3 : decode method_4_code 3 = .ok (.istore_n 3, 1) := by decide +kernel
theorem d2_4 : decode method_4_code 4 = .ok (.iload_n 3, 1) := by decide +kernel
theorem d2_5 : decode method_4_code 5 = .ok (.iconst 3, 1) := by decide +kernel
theorem d2_6 : decode method_4_code 6 = .ok (.if_icmp .ne 5, 3) := by decide +kernel
theorem d2_9 : decode method_4_code 9 = .ok (.iload_n 2, 1) := by decide +kernel
theorem d2_10 : decode method_4_code 10 = .ok (.ireturn, 1) := by decide +kernel
theorem d2_11 : decode method_4_code 11 = .ok (.aload_n 0, 1) := by decide +kernel
theorem d2_12 : decode method_4_code 12 = .ok (.iload_n 3, 1) := by decide +kernel
theorem d2_13 : decode method_4_code 13 = .ok (.iaload, 1) := by decide +kernel
theorem d2_14 : decode method_4_code 14 = .ok (.iload_n 1, 1) := by decide +kernel
theorem d2_15 : decode method_4_code 15 = .ok (.iconst 2, 1) := by decide +kernel
theorem d2_16 : decode method_4_code 16 = .ok (.iushr, 1) := by decide +kernel
theorem d2_17 : decode method_4_code 17 = .ok (.iconst 3, 1) := by decide +kernel
theorem d2_18 : decode method_4_code 18 = .ok (.iand, 1) := by decide +kernel
theorem d2_19 : decode method_4_code 19 = .ok (.iadd, 1) := by decide +kernel
theorem d2_20 : decode method_4_code 20 = .ok (.iconst 1, 1) := by decide +kernel
theorem d2_21 : decode method_4_code 21 = .ok (.isub, 1) := by decide +kernel
theorem d2_22 : decode method_4_code 22 = .ok (.ireturn, 1) := by decide +kernel
theorem pn_rm2 : plainFor (⟨"com/example/quern/quern/index/WalkHoldsPinLaw", "pick", "([III)I"⟩ : MethodName) = true := plainFor_of_name (by first | (simp [plainName, overriddenIn]; done) | decide +kernel)
theorem ef_rm2 (m : MethodId) (x0 : Addr) (x1 : Int32) (x2 : Int32) : entryFrame m #[(.ref x0), (.int x1), (.int x2)] 4 = mkF m 0 #[.val (.ref x0), .val (.int x1), .val (.int x2), .unset] [] := by first | (simp [entryFrame, mkF, argsToLocals, Value.category]; done) | rfl
set_option maxRecDepth 65536 in
set_option maxHeartbeats 4000000 in
theorem rm2 (l : Launch) (Z : State) (a0 : Array Value) (hw : ∀ d ∈ tables_1, d.before a0 Z = true) (n0 : Nat) (a : Addr) (mode : Int32) (raw : Int32) (h0 : Heap) (hn0 : n0 ≤ h0.size) (s0 s1 s2 : Int32) (A : own_A Z h0 a .int [s0, s1, s2]) :
    own_Met l (⟨"com/example/quern/quern/index/WalkHoldsPinLaw", "pick", "([III)I"⟩ : MethodName) method_4_code 4 (some .int) ({ frames := 0, cells := 0, slots := 0, locals := 0 } : Room) Z n0 #[(.ref a), (.int mode), (.int raw)] h0 (some (.int (own_pk s0 s1 s2 mode raw))) (fun h' => h' = h0) := by
  refine own_met pn_rm2 hn0 ?_
  intro p e s m below meth c T X
  refine own_cast (ef_rm2 m a mode raw) ?_
  generalize hΦ : own_Q n0 below s _ _ _ = Φ
  refine own_iloadN X (pc' := 1) d2_0 rfl rfl ?_
  refine own_iconst X (v := (3 : Int32)) (pc' := 2) d2_1 rfl (by decide) ?_
  refine own_iand X (r := (mode &&& (3 : Int32))) (pc' := 3) d2_2 rfl rfl ?_
  refine own_istoreN X (pc' := 4) (Ls' := #[.val (.ref a), .val (.int mode), .val (.int raw), .val (.int (mode &&& (3 : Int32)))]) d2_3 rfl rfl ?_
  refine own_iloadN X (pc' := 5) d2_4 rfl rfl ?_
  refine own_iconst X (v := (3 : Int32)) (pc' := 6) d2_5 rfl (by decide) ?_
  refine own_icmp_ne X (pct := 11) (pc' := 9) d2_6 rfl (by decide) (by decide) (fun hc6_1 => ?_) (fun hc6_1 => ?_)
  · refine own_aloadN X (pc' := 12) d2_11 rfl rfl rfl ?_
    refine own_iloadN X (pc' := 13) d2_12 rfl rfl ?_
    refine own_iaload X (v := ([s0, s1, s2].getD (mode &&& (3 : Int32)).toNatClampNeg 0)) (pc' := 14) A (own_pin hc6_1) rfl d2_13 rfl ?_
    refine own_iloadN X (pc' := 15) d2_14 rfl rfl ?_
    refine own_iconst X (v := (2 : Int32)) (pc' := 16) d2_15 rfl (by decide) ?_
    refine own_iushr X (r := ((mode.toUInt32 >>> ((2 : Int32) &&& 31).toUInt32).toInt32)) (pc' := 17) d2_16 rfl rfl ?_
    refine own_iconst X (v := (3 : Int32)) (pc' := 18) d2_17 rfl (by decide) ?_
    refine own_iand X (r := (((mode.toUInt32 >>> ((2 : Int32) &&& 31).toUInt32).toInt32) &&& (3 : Int32))) (pc' := 19) d2_18 rfl rfl ?_
    refine own_iadd X (r := (([s0, s1, s2].getD (mode &&& (3 : Int32)).toNatClampNeg 0) + (((mode.toUInt32 >>> ((2 : Int32) &&& 31).toUInt32).toInt32) &&& (3 : Int32)))) (pc' := 20) d2_19 rfl rfl ?_
    refine own_iconst X (v := (1 : Int32)) (pc' := 21) d2_20 rfl (by decide) ?_
    refine own_isub X (r := ((([s0, s1, s2].getD (mode &&& (3 : Int32)).toNatClampNeg 0) + (((mode.toUInt32 >>> ((2 : Int32) &&& 31).toUInt32).toInt32) &&& (3 : Int32))) - (1 : Int32))) (pc' := 22) d2_21 rfl rfl ?_
    subst hΦ
    exact own_retI X d2_22 (by decide) (by decide) (by rw [own_pk, if_pos hc6_1]) rfl
  · refine own_iloadN X (pc' := 10) d2_9 rfl rfl ?_
    subst hΦ
    exact own_retI X d2_10 (by decide) (by decide) (by rw [own_pk, if_neg (fun z => z hc6_1)]) rfl
theorem d3_0 : decode prog_64_method_1_code 0 = .ok (.aload_n 0, 1) := by decide +kernel
theorem d3_1 : decode prog_64_method_1_code 1 = .ok (.invokespecial 1, 3) := by decide +kernel
theorem d3_4 : decode prog_64_method_1_code 4 = .ok (.aload_n 0, 1) := by decide +kernel
theorem d3_5 : decode prog_64_method_1_code 5 = .ok (.aload_n 1, 1) := by decide +kernel
theorem d3_6 : decode prog_64_method_1_code 6 = .ok (.putfield 7, 3) := by decide +kernel
theorem d3_9 : decode prog_64_method_1_code 9 = .ok (.return_, 1) := by decide +kernel
theorem pn_rm3 : plainFor (⟨"com/example/quern/quern/index/DeletionsFile$Walk", "<init>", "([I)V"⟩ : MethodName) = true := plainFor_of_name (by first | (simp [plainName, overriddenIn]; done) | decide +kernel)
theorem ef_rm3 (m : MethodId) (x0 : Addr) (x1 : Addr) : entryFrame m #[(.ref x0), (.ref x1)] 2 = mkF m 0 #[.val (.ref x0), .val (.ref x1)] [] := by first | (simp [entryFrame, mkF, argsToLocals, Value.category]; done) | rfl
set_option maxRecDepth 65536 in
set_option maxHeartbeats 4000000 in
theorem rm3 (l : Launch) (Z : State) (a0 : Array Value) (hw : ∀ d ∈ tables_1, d.before a0 Z = true) (n0 : Nat) (a : Addr) (d : Addr) (h0 : Heap) (hn0 : n0 ≤ h0.size) (Ex : Exa Z h0 a "com/example/quern/quern/index/DeletionsFile$Walk") (F_documents : Fld Z h0 a "com/example/quern/quern/index/DeletionsFile$Walk" "documents" "[I" .null) (F_next : Fld Z h0 a "com/example/quern/quern/index/DeletionsFile$Walk" "next" "I" (.int 0)) (ge : n0 ≤ a) :
    own_Met l (⟨"com/example/quern/quern/index/DeletionsFile$Walk", "<init>", "([I)V"⟩ : MethodName) prog_64_method_1_code 2 none ({ frames := 1, cells := 0, slots := 0, locals := 12 } : Room) Z n0 #[(.ref a), (.ref d)] h0 none (fun h' => own_W Z h' a d 0 ∧ Keep h0 h' [a]) := by
  refine own_met pn_rm3 hn0 ?_
  intro p e s m below meth c T X
  refine own_cast (ef_rm3 m a d) ?_
  generalize hΦ : own_Q n0 below s _ _ _ = Φ
  have K0 := Keep.refl h0 [a]
  refine own_aloadN X (pc' := 1) d3_0 rfl rfl rfl ?_
  refine own_objI X (W := 0) (pc' := 4) (hw _ (List.mem_of_getElem? (i := 14) rfl)) (hw _ (List.mem_of_getElem? (i := 15) rfl)) (hw _ (List.mem_of_getElem? (i := 16) rfl)) d3_1 rfl rfl (by decide) (by decide) (by decide) ?_
  intro T1 X1
  refine own_aloadN X1 (pc' := 5) d3_4 rfl rfl rfl ?_
  refine own_aloadN X1 (pc' := 6) d3_5 rfl rfl rfl ?_
  refine own_putF X1 (v' := (.ref d)) (ty := (.array .int)) (pc' := 9) (hw _ (List.mem_of_getElem? (i := 17) rfl)) F_documents Ex ge (Or.inr ⟨(hw _ (List.mem_of_getElem? (i := 18) rfl)), rfl, rfl⟩) (hw _ (List.mem_of_getElem? (i := 9) rfl)) (by decide) rfl rfl d3_6 rfl ?_
  intro T2 h2 X2 W2
  have F3 := F_next.other W2 (Or.inr (slot_ne (Or.inl (hw _ (List.mem_of_getElem? (i := 25) rfl))) (Or.inr (hw _ (List.mem_of_getElem? (i := 18) rfl))) (by decide) (t := .int) (t' := (.array .int)) (by decide) (by decide)))
  have Ex4 := Ex.wr W2
  have K5 := K0.wr W2 (Or.inl (by simp))
  have F2_documents := F_documents.same W2
  subst hΦ
  exact own_retV X2 d3_9 (by decide) (by decide) rfl ⟨⟨Ex4, F2_documents, F3⟩, K5⟩
theorem d5_0 : decode prog_64_method_2_code 0 = .ok (.aload_n 0, 1) := by decide +kernel
theorem d5_1 : decode prog_64_method_2_code 1 = .ok (.getfield 13, 3) := by decide +kernel
theorem d5_4 : decode prog_64_method_2_code 4 = .ok (.aload_n 0, 1) := by decide +kernel
theorem d5_5 : decode prog_64_method_2_code 5 = .ok (.getfield 7, 3) := by decide +kernel
theorem d5_8 : decode prog_64_method_2_code 8 = .ok (.arraylength, 1) := by decide +kernel
theorem d5_9 : decode prog_64_method_2_code 9 = .ok (.if_icmp .ge 29, 3) := by decide +kernel
theorem d5_38 : decode prog_64_method_2_code 38 = .ok (.aload_n 0, 1) := by decide +kernel
theorem d5_39 : decode prog_64_method_2_code 39 = .ok (.getfield 13, 3) := by decide +kernel
theorem d5_42 : decode prog_64_method_2_code 42 = .ok (.aload_n 0, 1) := by decide +kernel
theorem d5_43 : decode prog_64_method_2_code 43 = .ok (.getfield 7, 3) := by decide +kernel
theorem d5_46 : decode prog_64_method_2_code 46 = .ok (.arraylength, 1) := by decide +kernel
theorem d5_47 : decode prog_64_method_2_code 47 = .ok (.if_icmp .ge 20, 3) := by decide +kernel
theorem d5_67 : decode prog_64_method_2_code 67 = .ok (.iconst 0, 1) := by decide +kernel
theorem d5_68 : decode prog_64_method_2_code 68 = .ok (.ireturn, 1) := by decide +kernel
theorem pn_rm5_00 : plainFor (⟨"com/example/quern/quern/index/DeletionsFile$Walk", "holds", "(I)Z"⟩ : MethodName) = true := plainFor_of_name (by first | (simp [plainName, overriddenIn]; done) | decide +kernel)
theorem ef_rm5_00 (m : MethodId) (x0 : Addr) (x1 : Int32) : entryFrame m #[(.ref x0), (.int x1)] 2 = mkF m 0 #[.val (.ref x0), .val (.int x1)] [] := by first | (simp [entryFrame, mkF, argsToLocals, Value.category]; done) | rfl
set_option maxRecDepth 65536 in
set_option maxHeartbeats 4000000 in
theorem rm5_00 (l : Launch) (Z : State) (a0 : Array Value) (hw : ∀ d ∈ tables_1, d.before a0 Z = true) (n0 : Nat) (a : Addr) (q : Int32) (h0 : Heap) (hn0 : n0 ≤ h0.size) (d : Addr) (D : own_W Z h0 a d 0) (A : own_A Z h0 d .int []) (ge : n0 ≤ a) (ne : d ≠ a) :
    own_Met l (⟨"com/example/quern/quern/index/DeletionsFile$Walk", "holds", "(I)Z"⟩ : MethodName) prog_64_method_2_code 2 (some .boolean) ({ frames := 0, cells := 0, slots := 0, locals := 0 } : Room) Z n0 #[(.ref a), (.int q)] h0 (some (.int (own_hd [] q))) (fun h' => own_W Z h' a d (own_nx [] 0 q) ∧ Keep h0 h' [a]) := by
  refine own_met pn_rm5_00 hn0 ?_
  intro p e s m below meth c T X
  refine own_cast (ef_rm5_00 m a q) ?_
  generalize hΦ : own_Q n0 below s _ _ _ = Φ
  obtain ⟨Ex, F_documents, F_next⟩ := D
  have K0 := Keep.refl h0 [a]
  refine own_aloadN X (pc' := 1) d5_0 rfl rfl rfl ?_
  refine own_getF X (pc' := 4) (hw _ (List.mem_of_getElem? (i := 24) rfl)) F_next d5_1 rfl ?_
  intro T1 X1
  refine own_aloadN X1 (pc' := 5) d5_4 rfl rfl rfl ?_
  refine own_getF X1 (pc' := 8) (hw _ (List.mem_of_getElem? (i := 17) rfl)) F_documents d5_5 rfl ?_
  intro T2 X2
  refine own_len X2 (v := (0 : Int32)) (pc' := 9) A (by first | rfl | decide) d5_8 rfl ?_
  refine own_icmp_ge X2 (pct := 38) (pc' := 12) d5_9 rfl (by decide) (by decide) (fun _ => ?_) (fun hc => absurd hc (by decide))
  refine own_aloadN X2 (pc' := 39) d5_38 rfl rfl rfl ?_
  refine own_getF X2 (pc' := 42) (hw _ (List.mem_of_getElem? (i := 24) rfl)) F_next d5_39 rfl ?_
  intro T3 X3
  refine own_aloadN X3 (pc' := 43) d5_42 rfl rfl rfl ?_
  refine own_getF X3 (pc' := 46) (hw _ (List.mem_of_getElem? (i := 17) rfl)) F_documents d5_43 rfl ?_
  intro T4 X4
  refine own_len X4 (v := (0 : Int32)) (pc' := 47) A (by first | rfl | decide) d5_46 rfl ?_
  refine own_icmp_ge X4 (pct := 67) (pc' := 50) d5_47 rfl (by decide) (by decide) (fun _ => ?_) (fun hc => absurd hc (by decide))
  refine own_iconst X4 (v := (0 : Int32)) (pc' := 68) d5_67 rfl (by decide) ?_
  subst hΦ
  exact own_retZ X4 d5_68 (by decide) (by decide) (by decide) (by rw [own_hdn]) ⟨by rw [own_nxn]; exact ⟨Ex, F_documents, F_next⟩, K0⟩
theorem d5_12 : decode prog_64_method_2_code 12 = .ok (.aload_n 0, 1) := by decide +kernel
theorem d5_13 : decode prog_64_method_2_code 13 = .ok (.getfield 7, 3) := by decide +kernel
theorem d5_16 : decode prog_64_method_2_code 16 = .ok (.aload_n 0, 1) := by decide +kernel
theorem d5_17 : decode prog_64_method_2_code 17 = .ok (.getfield 13, 3) := by decide +kernel
theorem d5_20 : decode prog_64_method_2_code 20 = .ok (.iaload, 1) := by decide +kernel
theorem d5_21 : decode prog_64_method_2_code 21 = .ok (.iload_n 1, 1) := by decide +kernel
theorem d5_22 : decode prog_64_method_2_code 22 = .ok (.if_icmp .ge 16, 3) := by decide +kernel
theorem d5_25 : decode prog_64_method_2_code 25 = .ok (.aload_n 0, 1) := by decide +kernel
theorem d5_26 : decode prog_64_method_2_code 26 = .ok (.dup, 1) := by decide +kernel
theorem d5_27 : decode prog_64_method_2_code 27 = .ok (.getfield 13, 3) := by decide +kernel
theorem d5_30 : decode prog_64_method_2_code 30 = .ok (.iconst 1, 1) := by decide +kernel
theorem d5_31 : decode prog_64_method_2_code 31 = .ok (.iadd, 1) := by decide +kernel
theorem d5_32 : decode prog_64_method_2_code 32 = .ok (.putfield 13, 3) := by decide +kernel
theorem d5_35 : decode prog_64_method_2_code 35 = .ok (.goto (-35), 3) := by decide +kernel
theorem d5_50 : decode prog_64_method_2_code 50 = .ok (.aload_n 0, 1) := by decide +kernel
theorem d5_51 : decode prog_64_method_2_code 51 = .ok (.getfield 7, 3) := by decide +kernel
theorem d5_54 : decode prog_64_method_2_code 54 = .ok (.aload_n 0, 1) := by decide +kernel
theorem d5_55 : decode prog_64_method_2_code 55 = .ok (.getfield 13, 3) := by decide +kernel
theorem d5_58 : decode prog_64_method_2_code 58 = .ok (.iaload, 1) := by decide +kernel
theorem d5_59 : decode prog_64_method_2_code 59 = .ok (.iload_n 1, 1) := by decide +kernel
theorem d5_60 : decode prog_64_method_2_code 60 = .ok (.if_icmp .ne 7, 3) := by decide +kernel
theorem d5_63 : decode prog_64_method_2_code 63 = .ok (.iconst 1, 1) := by decide +kernel
theorem d5_64 : decode prog_64_method_2_code 64 = .ok (.goto 4, 3) := by decide +kernel
theorem pn_rm5_10 : plainFor (⟨"com/example/quern/quern/index/DeletionsFile$Walk", "holds", "(I)Z"⟩ : MethodName) = true := plainFor_of_name (by first | (simp [plainName, overriddenIn]; done) | decide +kernel)
theorem ef_rm5_10 (m : MethodId) (x0 : Addr) (x1 : Int32) : entryFrame m #[(.ref x0), (.int x1)] 2 = mkF m 0 #[.val (.ref x0), .val (.int x1)] [] := by first | (simp [entryFrame, mkF, argsToLocals, Value.category]; done) | rfl
set_option maxRecDepth 65536 in
set_option maxHeartbeats 4000000 in
theorem rm5_10 (l : Launch) (Z : State) (a0 : Array Value) (hw : ∀ d ∈ tables_1, d.before a0 Z = true) (n0 : Nat) (a : Addr) (q : Int32) (h0 : Heap) (hn0 : n0 ≤ h0.size) (d : Addr) (c0 : Int32) (D : own_W Z h0 a d 0) (A : own_A Z h0 d .int [c0]) (ge : n0 ≤ a) (ne : d ≠ a) :
    own_Met l (⟨"com/example/quern/quern/index/DeletionsFile$Walk", "holds", "(I)Z"⟩ : MethodName) prog_64_method_2_code 2 (some .boolean) ({ frames := 0, cells := 0, slots := 0, locals := 0 } : Room) Z n0 #[(.ref a), (.int q)] h0 (some (.int (own_hd [c0] q))) (fun h' => own_W Z h' a d (own_nx [c0] 0 q) ∧ Keep h0 h' [a]) := by
  refine own_met pn_rm5_10 hn0 ?_
  intro p e s m below meth c T X
  refine own_cast (ef_rm5_10 m a q) ?_
  generalize hΦ : own_Q n0 below s _ _ _ = Φ
  obtain ⟨Ex, F_documents, F_next⟩ := D
  have K0 := Keep.refl h0 [a]
  refine own_aloadN X (pc' := 1) d5_0 rfl rfl rfl ?_
  refine own_getF X (pc' := 4) (hw _ (List.mem_of_getElem? (i := 24) rfl)) F_next d5_1 rfl ?_
  intro T1 X1
  refine own_aloadN X1 (pc' := 5) d5_4 rfl rfl rfl ?_
  refine own_getF X1 (pc' := 8) (hw _ (List.mem_of_getElem? (i := 17) rfl)) F_documents d5_5 rfl ?_
  intro T2 X2
  refine own_len X2 (v := (1 : Int32)) (pc' := 9) A (by first | rfl | decide) d5_8 rfl ?_
  refine own_icmp_ge X2 (pct := 38) (pc' := 12) d5_9 rfl (by decide) (by decide) (fun hc => absurd hc (by decide)) (fun _ => ?_)
  refine own_aloadN X2 (pc' := 13) d5_12 rfl rfl rfl ?_
  refine own_getF X2 (pc' := 16) (hw _ (List.mem_of_getElem? (i := 17) rfl)) F_documents d5_13 rfl ?_
  intro T3 X3
  refine own_aloadN X3 (pc' := 17) d5_16 rfl rfl rfl ?_
  refine own_getF X3 (pc' := 20) (hw _ (List.mem_of_getElem? (i := 24) rfl)) F_next d5_17 rfl ?_
  intro T4 X4
  refine own_iaload X4 (v := c0) (pc' := 21) A rfl rfl d5_20 rfl ?_
  refine own_iloadN X4 (pc' := 22) d5_21 rfl rfl ?_
  refine own_icmp_ge X4 (pct := 38) (pc' := 25) d5_22 rfl (by decide) (by decide) (fun hc22_5 => ?_) (fun hc22_5 => ?_)
  · refine own_aloadN X4 (pc' := 39) d5_38 rfl rfl rfl ?_
    refine own_getF X4 (pc' := 42) (hw _ (List.mem_of_getElem? (i := 24) rfl)) F_next d5_39 rfl ?_
    intro T6 X6
    refine own_aloadN X6 (pc' := 43) d5_42 rfl rfl rfl ?_
    refine own_getF X6 (pc' := 46) (hw _ (List.mem_of_getElem? (i := 17) rfl)) F_documents d5_43 rfl ?_
    intro T7 X7
    refine own_len X7 (v := (1 : Int32)) (pc' := 47) A (by first | rfl | decide) d5_46 rfl ?_
    refine own_icmp_ge X7 (pct := 67) (pc' := 50) d5_47 rfl (by decide) (by decide) (fun hc => absurd hc (by decide)) (fun _ => ?_)
    refine own_aloadN X7 (pc' := 51) d5_50 rfl rfl rfl ?_
    refine own_getF X7 (pc' := 54) (hw _ (List.mem_of_getElem? (i := 17) rfl)) F_documents d5_51 rfl ?_
    intro T8 X8
    refine own_aloadN X8 (pc' := 55) d5_54 rfl rfl rfl ?_
    refine own_getF X8 (pc' := 58) (hw _ (List.mem_of_getElem? (i := 24) rfl)) F_next d5_55 rfl ?_
    intro T9 X9
    refine own_iaload X9 (v := c0) (pc' := 59) A rfl rfl d5_58 rfl ?_
    refine own_iloadN X9 (pc' := 60) d5_59 rfl rfl ?_
    refine own_icmp_ne X9 (pct := 67) (pc' := 63) d5_60 rfl (by decide) (by decide) (fun hc60_10 => ?_) (fun hc60_10 => ?_)
    · refine own_iconst X9 (v := (0 : Int32)) (pc' := 68) d5_67 rfl (by decide) ?_
      subst hΦ
      exact own_retZ X9 d5_68 (by decide) (by decide) (by decide) (by rw [own_hdc, if_neg hc22_5, if_neg hc60_10]) ⟨by rw [own_nxc, if_neg hc22_5]; exact ⟨Ex, F_documents, F_next⟩, K0⟩
    · refine own_iconst X9 (v := (1 : Int32)) (pc' := 64) d5_63 rfl (by decide) ?_
      refine own_goto X9 (pc' := 68) d5_64 (by decide) (by decide) ?_
      subst hΦ
      exact own_retZ X9 d5_68 (by decide) (by decide) (by decide) (by rw [own_hdc, if_neg hc22_5, if_pos hc60_10]) ⟨by rw [own_nxc, if_neg hc22_5]; exact ⟨Ex, F_documents, F_next⟩, K0⟩
  · refine own_aloadN X4 (pc' := 26) d5_25 rfl rfl rfl ?_
    refine own_dup X4 (pc' := 27) d5_26 rfl rfl ?_
    refine own_getF X4 (pc' := 30) (hw _ (List.mem_of_getElem? (i := 24) rfl)) F_next d5_27 rfl ?_
    intro T11 X11
    refine own_iconst X11 (v := (1 : Int32)) (pc' := 31) d5_30 rfl (by decide) ?_
    refine own_iadd X11 (r := (1 : Int32)) (pc' := 32) d5_31 rfl (by decide) ?_
    refine own_putF X11 (v' := (.int (1 : Int32))) (ty := .int) (pc' := 35) (hw _ (List.mem_of_getElem? (i := 24) rfl)) F_next Ex ge (Or.inl (hw _ (List.mem_of_getElem? (i := 25) rfl))) (hw _ (List.mem_of_getElem? (i := 9) rfl)) (by decide) rfl rfl d5_32 rfl ?_
    intro T12 h12 X12 W12
    have A13 := A.other W12 ne
    have F14 := F_documents.other W12 (Or.inr (slot_ne (Or.inr (hw _ (List.mem_of_getElem? (i := 18) rfl))) (Or.inl (hw _ (List.mem_of_getElem? (i := 25) rfl))) (by decide) (t := (.array .int)) (t' := .int) (by decide) (by decide)))
    have Ex15 := Ex.wr W12
    have K16 := K0.wr W12 (Or.inl (by simp))
    have F12_next := F_next.same W12
    refine own_goto X12 (pc' := 0) d5_35 (by decide) (by decide) ?_
    refine own_aloadN X12 (pc' := 1) d5_0 rfl rfl rfl ?_
    refine own_getF X12 (pc' := 4) (hw _ (List.mem_of_getElem? (i := 24) rfl)) F12_next d5_1 rfl ?_
    intro T17 X17
    refine own_aloadN X17 (pc' := 5) d5_4 rfl rfl rfl ?_
    refine own_getF X17 (pc' := 8) (hw _ (List.mem_of_getElem? (i := 17) rfl)) F14 d5_5 rfl ?_
    intro T18 X18
    refine own_len X18 (v := (1 : Int32)) (pc' := 9) A13 (by first | rfl | decide) d5_8 rfl ?_
    refine own_icmp_ge X18 (pct := 38) (pc' := 12) d5_9 rfl (by decide) (by decide) (fun _ => ?_) (fun hc => absurd hc (by decide))
    refine own_aloadN X18 (pc' := 39) d5_38 rfl rfl rfl ?_
    refine own_getF X18 (pc' := 42) (hw _ (List.mem_of_getElem? (i := 24) rfl)) F12_next d5_39 rfl ?_
    intro T19 X19
    refine own_aloadN X19 (pc' := 43) d5_42 rfl rfl rfl ?_
    refine own_getF X19 (pc' := 46) (hw _ (List.mem_of_getElem? (i := 17) rfl)) F14 d5_43 rfl ?_
    intro T20 X20
    refine own_len X20 (v := (1 : Int32)) (pc' := 47) A13 (by first | rfl | decide) d5_46 rfl ?_
    refine own_icmp_ge X20 (pct := 67) (pc' := 50) d5_47 rfl (by decide) (by decide) (fun _ => ?_) (fun hc => absurd hc (by decide))
    refine own_iconst X20 (v := (0 : Int32)) (pc' := 68) d5_67 rfl (by decide) ?_
    subst hΦ
    exact own_retZ X20 d5_68 (by decide) (by decide) (by decide) (by rw [own_hdc, if_pos hc22_5, own_hdn]) ⟨by rw [own_nxc, if_pos hc22_5, own_nxn]; exact ⟨Ex15, F14, F12_next⟩, K16⟩
theorem pn_rm5_11 : plainFor (⟨"com/example/quern/quern/index/DeletionsFile$Walk", "holds", "(I)Z"⟩ : MethodName) = true := plainFor_of_name (by first | (simp [plainName, overriddenIn]; done) | decide +kernel)
theorem ef_rm5_11 (m : MethodId) (x0 : Addr) (x1 : Int32) : entryFrame m #[(.ref x0), (.int x1)] 2 = mkF m 0 #[.val (.ref x0), .val (.int x1)] [] := by first | (simp [entryFrame, mkF, argsToLocals, Value.category]; done) | rfl
set_option maxRecDepth 65536 in
set_option maxHeartbeats 4000000 in
theorem rm5_11 (l : Launch) (Z : State) (a0 : Array Value) (hw : ∀ d ∈ tables_1, d.before a0 Z = true) (n0 : Nat) (a : Addr) (q : Int32) (h0 : Heap) (hn0 : n0 ≤ h0.size) (d : Addr) (c0 : Int32) (D : own_W Z h0 a d 1) (A : own_A Z h0 d .int [c0]) (ge : n0 ≤ a) (ne : d ≠ a) :
    own_Met l (⟨"com/example/quern/quern/index/DeletionsFile$Walk", "holds", "(I)Z"⟩ : MethodName) prog_64_method_2_code 2 (some .boolean) ({ frames := 0, cells := 0, slots := 0, locals := 0 } : Room) Z n0 #[(.ref a), (.int q)] h0 (some (.int (own_hd [] q))) (fun h' => own_W Z h' a d (own_nx [] 1 q) ∧ Keep h0 h' [a]) := by
  refine own_met pn_rm5_11 hn0 ?_
  intro p e s m below meth c T X
  refine own_cast (ef_rm5_11 m a q) ?_
  generalize hΦ : own_Q n0 below s _ _ _ = Φ
  obtain ⟨Ex, F_documents, F_next⟩ := D
  have K0 := Keep.refl h0 [a]
  refine own_aloadN X (pc' := 1) d5_0 rfl rfl rfl ?_
  refine own_getF X (pc' := 4) (hw _ (List.mem_of_getElem? (i := 24) rfl)) F_next d5_1 rfl ?_
  intro T1 X1
  refine own_aloadN X1 (pc' := 5) d5_4 rfl rfl rfl ?_
  refine own_getF X1 (pc' := 8) (hw _ (List.mem_of_getElem? (i := 17) rfl)) F_documents d5_5 rfl ?_
  intro T2 X2
  refine own_len X2 (v := (1 : Int32)) (pc' := 9) A (by first | rfl | decide) d5_8 rfl ?_
  refine own_icmp_ge X2 (pct := 38) (pc' := 12) d5_9 rfl (by decide) (by decide) (fun _ => ?_) (fun hc => absurd hc (by decide))
  refine own_aloadN X2 (pc' := 39) d5_38 rfl rfl rfl ?_
  refine own_getF X2 (pc' := 42) (hw _ (List.mem_of_getElem? (i := 24) rfl)) F_next d5_39 rfl ?_
  intro T3 X3
  refine own_aloadN X3 (pc' := 43) d5_42 rfl rfl rfl ?_
  refine own_getF X3 (pc' := 46) (hw _ (List.mem_of_getElem? (i := 17) rfl)) F_documents d5_43 rfl ?_
  intro T4 X4
  refine own_len X4 (v := (1 : Int32)) (pc' := 47) A (by first | rfl | decide) d5_46 rfl ?_
  refine own_icmp_ge X4 (pct := 67) (pc' := 50) d5_47 rfl (by decide) (by decide) (fun _ => ?_) (fun hc => absurd hc (by decide))
  refine own_iconst X4 (v := (0 : Int32)) (pc' := 68) d5_67 rfl (by decide) ?_
  subst hΦ
  exact own_retZ X4 d5_68 (by decide) (by decide) (by decide) (by rw [own_hdn]) ⟨by rw [own_nxn]; exact ⟨Ex, F_documents, F_next⟩, K0⟩
theorem pn_rm5_20 : plainFor (⟨"com/example/quern/quern/index/DeletionsFile$Walk", "holds", "(I)Z"⟩ : MethodName) = true := plainFor_of_name (by first | (simp [plainName, overriddenIn]; done) | decide +kernel)
theorem ef_rm5_20 (m : MethodId) (x0 : Addr) (x1 : Int32) : entryFrame m #[(.ref x0), (.int x1)] 2 = mkF m 0 #[.val (.ref x0), .val (.int x1)] [] := by first | (simp [entryFrame, mkF, argsToLocals, Value.category]; done) | rfl
set_option maxRecDepth 65536 in
set_option maxHeartbeats 4000000 in
theorem rm5_20 (l : Launch) (Z : State) (a0 : Array Value) (hw : ∀ d ∈ tables_1, d.before a0 Z = true) (n0 : Nat) (a : Addr) (q : Int32) (h0 : Heap) (hn0 : n0 ≤ h0.size) (d : Addr) (c0 c1 : Int32) (D : own_W Z h0 a d 0) (A : own_A Z h0 d .int [c0, c1]) (ge : n0 ≤ a) (ne : d ≠ a) :
    own_Met l (⟨"com/example/quern/quern/index/DeletionsFile$Walk", "holds", "(I)Z"⟩ : MethodName) prog_64_method_2_code 2 (some .boolean) ({ frames := 0, cells := 0, slots := 0, locals := 0 } : Room) Z n0 #[(.ref a), (.int q)] h0 (some (.int (own_hd [c0, c1] q))) (fun h' => own_W Z h' a d (own_nx [c0, c1] 0 q) ∧ Keep h0 h' [a]) := by
  refine own_met pn_rm5_20 hn0 ?_
  intro p e s m below meth c T X
  refine own_cast (ef_rm5_20 m a q) ?_
  generalize hΦ : own_Q n0 below s _ _ _ = Φ
  obtain ⟨Ex, F_documents, F_next⟩ := D
  have K0 := Keep.refl h0 [a]
  refine own_aloadN X (pc' := 1) d5_0 rfl rfl rfl ?_
  refine own_getF X (pc' := 4) (hw _ (List.mem_of_getElem? (i := 24) rfl)) F_next d5_1 rfl ?_
  intro T1 X1
  refine own_aloadN X1 (pc' := 5) d5_4 rfl rfl rfl ?_
  refine own_getF X1 (pc' := 8) (hw _ (List.mem_of_getElem? (i := 17) rfl)) F_documents d5_5 rfl ?_
  intro T2 X2
  refine own_len X2 (v := (2 : Int32)) (pc' := 9) A (by first | rfl | decide) d5_8 rfl ?_
  refine own_icmp_ge X2 (pct := 38) (pc' := 12) d5_9 rfl (by decide) (by decide) (fun hc => absurd hc (by decide)) (fun _ => ?_)
  refine own_aloadN X2 (pc' := 13) d5_12 rfl rfl rfl ?_
  refine own_getF X2 (pc' := 16) (hw _ (List.mem_of_getElem? (i := 17) rfl)) F_documents d5_13 rfl ?_
  intro T3 X3
  refine own_aloadN X3 (pc' := 17) d5_16 rfl rfl rfl ?_
  refine own_getF X3 (pc' := 20) (hw _ (List.mem_of_getElem? (i := 24) rfl)) F_next d5_17 rfl ?_
  intro T4 X4
  refine own_iaload X4 (v := c0) (pc' := 21) A rfl rfl d5_20 rfl ?_
  refine own_iloadN X4 (pc' := 22) d5_21 rfl rfl ?_
  refine own_icmp_ge X4 (pct := 38) (pc' := 25) d5_22 rfl (by decide) (by decide) (fun hc22_5 => ?_) (fun hc22_5 => ?_)
  · refine own_aloadN X4 (pc' := 39) d5_38 rfl rfl rfl ?_
    refine own_getF X4 (pc' := 42) (hw _ (List.mem_of_getElem? (i := 24) rfl)) F_next d5_39 rfl ?_
    intro T6 X6
    refine own_aloadN X6 (pc' := 43) d5_42 rfl rfl rfl ?_
    refine own_getF X6 (pc' := 46) (hw _ (List.mem_of_getElem? (i := 17) rfl)) F_documents d5_43 rfl ?_
    intro T7 X7
    refine own_len X7 (v := (2 : Int32)) (pc' := 47) A (by first | rfl | decide) d5_46 rfl ?_
    refine own_icmp_ge X7 (pct := 67) (pc' := 50) d5_47 rfl (by decide) (by decide) (fun hc => absurd hc (by decide)) (fun _ => ?_)
    refine own_aloadN X7 (pc' := 51) d5_50 rfl rfl rfl ?_
    refine own_getF X7 (pc' := 54) (hw _ (List.mem_of_getElem? (i := 17) rfl)) F_documents d5_51 rfl ?_
    intro T8 X8
    refine own_aloadN X8 (pc' := 55) d5_54 rfl rfl rfl ?_
    refine own_getF X8 (pc' := 58) (hw _ (List.mem_of_getElem? (i := 24) rfl)) F_next d5_55 rfl ?_
    intro T9 X9
    refine own_iaload X9 (v := c0) (pc' := 59) A rfl rfl d5_58 rfl ?_
    refine own_iloadN X9 (pc' := 60) d5_59 rfl rfl ?_
    refine own_icmp_ne X9 (pct := 67) (pc' := 63) d5_60 rfl (by decide) (by decide) (fun hc60_10 => ?_) (fun hc60_10 => ?_)
    · refine own_iconst X9 (v := (0 : Int32)) (pc' := 68) d5_67 rfl (by decide) ?_
      subst hΦ
      exact own_retZ X9 d5_68 (by decide) (by decide) (by decide) (by rw [own_hdc, if_neg hc22_5, if_neg hc60_10]) ⟨by rw [own_nxc, if_neg hc22_5]; exact ⟨Ex, F_documents, F_next⟩, K0⟩
    · refine own_iconst X9 (v := (1 : Int32)) (pc' := 64) d5_63 rfl (by decide) ?_
      refine own_goto X9 (pc' := 68) d5_64 (by decide) (by decide) ?_
      subst hΦ
      exact own_retZ X9 d5_68 (by decide) (by decide) (by decide) (by rw [own_hdc, if_neg hc22_5, if_pos hc60_10]) ⟨by rw [own_nxc, if_neg hc22_5]; exact ⟨Ex, F_documents, F_next⟩, K0⟩
  · refine own_aloadN X4 (pc' := 26) d5_25 rfl rfl rfl ?_
    refine own_dup X4 (pc' := 27) d5_26 rfl rfl ?_
    refine own_getF X4 (pc' := 30) (hw _ (List.mem_of_getElem? (i := 24) rfl)) F_next d5_27 rfl ?_
    intro T11 X11
    refine own_iconst X11 (v := (1 : Int32)) (pc' := 31) d5_30 rfl (by decide) ?_
    refine own_iadd X11 (r := (1 : Int32)) (pc' := 32) d5_31 rfl (by decide) ?_
    refine own_putF X11 (v' := (.int (1 : Int32))) (ty := .int) (pc' := 35) (hw _ (List.mem_of_getElem? (i := 24) rfl)) F_next Ex ge (Or.inl (hw _ (List.mem_of_getElem? (i := 25) rfl))) (hw _ (List.mem_of_getElem? (i := 9) rfl)) (by decide) rfl rfl d5_32 rfl ?_
    intro T12 h12 X12 W12
    have A13 := A.other W12 ne
    have F14 := F_documents.other W12 (Or.inr (slot_ne (Or.inr (hw _ (List.mem_of_getElem? (i := 18) rfl))) (Or.inl (hw _ (List.mem_of_getElem? (i := 25) rfl))) (by decide) (t := (.array .int)) (t' := .int) (by decide) (by decide)))
    have Ex15 := Ex.wr W12
    have K16 := K0.wr W12 (Or.inl (by simp))
    have F12_next := F_next.same W12
    refine own_goto X12 (pc' := 0) d5_35 (by decide) (by decide) ?_
    refine own_aloadN X12 (pc' := 1) d5_0 rfl rfl rfl ?_
    refine own_getF X12 (pc' := 4) (hw _ (List.mem_of_getElem? (i := 24) rfl)) F12_next d5_1 rfl ?_
    intro T17 X17
    refine own_aloadN X17 (pc' := 5) d5_4 rfl rfl rfl ?_
    refine own_getF X17 (pc' := 8) (hw _ (List.mem_of_getElem? (i := 17) rfl)) F14 d5_5 rfl ?_
    intro T18 X18
    refine own_len X18 (v := (2 : Int32)) (pc' := 9) A13 (by first | rfl | decide) d5_8 rfl ?_
    refine own_icmp_ge X18 (pct := 38) (pc' := 12) d5_9 rfl (by decide) (by decide) (fun hc => absurd hc (by decide)) (fun _ => ?_)
    refine own_aloadN X18 (pc' := 13) d5_12 rfl rfl rfl ?_
    refine own_getF X18 (pc' := 16) (hw _ (List.mem_of_getElem? (i := 17) rfl)) F14 d5_13 rfl ?_
    intro T19 X19
    refine own_aloadN X19 (pc' := 17) d5_16 rfl rfl rfl ?_
    refine own_getF X19 (pc' := 20) (hw _ (List.mem_of_getElem? (i := 24) rfl)) F12_next d5_17 rfl ?_
    intro T20 X20
    refine own_iaload X20 (v := c1) (pc' := 21) A13 rfl rfl d5_20 rfl ?_
    refine own_iloadN X20 (pc' := 22) d5_21 rfl rfl ?_
    refine own_icmp_ge X20 (pct := 38) (pc' := 25) d5_22 rfl (by decide) (by decide) (fun hc22_21 => ?_) (fun hc22_21 => ?_)
    · refine own_aloadN X20 (pc' := 39) d5_38 rfl rfl rfl ?_
      refine own_getF X20 (pc' := 42) (hw _ (List.mem_of_getElem? (i := 24) rfl)) F12_next d5_39 rfl ?_
      intro T22 X22
      refine own_aloadN X22 (pc' := 43) d5_42 rfl rfl rfl ?_
      refine own_getF X22 (pc' := 46) (hw _ (List.mem_of_getElem? (i := 17) rfl)) F14 d5_43 rfl ?_
      intro T23 X23
      refine own_len X23 (v := (2 : Int32)) (pc' := 47) A13 (by first | rfl | decide) d5_46 rfl ?_
      refine own_icmp_ge X23 (pct := 67) (pc' := 50) d5_47 rfl (by decide) (by decide) (fun hc => absurd hc (by decide)) (fun _ => ?_)
      refine own_aloadN X23 (pc' := 51) d5_50 rfl rfl rfl ?_
      refine own_getF X23 (pc' := 54) (hw _ (List.mem_of_getElem? (i := 17) rfl)) F14 d5_51 rfl ?_
      intro T24 X24
      refine own_aloadN X24 (pc' := 55) d5_54 rfl rfl rfl ?_
      refine own_getF X24 (pc' := 58) (hw _ (List.mem_of_getElem? (i := 24) rfl)) F12_next d5_55 rfl ?_
      intro T25 X25
      refine own_iaload X25 (v := c1) (pc' := 59) A13 rfl rfl d5_58 rfl ?_
      refine own_iloadN X25 (pc' := 60) d5_59 rfl rfl ?_
      refine own_icmp_ne X25 (pct := 67) (pc' := 63) d5_60 rfl (by decide) (by decide) (fun hc60_26 => ?_) (fun hc60_26 => ?_)
      · refine own_iconst X25 (v := (0 : Int32)) (pc' := 68) d5_67 rfl (by decide) ?_
        subst hΦ
        exact own_retZ X25 d5_68 (by decide) (by decide) (by decide) (by rw [own_hdc, if_pos hc22_5, own_hdc, if_neg hc22_21, if_neg hc60_26]) ⟨by rw [own_nxc, if_pos hc22_5, own_nxc, if_neg hc22_21]; exact ⟨Ex15, F14, F12_next⟩, K16⟩
      · refine own_iconst X25 (v := (1 : Int32)) (pc' := 64) d5_63 rfl (by decide) ?_
        refine own_goto X25 (pc' := 68) d5_64 (by decide) (by decide) ?_
        subst hΦ
        exact own_retZ X25 d5_68 (by decide) (by decide) (by decide) (by rw [own_hdc, if_pos hc22_5, own_hdc, if_neg hc22_21, if_pos hc60_26]) ⟨by rw [own_nxc, if_pos hc22_5, own_nxc, if_neg hc22_21]; exact ⟨Ex15, F14, F12_next⟩, K16⟩
    · refine own_aloadN X20 (pc' := 26) d5_25 rfl rfl rfl ?_
      refine own_dup X20 (pc' := 27) d5_26 rfl rfl ?_
      refine own_getF X20 (pc' := 30) (hw _ (List.mem_of_getElem? (i := 24) rfl)) F12_next d5_27 rfl ?_
      intro T27 X27
      refine own_iconst X27 (v := (1 : Int32)) (pc' := 31) d5_30 rfl (by decide) ?_
      refine own_iadd X27 (r := (2 : Int32)) (pc' := 32) d5_31 rfl (by decide) ?_
      refine own_putF X27 (v' := (.int (2 : Int32))) (ty := .int) (pc' := 35) (hw _ (List.mem_of_getElem? (i := 24) rfl)) F12_next Ex15 ge (Or.inl (hw _ (List.mem_of_getElem? (i := 25) rfl))) (hw _ (List.mem_of_getElem? (i := 9) rfl)) (by decide) rfl rfl d5_32 rfl ?_
      intro T28 h28 X28 W28
      have A29 := A13.other W28 ne
      have F30 := F14.other W28 (Or.inr (slot_ne (Or.inr (hw _ (List.mem_of_getElem? (i := 18) rfl))) (Or.inl (hw _ (List.mem_of_getElem? (i := 25) rfl))) (by decide) (t := (.array .int)) (t' := .int) (by decide) (by decide)))
      have Ex31 := Ex15.wr W28
      have K32 := K16.wr W28 (Or.inl (by simp))
      have F28_next := F12_next.same W28
      refine own_goto X28 (pc' := 0) d5_35 (by decide) (by decide) ?_
      refine own_aloadN X28 (pc' := 1) d5_0 rfl rfl rfl ?_
      refine own_getF X28 (pc' := 4) (hw _ (List.mem_of_getElem? (i := 24) rfl)) F28_next d5_1 rfl ?_
      intro T33 X33
      refine own_aloadN X33 (pc' := 5) d5_4 rfl rfl rfl ?_
      refine own_getF X33 (pc' := 8) (hw _ (List.mem_of_getElem? (i := 17) rfl)) F30 d5_5 rfl ?_
      intro T34 X34
      refine own_len X34 (v := (2 : Int32)) (pc' := 9) A29 (by first | rfl | decide) d5_8 rfl ?_
      refine own_icmp_ge X34 (pct := 38) (pc' := 12) d5_9 rfl (by decide) (by decide) (fun _ => ?_) (fun hc => absurd hc (by decide))
      refine own_aloadN X34 (pc' := 39) d5_38 rfl rfl rfl ?_
      refine own_getF X34 (pc' := 42) (hw _ (List.mem_of_getElem? (i := 24) rfl)) F28_next d5_39 rfl ?_
      intro T35 X35
      refine own_aloadN X35 (pc' := 43) d5_42 rfl rfl rfl ?_
      refine own_getF X35 (pc' := 46) (hw _ (List.mem_of_getElem? (i := 17) rfl)) F30 d5_43 rfl ?_
      intro T36 X36
      refine own_len X36 (v := (2 : Int32)) (pc' := 47) A29 (by first | rfl | decide) d5_46 rfl ?_
      refine own_icmp_ge X36 (pct := 67) (pc' := 50) d5_47 rfl (by decide) (by decide) (fun _ => ?_) (fun hc => absurd hc (by decide))
      refine own_iconst X36 (v := (0 : Int32)) (pc' := 68) d5_67 rfl (by decide) ?_
      subst hΦ
      exact own_retZ X36 d5_68 (by decide) (by decide) (by decide) (by rw [own_hdc, if_pos hc22_5, own_hdc, if_pos hc22_21, own_hdn]) ⟨by rw [own_nxc, if_pos hc22_5, own_nxc, if_pos hc22_21, own_nxn]; exact ⟨Ex31, F30, F28_next⟩, K32⟩
theorem pn_rm5_21 : plainFor (⟨"com/example/quern/quern/index/DeletionsFile$Walk", "holds", "(I)Z"⟩ : MethodName) = true := plainFor_of_name (by first | (simp [plainName, overriddenIn]; done) | decide +kernel)
theorem ef_rm5_21 (m : MethodId) (x0 : Addr) (x1 : Int32) : entryFrame m #[(.ref x0), (.int x1)] 2 = mkF m 0 #[.val (.ref x0), .val (.int x1)] [] := by first | (simp [entryFrame, mkF, argsToLocals, Value.category]; done) | rfl
set_option maxRecDepth 65536 in
set_option maxHeartbeats 4000000 in
theorem rm5_21 (l : Launch) (Z : State) (a0 : Array Value) (hw : ∀ d ∈ tables_1, d.before a0 Z = true) (n0 : Nat) (a : Addr) (q : Int32) (h0 : Heap) (hn0 : n0 ≤ h0.size) (d : Addr) (c0 c1 : Int32) (D : own_W Z h0 a d 1) (A : own_A Z h0 d .int [c0, c1]) (ge : n0 ≤ a) (ne : d ≠ a) :
    own_Met l (⟨"com/example/quern/quern/index/DeletionsFile$Walk", "holds", "(I)Z"⟩ : MethodName) prog_64_method_2_code 2 (some .boolean) ({ frames := 0, cells := 0, slots := 0, locals := 0 } : Room) Z n0 #[(.ref a), (.int q)] h0 (some (.int (own_hd [c1] q))) (fun h' => own_W Z h' a d (own_nx [c1] 1 q) ∧ Keep h0 h' [a]) := by
  refine own_met pn_rm5_21 hn0 ?_
  intro p e s m below meth c T X
  refine own_cast (ef_rm5_21 m a q) ?_
  generalize hΦ : own_Q n0 below s _ _ _ = Φ
  obtain ⟨Ex, F_documents, F_next⟩ := D
  have K0 := Keep.refl h0 [a]
  refine own_aloadN X (pc' := 1) d5_0 rfl rfl rfl ?_
  refine own_getF X (pc' := 4) (hw _ (List.mem_of_getElem? (i := 24) rfl)) F_next d5_1 rfl ?_
  intro T1 X1
  refine own_aloadN X1 (pc' := 5) d5_4 rfl rfl rfl ?_
  refine own_getF X1 (pc' := 8) (hw _ (List.mem_of_getElem? (i := 17) rfl)) F_documents d5_5 rfl ?_
  intro T2 X2
  refine own_len X2 (v := (2 : Int32)) (pc' := 9) A (by first | rfl | decide) d5_8 rfl ?_
  refine own_icmp_ge X2 (pct := 38) (pc' := 12) d5_9 rfl (by decide) (by decide) (fun hc => absurd hc (by decide)) (fun _ => ?_)
  refine own_aloadN X2 (pc' := 13) d5_12 rfl rfl rfl ?_
  refine own_getF X2 (pc' := 16) (hw _ (List.mem_of_getElem? (i := 17) rfl)) F_documents d5_13 rfl ?_
  intro T3 X3
  refine own_aloadN X3 (pc' := 17) d5_16 rfl rfl rfl ?_
  refine own_getF X3 (pc' := 20) (hw _ (List.mem_of_getElem? (i := 24) rfl)) F_next d5_17 rfl ?_
  intro T4 X4
  refine own_iaload X4 (v := c1) (pc' := 21) A rfl rfl d5_20 rfl ?_
  refine own_iloadN X4 (pc' := 22) d5_21 rfl rfl ?_
  refine own_icmp_ge X4 (pct := 38) (pc' := 25) d5_22 rfl (by decide) (by decide) (fun hc22_5 => ?_) (fun hc22_5 => ?_)
  · refine own_aloadN X4 (pc' := 39) d5_38 rfl rfl rfl ?_
    refine own_getF X4 (pc' := 42) (hw _ (List.mem_of_getElem? (i := 24) rfl)) F_next d5_39 rfl ?_
    intro T6 X6
    refine own_aloadN X6 (pc' := 43) d5_42 rfl rfl rfl ?_
    refine own_getF X6 (pc' := 46) (hw _ (List.mem_of_getElem? (i := 17) rfl)) F_documents d5_43 rfl ?_
    intro T7 X7
    refine own_len X7 (v := (2 : Int32)) (pc' := 47) A (by first | rfl | decide) d5_46 rfl ?_
    refine own_icmp_ge X7 (pct := 67) (pc' := 50) d5_47 rfl (by decide) (by decide) (fun hc => absurd hc (by decide)) (fun _ => ?_)
    refine own_aloadN X7 (pc' := 51) d5_50 rfl rfl rfl ?_
    refine own_getF X7 (pc' := 54) (hw _ (List.mem_of_getElem? (i := 17) rfl)) F_documents d5_51 rfl ?_
    intro T8 X8
    refine own_aloadN X8 (pc' := 55) d5_54 rfl rfl rfl ?_
    refine own_getF X8 (pc' := 58) (hw _ (List.mem_of_getElem? (i := 24) rfl)) F_next d5_55 rfl ?_
    intro T9 X9
    refine own_iaload X9 (v := c1) (pc' := 59) A rfl rfl d5_58 rfl ?_
    refine own_iloadN X9 (pc' := 60) d5_59 rfl rfl ?_
    refine own_icmp_ne X9 (pct := 67) (pc' := 63) d5_60 rfl (by decide) (by decide) (fun hc60_10 => ?_) (fun hc60_10 => ?_)
    · refine own_iconst X9 (v := (0 : Int32)) (pc' := 68) d5_67 rfl (by decide) ?_
      subst hΦ
      exact own_retZ X9 d5_68 (by decide) (by decide) (by decide) (by rw [own_hdc, if_neg hc22_5, if_neg hc60_10]) ⟨by rw [own_nxc, if_neg hc22_5]; exact ⟨Ex, F_documents, F_next⟩, K0⟩
    · refine own_iconst X9 (v := (1 : Int32)) (pc' := 64) d5_63 rfl (by decide) ?_
      refine own_goto X9 (pc' := 68) d5_64 (by decide) (by decide) ?_
      subst hΦ
      exact own_retZ X9 d5_68 (by decide) (by decide) (by decide) (by rw [own_hdc, if_neg hc22_5, if_pos hc60_10]) ⟨by rw [own_nxc, if_neg hc22_5]; exact ⟨Ex, F_documents, F_next⟩, K0⟩
  · refine own_aloadN X4 (pc' := 26) d5_25 rfl rfl rfl ?_
    refine own_dup X4 (pc' := 27) d5_26 rfl rfl ?_
    refine own_getF X4 (pc' := 30) (hw _ (List.mem_of_getElem? (i := 24) rfl)) F_next d5_27 rfl ?_
    intro T11 X11
    refine own_iconst X11 (v := (1 : Int32)) (pc' := 31) d5_30 rfl (by decide) ?_
    refine own_iadd X11 (r := (2 : Int32)) (pc' := 32) d5_31 rfl (by decide) ?_
    refine own_putF X11 (v' := (.int (2 : Int32))) (ty := .int) (pc' := 35) (hw _ (List.mem_of_getElem? (i := 24) rfl)) F_next Ex ge (Or.inl (hw _ (List.mem_of_getElem? (i := 25) rfl))) (hw _ (List.mem_of_getElem? (i := 9) rfl)) (by decide) rfl rfl d5_32 rfl ?_
    intro T12 h12 X12 W12
    have A13 := A.other W12 ne
    have F14 := F_documents.other W12 (Or.inr (slot_ne (Or.inr (hw _ (List.mem_of_getElem? (i := 18) rfl))) (Or.inl (hw _ (List.mem_of_getElem? (i := 25) rfl))) (by decide) (t := (.array .int)) (t' := .int) (by decide) (by decide)))
    have Ex15 := Ex.wr W12
    have K16 := K0.wr W12 (Or.inl (by simp))
    have F12_next := F_next.same W12
    refine own_goto X12 (pc' := 0) d5_35 (by decide) (by decide) ?_
    refine own_aloadN X12 (pc' := 1) d5_0 rfl rfl rfl ?_
    refine own_getF X12 (pc' := 4) (hw _ (List.mem_of_getElem? (i := 24) rfl)) F12_next d5_1 rfl ?_
    intro T17 X17
    refine own_aloadN X17 (pc' := 5) d5_4 rfl rfl rfl ?_
    refine own_getF X17 (pc' := 8) (hw _ (List.mem_of_getElem? (i := 17) rfl)) F14 d5_5 rfl ?_
    intro T18 X18
    refine own_len X18 (v := (2 : Int32)) (pc' := 9) A13 (by first | rfl | decide) d5_8 rfl ?_
    refine own_icmp_ge X18 (pct := 38) (pc' := 12) d5_9 rfl (by decide) (by decide) (fun _ => ?_) (fun hc => absurd hc (by decide))
    refine own_aloadN X18 (pc' := 39) d5_38 rfl rfl rfl ?_
    refine own_getF X18 (pc' := 42) (hw _ (List.mem_of_getElem? (i := 24) rfl)) F12_next d5_39 rfl ?_
    intro T19 X19
    refine own_aloadN X19 (pc' := 43) d5_42 rfl rfl rfl ?_
    refine own_getF X19 (pc' := 46) (hw _ (List.mem_of_getElem? (i := 17) rfl)) F14 d5_43 rfl ?_
    intro T20 X20
    refine own_len X20 (v := (2 : Int32)) (pc' := 47) A13 (by first | rfl | decide) d5_46 rfl ?_
    refine own_icmp_ge X20 (pct := 67) (pc' := 50) d5_47 rfl (by decide) (by decide) (fun _ => ?_) (fun hc => absurd hc (by decide))
    refine own_iconst X20 (v := (0 : Int32)) (pc' := 68) d5_67 rfl (by decide) ?_
    subst hΦ
    exact own_retZ X20 d5_68 (by decide) (by decide) (by decide) (by rw [own_hdc, if_pos hc22_5, own_hdn]) ⟨by rw [own_nxc, if_pos hc22_5, own_nxn]; exact ⟨Ex15, F14, F12_next⟩, K16⟩
theorem pn_rm5_22 : plainFor (⟨"com/example/quern/quern/index/DeletionsFile$Walk", "holds", "(I)Z"⟩ : MethodName) = true := plainFor_of_name (by first | (simp [plainName, overriddenIn]; done) | decide +kernel)
theorem ef_rm5_22 (m : MethodId) (x0 : Addr) (x1 : Int32) : entryFrame m #[(.ref x0), (.int x1)] 2 = mkF m 0 #[.val (.ref x0), .val (.int x1)] [] := by first | (simp [entryFrame, mkF, argsToLocals, Value.category]; done) | rfl
set_option maxRecDepth 65536 in
set_option maxHeartbeats 4000000 in
theorem rm5_22 (l : Launch) (Z : State) (a0 : Array Value) (hw : ∀ d ∈ tables_1, d.before a0 Z = true) (n0 : Nat) (a : Addr) (q : Int32) (h0 : Heap) (hn0 : n0 ≤ h0.size) (d : Addr) (c0 c1 : Int32) (D : own_W Z h0 a d 2) (A : own_A Z h0 d .int [c0, c1]) (ge : n0 ≤ a) (ne : d ≠ a) :
    own_Met l (⟨"com/example/quern/quern/index/DeletionsFile$Walk", "holds", "(I)Z"⟩ : MethodName) prog_64_method_2_code 2 (some .boolean) ({ frames := 0, cells := 0, slots := 0, locals := 0 } : Room) Z n0 #[(.ref a), (.int q)] h0 (some (.int (own_hd [] q))) (fun h' => own_W Z h' a d (own_nx [] 2 q) ∧ Keep h0 h' [a]) := by
  refine own_met pn_rm5_22 hn0 ?_
  intro p e s m below meth c T X
  refine own_cast (ef_rm5_22 m a q) ?_
  generalize hΦ : own_Q n0 below s _ _ _ = Φ
  obtain ⟨Ex, F_documents, F_next⟩ := D
  have K0 := Keep.refl h0 [a]
  refine own_aloadN X (pc' := 1) d5_0 rfl rfl rfl ?_
  refine own_getF X (pc' := 4) (hw _ (List.mem_of_getElem? (i := 24) rfl)) F_next d5_1 rfl ?_
  intro T1 X1
  refine own_aloadN X1 (pc' := 5) d5_4 rfl rfl rfl ?_
  refine own_getF X1 (pc' := 8) (hw _ (List.mem_of_getElem? (i := 17) rfl)) F_documents d5_5 rfl ?_
  intro T2 X2
  refine own_len X2 (v := (2 : Int32)) (pc' := 9) A (by first | rfl | decide) d5_8 rfl ?_
  refine own_icmp_ge X2 (pct := 38) (pc' := 12) d5_9 rfl (by decide) (by decide) (fun _ => ?_) (fun hc => absurd hc (by decide))
  refine own_aloadN X2 (pc' := 39) d5_38 rfl rfl rfl ?_
  refine own_getF X2 (pc' := 42) (hw _ (List.mem_of_getElem? (i := 24) rfl)) F_next d5_39 rfl ?_
  intro T3 X3
  refine own_aloadN X3 (pc' := 43) d5_42 rfl rfl rfl ?_
  refine own_getF X3 (pc' := 46) (hw _ (List.mem_of_getElem? (i := 17) rfl)) F_documents d5_43 rfl ?_
  intro T4 X4
  refine own_len X4 (v := (2 : Int32)) (pc' := 47) A (by first | rfl | decide) d5_46 rfl ?_
  refine own_icmp_ge X4 (pct := 67) (pc' := 50) d5_47 rfl (by decide) (by decide) (fun _ => ?_) (fun hc => absurd hc (by decide))
  refine own_iconst X4 (v := (0 : Int32)) (pc' := 68) d5_67 rfl (by decide) ?_
  subst hΦ
  exact own_retZ X4 d5_68 (by decide) (by decide) (by decide) (by rw [own_hdn]) ⟨by rw [own_nxn]; exact ⟨Ex, F_documents, F_next⟩, K0⟩
theorem pn_rm5_30 : plainFor (⟨"com/example/quern/quern/index/DeletionsFile$Walk", "holds", "(I)Z"⟩ : MethodName) = true := plainFor_of_name (by first | (simp [plainName, overriddenIn]; done) | decide +kernel)
theorem ef_rm5_30 (m : MethodId) (x0 : Addr) (x1 : Int32) : entryFrame m #[(.ref x0), (.int x1)] 2 = mkF m 0 #[.val (.ref x0), .val (.int x1)] [] := by first | (simp [entryFrame, mkF, argsToLocals, Value.category]; done) | rfl
set_option maxRecDepth 65536 in
set_option maxHeartbeats 4000000 in
theorem rm5_30 (l : Launch) (Z : State) (a0 : Array Value) (hw : ∀ d ∈ tables_1, d.before a0 Z = true) (n0 : Nat) (a : Addr) (q : Int32) (h0 : Heap) (hn0 : n0 ≤ h0.size) (d : Addr) (c0 c1 c2 : Int32) (D : own_W Z h0 a d 0) (A : own_A Z h0 d .int [c0, c1, c2]) (ge : n0 ≤ a) (ne : d ≠ a) :
    own_Met l (⟨"com/example/quern/quern/index/DeletionsFile$Walk", "holds", "(I)Z"⟩ : MethodName) prog_64_method_2_code 2 (some .boolean) ({ frames := 0, cells := 0, slots := 0, locals := 0 } : Room) Z n0 #[(.ref a), (.int q)] h0 (some (.int (own_hd [c0, c1, c2] q))) (fun h' => own_W Z h' a d (own_nx [c0, c1, c2] 0 q) ∧ Keep h0 h' [a]) := by
  refine own_met pn_rm5_30 hn0 ?_
  intro p e s m below meth c T X
  refine own_cast (ef_rm5_30 m a q) ?_
  generalize hΦ : own_Q n0 below s _ _ _ = Φ
  obtain ⟨Ex, F_documents, F_next⟩ := D
  have K0 := Keep.refl h0 [a]
  refine own_aloadN X (pc' := 1) d5_0 rfl rfl rfl ?_
  refine own_getF X (pc' := 4) (hw _ (List.mem_of_getElem? (i := 24) rfl)) F_next d5_1 rfl ?_
  intro T1 X1
  refine own_aloadN X1 (pc' := 5) d5_4 rfl rfl rfl ?_
  refine own_getF X1 (pc' := 8) (hw _ (List.mem_of_getElem? (i := 17) rfl)) F_documents d5_5 rfl ?_
  intro T2 X2
  refine own_len X2 (v := (3 : Int32)) (pc' := 9) A (by first | rfl | decide) d5_8 rfl ?_
  refine own_icmp_ge X2 (pct := 38) (pc' := 12) d5_9 rfl (by decide) (by decide) (fun hc => absurd hc (by decide)) (fun _ => ?_)
  refine own_aloadN X2 (pc' := 13) d5_12 rfl rfl rfl ?_
  refine own_getF X2 (pc' := 16) (hw _ (List.mem_of_getElem? (i := 17) rfl)) F_documents d5_13 rfl ?_
  intro T3 X3
  refine own_aloadN X3 (pc' := 17) d5_16 rfl rfl rfl ?_
  refine own_getF X3 (pc' := 20) (hw _ (List.mem_of_getElem? (i := 24) rfl)) F_next d5_17 rfl ?_
  intro T4 X4
  refine own_iaload X4 (v := c0) (pc' := 21) A rfl rfl d5_20 rfl ?_
  refine own_iloadN X4 (pc' := 22) d5_21 rfl rfl ?_
  refine own_icmp_ge X4 (pct := 38) (pc' := 25) d5_22 rfl (by decide) (by decide) (fun hc22_5 => ?_) (fun hc22_5 => ?_)
  · refine own_aloadN X4 (pc' := 39) d5_38 rfl rfl rfl ?_
    refine own_getF X4 (pc' := 42) (hw _ (List.mem_of_getElem? (i := 24) rfl)) F_next d5_39 rfl ?_
    intro T6 X6
    refine own_aloadN X6 (pc' := 43) d5_42 rfl rfl rfl ?_
    refine own_getF X6 (pc' := 46) (hw _ (List.mem_of_getElem? (i := 17) rfl)) F_documents d5_43 rfl ?_
    intro T7 X7
    refine own_len X7 (v := (3 : Int32)) (pc' := 47) A (by first | rfl | decide) d5_46 rfl ?_
    refine own_icmp_ge X7 (pct := 67) (pc' := 50) d5_47 rfl (by decide) (by decide) (fun hc => absurd hc (by decide)) (fun _ => ?_)
    refine own_aloadN X7 (pc' := 51) d5_50 rfl rfl rfl ?_
    refine own_getF X7 (pc' := 54) (hw _ (List.mem_of_getElem? (i := 17) rfl)) F_documents d5_51 rfl ?_
    intro T8 X8
    refine own_aloadN X8 (pc' := 55) d5_54 rfl rfl rfl ?_
    refine own_getF X8 (pc' := 58) (hw _ (List.mem_of_getElem? (i := 24) rfl)) F_next d5_55 rfl ?_
    intro T9 X9
    refine own_iaload X9 (v := c0) (pc' := 59) A rfl rfl d5_58 rfl ?_
    refine own_iloadN X9 (pc' := 60) d5_59 rfl rfl ?_
    refine own_icmp_ne X9 (pct := 67) (pc' := 63) d5_60 rfl (by decide) (by decide) (fun hc60_10 => ?_) (fun hc60_10 => ?_)
    · refine own_iconst X9 (v := (0 : Int32)) (pc' := 68) d5_67 rfl (by decide) ?_
      subst hΦ
      exact own_retZ X9 d5_68 (by decide) (by decide) (by decide) (by rw [own_hdc, if_neg hc22_5, if_neg hc60_10]) ⟨by rw [own_nxc, if_neg hc22_5]; exact ⟨Ex, F_documents, F_next⟩, K0⟩
    · refine own_iconst X9 (v := (1 : Int32)) (pc' := 64) d5_63 rfl (by decide) ?_
      refine own_goto X9 (pc' := 68) d5_64 (by decide) (by decide) ?_
      subst hΦ
      exact own_retZ X9 d5_68 (by decide) (by decide) (by decide) (by rw [own_hdc, if_neg hc22_5, if_pos hc60_10]) ⟨by rw [own_nxc, if_neg hc22_5]; exact ⟨Ex, F_documents, F_next⟩, K0⟩
  · refine own_aloadN X4 (pc' := 26) d5_25 rfl rfl rfl ?_
    refine own_dup X4 (pc' := 27) d5_26 rfl rfl ?_
    refine own_getF X4 (pc' := 30) (hw _ (List.mem_of_getElem? (i := 24) rfl)) F_next d5_27 rfl ?_
    intro T11 X11
    refine own_iconst X11 (v := (1 : Int32)) (pc' := 31) d5_30 rfl (by decide) ?_
    refine own_iadd X11 (r := (1 : Int32)) (pc' := 32) d5_31 rfl (by decide) ?_
    refine own_putF X11 (v' := (.int (1 : Int32))) (ty := .int) (pc' := 35) (hw _ (List.mem_of_getElem? (i := 24) rfl)) F_next Ex ge (Or.inl (hw _ (List.mem_of_getElem? (i := 25) rfl))) (hw _ (List.mem_of_getElem? (i := 9) rfl)) (by decide) rfl rfl d5_32 rfl ?_
    intro T12 h12 X12 W12
    have A13 := A.other W12 ne
    have F14 := F_documents.other W12 (Or.inr (slot_ne (Or.inr (hw _ (List.mem_of_getElem? (i := 18) rfl))) (Or.inl (hw _ (List.mem_of_getElem? (i := 25) rfl))) (by decide) (t := (.array .int)) (t' := .int) (by decide) (by decide)))
    have Ex15 := Ex.wr W12
    have K16 := K0.wr W12 (Or.inl (by simp))
    have F12_next := F_next.same W12
    refine own_goto X12 (pc' := 0) d5_35 (by decide) (by decide) ?_
    refine own_aloadN X12 (pc' := 1) d5_0 rfl rfl rfl ?_
    refine own_getF X12 (pc' := 4) (hw _ (List.mem_of_getElem? (i := 24) rfl)) F12_next d5_1 rfl ?_
    intro T17 X17
    refine own_aloadN X17 (pc' := 5) d5_4 rfl rfl rfl ?_
    refine own_getF X17 (pc' := 8) (hw _ (List.mem_of_getElem? (i := 17) rfl)) F14 d5_5 rfl ?_
    intro T18 X18
    refine own_len X18 (v := (3 : Int32)) (pc' := 9) A13 (by first | rfl | decide) d5_8 rfl ?_
    refine own_icmp_ge X18 (pct := 38) (pc' := 12) d5_9 rfl (by decide) (by decide) (fun hc => absurd hc (by decide)) (fun _ => ?_)
    refine own_aloadN X18 (pc' := 13) d5_12 rfl rfl rfl ?_
    refine own_getF X18 (pc' := 16) (hw _ (List.mem_of_getElem? (i := 17) rfl)) F14 d5_13 rfl ?_
    intro T19 X19
    refine own_aloadN X19 (pc' := 17) d5_16 rfl rfl rfl ?_
    refine own_getF X19 (pc' := 20) (hw _ (List.mem_of_getElem? (i := 24) rfl)) F12_next d5_17 rfl ?_
    intro T20 X20
    refine own_iaload X20 (v := c1) (pc' := 21) A13 rfl rfl d5_20 rfl ?_
    refine own_iloadN X20 (pc' := 22) d5_21 rfl rfl ?_
    refine own_icmp_ge X20 (pct := 38) (pc' := 25) d5_22 rfl (by decide) (by decide) (fun hc22_21 => ?_) (fun hc22_21 => ?_)
    · refine own_aloadN X20 (pc' := 39) d5_38 rfl rfl rfl ?_
      refine own_getF X20 (pc' := 42) (hw _ (List.mem_of_getElem? (i := 24) rfl)) F12_next d5_39 rfl ?_
      intro T22 X22
      refine own_aloadN X22 (pc' := 43) d5_42 rfl rfl rfl ?_
      refine own_getF X22 (pc' := 46) (hw _ (List.mem_of_getElem? (i := 17) rfl)) F14 d5_43 rfl ?_
      intro T23 X23
      refine own_len X23 (v := (3 : Int32)) (pc' := 47) A13 (by first | rfl | decide) d5_46 rfl ?_
      refine own_icmp_ge X23 (pct := 67) (pc' := 50) d5_47 rfl (by decide) (by decide) (fun hc => absurd hc (by decide)) (fun _ => ?_)
      refine own_aloadN X23 (pc' := 51) d5_50 rfl rfl rfl ?_
      refine own_getF X23 (pc' := 54) (hw _ (List.mem_of_getElem? (i := 17) rfl)) F14 d5_51 rfl ?_
      intro T24 X24
      refine own_aloadN X24 (pc' := 55) d5_54 rfl rfl rfl ?_
      refine own_getF X24 (pc' := 58) (hw _ (List.mem_of_getElem? (i := 24) rfl)) F12_next d5_55 rfl ?_
      intro T25 X25
      refine own_iaload X25 (v := c1) (pc' := 59) A13 rfl rfl d5_58 rfl ?_
      refine own_iloadN X25 (pc' := 60) d5_59 rfl rfl ?_
      refine own_icmp_ne X25 (pct := 67) (pc' := 63) d5_60 rfl (by decide) (by decide) (fun hc60_26 => ?_) (fun hc60_26 => ?_)
      · refine own_iconst X25 (v := (0 : Int32)) (pc' := 68) d5_67 rfl (by decide) ?_
        subst hΦ
        exact own_retZ X25 d5_68 (by decide) (by decide) (by decide) (by rw [own_hdc, if_pos hc22_5, own_hdc, if_neg hc22_21, if_neg hc60_26]) ⟨by rw [own_nxc, if_pos hc22_5, own_nxc, if_neg hc22_21]; exact ⟨Ex15, F14, F12_next⟩, K16⟩
      · refine own_iconst X25 (v := (1 : Int32)) (pc' := 64) d5_63 rfl (by decide) ?_
        refine own_goto X25 (pc' := 68) d5_64 (by decide) (by decide) ?_
        subst hΦ
        exact own_retZ X25 d5_68 (by decide) (by decide) (by decide) (by rw [own_hdc, if_pos hc22_5, own_hdc, if_neg hc22_21, if_pos hc60_26]) ⟨by rw [own_nxc, if_pos hc22_5, own_nxc, if_neg hc22_21]; exact ⟨Ex15, F14, F12_next⟩, K16⟩
    · refine own_aloadN X20 (pc' := 26) d5_25 rfl rfl rfl ?_
      refine own_dup X20 (pc' := 27) d5_26 rfl rfl ?_
      refine own_getF X20 (pc' := 30) (hw _ (List.mem_of_getElem? (i := 24) rfl)) F12_next d5_27 rfl ?_
      intro T27 X27
      refine own_iconst X27 (v := (1 : Int32)) (pc' := 31) d5_30 rfl (by decide) ?_
      refine own_iadd X27 (r := (2 : Int32)) (pc' := 32) d5_31 rfl (by decide) ?_
      refine own_putF X27 (v' := (.int (2 : Int32))) (ty := .int) (pc' := 35) (hw _ (List.mem_of_getElem? (i := 24) rfl)) F12_next Ex15 ge (Or.inl (hw _ (List.mem_of_getElem? (i := 25) rfl))) (hw _ (List.mem_of_getElem? (i := 9) rfl)) (by decide) rfl rfl d5_32 rfl ?_
      intro T28 h28 X28 W28
      have A29 := A13.other W28 ne
      have F30 := F14.other W28 (Or.inr (slot_ne (Or.inr (hw _ (List.mem_of_getElem? (i := 18) rfl))) (Or.inl (hw _ (List.mem_of_getElem? (i := 25) rfl))) (by decide) (t := (.array .int)) (t' := .int) (by decide) (by decide)))
      have Ex31 := Ex15.wr W28
      have K32 := K16.wr W28 (Or.inl (by simp))
      have F28_next := F12_next.same W28
      refine own_goto X28 (pc' := 0) d5_35 (by decide) (by decide) ?_
      refine own_aloadN X28 (pc' := 1) d5_0 rfl rfl rfl ?_
      refine own_getF X28 (pc' := 4) (hw _ (List.mem_of_getElem? (i := 24) rfl)) F28_next d5_1 rfl ?_
      intro T33 X33
      refine own_aloadN X33 (pc' := 5) d5_4 rfl rfl rfl ?_
      refine own_getF X33 (pc' := 8) (hw _ (List.mem_of_getElem? (i := 17) rfl)) F30 d5_5 rfl ?_
      intro T34 X34
      refine own_len X34 (v := (3 : Int32)) (pc' := 9) A29 (by first | rfl | decide) d5_8 rfl ?_
      refine own_icmp_ge X34 (pct := 38) (pc' := 12) d5_9 rfl (by decide) (by decide) (fun hc => absurd hc (by decide)) (fun _ => ?_)
      refine own_aloadN X34 (pc' := 13) d5_12 rfl rfl rfl ?_
      refine own_getF X34 (pc' := 16) (hw _ (List.mem_of_getElem? (i := 17) rfl)) F30 d5_13 rfl ?_
      intro T35 X35
      refine own_aloadN X35 (pc' := 17) d5_16 rfl rfl rfl ?_
      refine own_getF X35 (pc' := 20) (hw _ (List.mem_of_getElem? (i := 24) rfl)) F28_next d5_17 rfl ?_
      intro T36 X36
      refine own_iaload X36 (v := c2) (pc' := 21) A29 rfl rfl d5_20 rfl ?_
      refine own_iloadN X36 (pc' := 22) d5_21 rfl rfl ?_
      refine own_icmp_ge X36 (pct := 38) (pc' := 25) d5_22 rfl (by decide) (by decide) (fun hc22_37 => ?_) (fun hc22_37 => ?_)
      · refine own_aloadN X36 (pc' := 39) d5_38 rfl rfl rfl ?_
        refine own_getF X36 (pc' := 42) (hw _ (List.mem_of_getElem? (i := 24) rfl)) F28_next d5_39 rfl ?_
        intro T38 X38
        refine own_aloadN X38 (pc' := 43) d5_42 rfl rfl rfl ?_
        refine own_getF X38 (pc' := 46) (hw _ (List.mem_of_getElem? (i := 17) rfl)) F30 d5_43 rfl ?_
        intro T39 X39
        refine own_len X39 (v := (3 : Int32)) (pc' := 47) A29 (by first | rfl | decide) d5_46 rfl ?_
        refine own_icmp_ge X39 (pct := 67) (pc' := 50) d5_47 rfl (by decide) (by decide) (fun hc => absurd hc (by decide)) (fun _ => ?_)
        refine own_aloadN X39 (pc' := 51) d5_50 rfl rfl rfl ?_
        refine own_getF X39 (pc' := 54) (hw _ (List.mem_of_getElem? (i := 17) rfl)) F30 d5_51 rfl ?_
        intro T40 X40
        refine own_aloadN X40 (pc' := 55) d5_54 rfl rfl rfl ?_
        refine own_getF X40 (pc' := 58) (hw _ (List.mem_of_getElem? (i := 24) rfl)) F28_next d5_55 rfl ?_
        intro T41 X41
        refine own_iaload X41 (v := c2) (pc' := 59) A29 rfl rfl d5_58 rfl ?_
        refine own_iloadN X41 (pc' := 60) d5_59 rfl rfl ?_
        refine own_icmp_ne X41 (pct := 67) (pc' := 63) d5_60 rfl (by decide) (by decide) (fun hc60_42 => ?_) (fun hc60_42 => ?_)
        · refine own_iconst X41 (v := (0 : Int32)) (pc' := 68) d5_67 rfl (by decide) ?_
          subst hΦ
          exact own_retZ X41 d5_68 (by decide) (by decide) (by decide) (by rw [own_hdc, if_pos hc22_5, own_hdc, if_pos hc22_21, own_hdc, if_neg hc22_37, if_neg hc60_42]) ⟨by rw [own_nxc, if_pos hc22_5, own_nxc, if_pos hc22_21, own_nxc, if_neg hc22_37]; exact ⟨Ex31, F30, F28_next⟩, K32⟩
        · refine own_iconst X41 (v := (1 : Int32)) (pc' := 64) d5_63 rfl (by decide) ?_
          refine own_goto X41 (pc' := 68) d5_64 (by decide) (by decide) ?_
          subst hΦ
          exact own_retZ X41 d5_68 (by decide) (by decide) (by decide) (by rw [own_hdc, if_pos hc22_5, own_hdc, if_pos hc22_21, own_hdc, if_neg hc22_37, if_pos hc60_42]) ⟨by rw [own_nxc, if_pos hc22_5, own_nxc, if_pos hc22_21, own_nxc, if_neg hc22_37]; exact ⟨Ex31, F30, F28_next⟩, K32⟩
      · refine own_aloadN X36 (pc' := 26) d5_25 rfl rfl rfl ?_
        refine own_dup X36 (pc' := 27) d5_26 rfl rfl ?_
        refine own_getF X36 (pc' := 30) (hw _ (List.mem_of_getElem? (i := 24) rfl)) F28_next d5_27 rfl ?_
        intro T43 X43
        refine own_iconst X43 (v := (1 : Int32)) (pc' := 31) d5_30 rfl (by decide) ?_
        refine own_iadd X43 (r := (3 : Int32)) (pc' := 32) d5_31 rfl (by decide) ?_
        refine own_putF X43 (v' := (.int (3 : Int32))) (ty := .int) (pc' := 35) (hw _ (List.mem_of_getElem? (i := 24) rfl)) F28_next Ex31 ge (Or.inl (hw _ (List.mem_of_getElem? (i := 25) rfl))) (hw _ (List.mem_of_getElem? (i := 9) rfl)) (by decide) rfl rfl d5_32 rfl ?_
        intro T44 h44 X44 W44
        have A45 := A29.other W44 ne
        have F46 := F30.other W44 (Or.inr (slot_ne (Or.inr (hw _ (List.mem_of_getElem? (i := 18) rfl))) (Or.inl (hw _ (List.mem_of_getElem? (i := 25) rfl))) (by decide) (t := (.array .int)) (t' := .int) (by decide) (by decide)))
        have Ex47 := Ex31.wr W44
        have K48 := K32.wr W44 (Or.inl (by simp))
        have F44_next := F28_next.same W44
        refine own_goto X44 (pc' := 0) d5_35 (by decide) (by decide) ?_
        refine own_aloadN X44 (pc' := 1) d5_0 rfl rfl rfl ?_
        refine own_getF X44 (pc' := 4) (hw _ (List.mem_of_getElem? (i := 24) rfl)) F44_next d5_1 rfl ?_
        intro T49 X49
        refine own_aloadN X49 (pc' := 5) d5_4 rfl rfl rfl ?_
        refine own_getF X49 (pc' := 8) (hw _ (List.mem_of_getElem? (i := 17) rfl)) F46 d5_5 rfl ?_
        intro T50 X50
        refine own_len X50 (v := (3 : Int32)) (pc' := 9) A45 (by first | rfl | decide) d5_8 rfl ?_
        refine own_icmp_ge X50 (pct := 38) (pc' := 12) d5_9 rfl (by decide) (by decide) (fun _ => ?_) (fun hc => absurd hc (by decide))
        refine own_aloadN X50 (pc' := 39) d5_38 rfl rfl rfl ?_
        refine own_getF X50 (pc' := 42) (hw _ (List.mem_of_getElem? (i := 24) rfl)) F44_next d5_39 rfl ?_
        intro T51 X51
        refine own_aloadN X51 (pc' := 43) d5_42 rfl rfl rfl ?_
        refine own_getF X51 (pc' := 46) (hw _ (List.mem_of_getElem? (i := 17) rfl)) F46 d5_43 rfl ?_
        intro T52 X52
        refine own_len X52 (v := (3 : Int32)) (pc' := 47) A45 (by first | rfl | decide) d5_46 rfl ?_
        refine own_icmp_ge X52 (pct := 67) (pc' := 50) d5_47 rfl (by decide) (by decide) (fun _ => ?_) (fun hc => absurd hc (by decide))
        refine own_iconst X52 (v := (0 : Int32)) (pc' := 68) d5_67 rfl (by decide) ?_
        subst hΦ
        exact own_retZ X52 d5_68 (by decide) (by decide) (by decide) (by rw [own_hdc, if_pos hc22_5, own_hdc, if_pos hc22_21, own_hdc, if_pos hc22_37, own_hdn]) ⟨by rw [own_nxc, if_pos hc22_5, own_nxc, if_pos hc22_21, own_nxc, if_pos hc22_37, own_nxn]; exact ⟨Ex47, F46, F44_next⟩, K48⟩
theorem pn_rm5_31 : plainFor (⟨"com/example/quern/quern/index/DeletionsFile$Walk", "holds", "(I)Z"⟩ : MethodName) = true := plainFor_of_name (by first | (simp [plainName, overriddenIn]; done) | decide +kernel)
theorem ef_rm5_31 (m : MethodId) (x0 : Addr) (x1 : Int32) : entryFrame m #[(.ref x0), (.int x1)] 2 = mkF m 0 #[.val (.ref x0), .val (.int x1)] [] := by first | (simp [entryFrame, mkF, argsToLocals, Value.category]; done) | rfl
set_option maxRecDepth 65536 in
set_option maxHeartbeats 4000000 in
theorem rm5_31 (l : Launch) (Z : State) (a0 : Array Value) (hw : ∀ d ∈ tables_1, d.before a0 Z = true) (n0 : Nat) (a : Addr) (q : Int32) (h0 : Heap) (hn0 : n0 ≤ h0.size) (d : Addr) (c0 c1 c2 : Int32) (D : own_W Z h0 a d 1) (A : own_A Z h0 d .int [c0, c1, c2]) (ge : n0 ≤ a) (ne : d ≠ a) :
    own_Met l (⟨"com/example/quern/quern/index/DeletionsFile$Walk", "holds", "(I)Z"⟩ : MethodName) prog_64_method_2_code 2 (some .boolean) ({ frames := 0, cells := 0, slots := 0, locals := 0 } : Room) Z n0 #[(.ref a), (.int q)] h0 (some (.int (own_hd [c1, c2] q))) (fun h' => own_W Z h' a d (own_nx [c1, c2] 1 q) ∧ Keep h0 h' [a]) := by
  refine own_met pn_rm5_31 hn0 ?_
  intro p e s m below meth c T X
  refine own_cast (ef_rm5_31 m a q) ?_
  generalize hΦ : own_Q n0 below s _ _ _ = Φ
  obtain ⟨Ex, F_documents, F_next⟩ := D
  have K0 := Keep.refl h0 [a]
  refine own_aloadN X (pc' := 1) d5_0 rfl rfl rfl ?_
  refine own_getF X (pc' := 4) (hw _ (List.mem_of_getElem? (i := 24) rfl)) F_next d5_1 rfl ?_
  intro T1 X1
  refine own_aloadN X1 (pc' := 5) d5_4 rfl rfl rfl ?_
  refine own_getF X1 (pc' := 8) (hw _ (List.mem_of_getElem? (i := 17) rfl)) F_documents d5_5 rfl ?_
  intro T2 X2
  refine own_len X2 (v := (3 : Int32)) (pc' := 9) A (by first | rfl | decide) d5_8 rfl ?_
  refine own_icmp_ge X2 (pct := 38) (pc' := 12) d5_9 rfl (by decide) (by decide) (fun hc => absurd hc (by decide)) (fun _ => ?_)
  refine own_aloadN X2 (pc' := 13) d5_12 rfl rfl rfl ?_
  refine own_getF X2 (pc' := 16) (hw _ (List.mem_of_getElem? (i := 17) rfl)) F_documents d5_13 rfl ?_
  intro T3 X3
  refine own_aloadN X3 (pc' := 17) d5_16 rfl rfl rfl ?_
  refine own_getF X3 (pc' := 20) (hw _ (List.mem_of_getElem? (i := 24) rfl)) F_next d5_17 rfl ?_
  intro T4 X4
  refine own_iaload X4 (v := c1) (pc' := 21) A rfl rfl d5_20 rfl ?_
  refine own_iloadN X4 (pc' := 22) d5_21 rfl rfl ?_
  refine own_icmp_ge X4 (pct := 38) (pc' := 25) d5_22 rfl (by decide) (by decide) (fun hc22_5 => ?_) (fun hc22_5 => ?_)
  · refine own_aloadN X4 (pc' := 39) d5_38 rfl rfl rfl ?_
    refine own_getF X4 (pc' := 42) (hw _ (List.mem_of_getElem? (i := 24) rfl)) F_next d5_39 rfl ?_
    intro T6 X6
    refine own_aloadN X6 (pc' := 43) d5_42 rfl rfl rfl ?_
    refine own_getF X6 (pc' := 46) (hw _ (List.mem_of_getElem? (i := 17) rfl)) F_documents d5_43 rfl ?_
    intro T7 X7
    refine own_len X7 (v := (3 : Int32)) (pc' := 47) A (by first | rfl | decide) d5_46 rfl ?_
    refine own_icmp_ge X7 (pct := 67) (pc' := 50) d5_47 rfl (by decide) (by decide) (fun hc => absurd hc (by decide)) (fun _ => ?_)
    refine own_aloadN X7 (pc' := 51) d5_50 rfl rfl rfl ?_
    refine own_getF X7 (pc' := 54) (hw _ (List.mem_of_getElem? (i := 17) rfl)) F_documents d5_51 rfl ?_
    intro T8 X8
    refine own_aloadN X8 (pc' := 55) d5_54 rfl rfl rfl ?_
    refine own_getF X8 (pc' := 58) (hw _ (List.mem_of_getElem? (i := 24) rfl)) F_next d5_55 rfl ?_
    intro T9 X9
    refine own_iaload X9 (v := c1) (pc' := 59) A rfl rfl d5_58 rfl ?_
    refine own_iloadN X9 (pc' := 60) d5_59 rfl rfl ?_
    refine own_icmp_ne X9 (pct := 67) (pc' := 63) d5_60 rfl (by decide) (by decide) (fun hc60_10 => ?_) (fun hc60_10 => ?_)
    · refine own_iconst X9 (v := (0 : Int32)) (pc' := 68) d5_67 rfl (by decide) ?_
      subst hΦ
      exact own_retZ X9 d5_68 (by decide) (by decide) (by decide) (by rw [own_hdc, if_neg hc22_5, if_neg hc60_10]) ⟨by rw [own_nxc, if_neg hc22_5]; exact ⟨Ex, F_documents, F_next⟩, K0⟩
    · refine own_iconst X9 (v := (1 : Int32)) (pc' := 64) d5_63 rfl (by decide) ?_
      refine own_goto X9 (pc' := 68) d5_64 (by decide) (by decide) ?_
      subst hΦ
      exact own_retZ X9 d5_68 (by decide) (by decide) (by decide) (by rw [own_hdc, if_neg hc22_5, if_pos hc60_10]) ⟨by rw [own_nxc, if_neg hc22_5]; exact ⟨Ex, F_documents, F_next⟩, K0⟩
  · refine own_aloadN X4 (pc' := 26) d5_25 rfl rfl rfl ?_
    refine own_dup X4 (pc' := 27) d5_26 rfl rfl ?_
    refine own_getF X4 (pc' := 30) (hw _ (List.mem_of_getElem? (i := 24) rfl)) F_next d5_27 rfl ?_
    intro T11 X11
    refine own_iconst X11 (v := (1 : Int32)) (pc' := 31) d5_30 rfl (by decide) ?_
    refine own_iadd X11 (r := (2 : Int32)) (pc' := 32) d5_31 rfl (by decide) ?_
    refine own_putF X11 (v' := (.int (2 : Int32))) (ty := .int) (pc' := 35) (hw _ (List.mem_of_getElem? (i := 24) rfl)) F_next Ex ge (Or.inl (hw _ (List.mem_of_getElem? (i := 25) rfl))) (hw _ (List.mem_of_getElem? (i := 9) rfl)) (by decide) rfl rfl d5_32 rfl ?_
    intro T12 h12 X12 W12
    have A13 := A.other W12 ne
    have F14 := F_documents.other W12 (Or.inr (slot_ne (Or.inr (hw _ (List.mem_of_getElem? (i := 18) rfl))) (Or.inl (hw _ (List.mem_of_getElem? (i := 25) rfl))) (by decide) (t := (.array .int)) (t' := .int) (by decide) (by decide)))
    have Ex15 := Ex.wr W12
    have K16 := K0.wr W12 (Or.inl (by simp))
    have F12_next := F_next.same W12
    refine own_goto X12 (pc' := 0) d5_35 (by decide) (by decide) ?_
    refine own_aloadN X12 (pc' := 1) d5_0 rfl rfl rfl ?_
    refine own_getF X12 (pc' := 4) (hw _ (List.mem_of_getElem? (i := 24) rfl)) F12_next d5_1 rfl ?_
    intro T17 X17
    refine own_aloadN X17 (pc' := 5) d5_4 rfl rfl rfl ?_
    refine own_getF X17 (pc' := 8) (hw _ (List.mem_of_getElem? (i := 17) rfl)) F14 d5_5 rfl ?_
    intro T18 X18
    refine own_len X18 (v := (3 : Int32)) (pc' := 9) A13 (by first | rfl | decide) d5_8 rfl ?_
    refine own_icmp_ge X18 (pct := 38) (pc' := 12) d5_9 rfl (by decide) (by decide) (fun hc => absurd hc (by decide)) (fun _ => ?_)
    refine own_aloadN X18 (pc' := 13) d5_12 rfl rfl rfl ?_
    refine own_getF X18 (pc' := 16) (hw _ (List.mem_of_getElem? (i := 17) rfl)) F14 d5_13 rfl ?_
    intro T19 X19
    refine own_aloadN X19 (pc' := 17) d5_16 rfl rfl rfl ?_
    refine own_getF X19 (pc' := 20) (hw _ (List.mem_of_getElem? (i := 24) rfl)) F12_next d5_17 rfl ?_
    intro T20 X20
    refine own_iaload X20 (v := c2) (pc' := 21) A13 rfl rfl d5_20 rfl ?_
    refine own_iloadN X20 (pc' := 22) d5_21 rfl rfl ?_
    refine own_icmp_ge X20 (pct := 38) (pc' := 25) d5_22 rfl (by decide) (by decide) (fun hc22_21 => ?_) (fun hc22_21 => ?_)
    · refine own_aloadN X20 (pc' := 39) d5_38 rfl rfl rfl ?_
      refine own_getF X20 (pc' := 42) (hw _ (List.mem_of_getElem? (i := 24) rfl)) F12_next d5_39 rfl ?_
      intro T22 X22
      refine own_aloadN X22 (pc' := 43) d5_42 rfl rfl rfl ?_
      refine own_getF X22 (pc' := 46) (hw _ (List.mem_of_getElem? (i := 17) rfl)) F14 d5_43 rfl ?_
      intro T23 X23
      refine own_len X23 (v := (3 : Int32)) (pc' := 47) A13 (by first | rfl | decide) d5_46 rfl ?_
      refine own_icmp_ge X23 (pct := 67) (pc' := 50) d5_47 rfl (by decide) (by decide) (fun hc => absurd hc (by decide)) (fun _ => ?_)
      refine own_aloadN X23 (pc' := 51) d5_50 rfl rfl rfl ?_
      refine own_getF X23 (pc' := 54) (hw _ (List.mem_of_getElem? (i := 17) rfl)) F14 d5_51 rfl ?_
      intro T24 X24
      refine own_aloadN X24 (pc' := 55) d5_54 rfl rfl rfl ?_
      refine own_getF X24 (pc' := 58) (hw _ (List.mem_of_getElem? (i := 24) rfl)) F12_next d5_55 rfl ?_
      intro T25 X25
      refine own_iaload X25 (v := c2) (pc' := 59) A13 rfl rfl d5_58 rfl ?_
      refine own_iloadN X25 (pc' := 60) d5_59 rfl rfl ?_
      refine own_icmp_ne X25 (pct := 67) (pc' := 63) d5_60 rfl (by decide) (by decide) (fun hc60_26 => ?_) (fun hc60_26 => ?_)
      · refine own_iconst X25 (v := (0 : Int32)) (pc' := 68) d5_67 rfl (by decide) ?_
        subst hΦ
        exact own_retZ X25 d5_68 (by decide) (by decide) (by decide) (by rw [own_hdc, if_pos hc22_5, own_hdc, if_neg hc22_21, if_neg hc60_26]) ⟨by rw [own_nxc, if_pos hc22_5, own_nxc, if_neg hc22_21]; exact ⟨Ex15, F14, F12_next⟩, K16⟩
      · refine own_iconst X25 (v := (1 : Int32)) (pc' := 64) d5_63 rfl (by decide) ?_
        refine own_goto X25 (pc' := 68) d5_64 (by decide) (by decide) ?_
        subst hΦ
        exact own_retZ X25 d5_68 (by decide) (by decide) (by decide) (by rw [own_hdc, if_pos hc22_5, own_hdc, if_neg hc22_21, if_pos hc60_26]) ⟨by rw [own_nxc, if_pos hc22_5, own_nxc, if_neg hc22_21]; exact ⟨Ex15, F14, F12_next⟩, K16⟩
    · refine own_aloadN X20 (pc' := 26) d5_25 rfl rfl rfl ?_
      refine own_dup X20 (pc' := 27) d5_26 rfl rfl ?_
      refine own_getF X20 (pc' := 30) (hw _ (List.mem_of_getElem? (i := 24) rfl)) F12_next d5_27 rfl ?_
      intro T27 X27
      refine own_iconst X27 (v := (1 : Int32)) (pc' := 31) d5_30 rfl (by decide) ?_
      refine own_iadd X27 (r := (3 : Int32)) (pc' := 32) d5_31 rfl (by decide) ?_
      refine own_putF X27 (v' := (.int (3 : Int32))) (ty := .int) (pc' := 35) (hw _ (List.mem_of_getElem? (i := 24) rfl)) F12_next Ex15 ge (Or.inl (hw _ (List.mem_of_getElem? (i := 25) rfl))) (hw _ (List.mem_of_getElem? (i := 9) rfl)) (by decide) rfl rfl d5_32 rfl ?_
      intro T28 h28 X28 W28
      have A29 := A13.other W28 ne
      have F30 := F14.other W28 (Or.inr (slot_ne (Or.inr (hw _ (List.mem_of_getElem? (i := 18) rfl))) (Or.inl (hw _ (List.mem_of_getElem? (i := 25) rfl))) (by decide) (t := (.array .int)) (t' := .int) (by decide) (by decide)))
      have Ex31 := Ex15.wr W28
      have K32 := K16.wr W28 (Or.inl (by simp))
      have F28_next := F12_next.same W28
      refine own_goto X28 (pc' := 0) d5_35 (by decide) (by decide) ?_
      refine own_aloadN X28 (pc' := 1) d5_0 rfl rfl rfl ?_
      refine own_getF X28 (pc' := 4) (hw _ (List.mem_of_getElem? (i := 24) rfl)) F28_next d5_1 rfl ?_
      intro T33 X33
      refine own_aloadN X33 (pc' := 5) d5_4 rfl rfl rfl ?_
      refine own_getF X33 (pc' := 8) (hw _ (List.mem_of_getElem? (i := 17) rfl)) F30 d5_5 rfl ?_
      intro T34 X34
      refine own_len X34 (v := (3 : Int32)) (pc' := 9) A29 (by first | rfl | decide) d5_8 rfl ?_
      refine own_icmp_ge X34 (pct := 38) (pc' := 12) d5_9 rfl (by decide) (by decide) (fun _ => ?_) (fun hc => absurd hc (by decide))
      refine own_aloadN X34 (pc' := 39) d5_38 rfl rfl rfl ?_
      refine own_getF X34 (pc' := 42) (hw _ (List.mem_of_getElem? (i := 24) rfl)) F28_next d5_39 rfl ?_
      intro T35 X35
      refine own_aloadN X35 (pc' := 43) d5_42 rfl rfl rfl ?_
      refine own_getF X35 (pc' := 46) (hw _ (List.mem_of_getElem? (i := 17) rfl)) F30 d5_43 rfl ?_
      intro T36 X36
      refine own_len X36 (v := (3 : Int32)) (pc' := 47) A29 (by first | rfl | decide) d5_46 rfl ?_
      refine own_icmp_ge X36 (pct := 67) (pc' := 50) d5_47 rfl (by decide) (by decide) (fun _ => ?_) (fun hc => absurd hc (by decide))
      refine own_iconst X36 (v := (0 : Int32)) (pc' := 68) d5_67 rfl (by decide) ?_
      subst hΦ
      exact own_retZ X36 d5_68 (by decide) (by decide) (by decide) (by rw [own_hdc, if_pos hc22_5, own_hdc, if_pos hc22_21, own_hdn]) ⟨by rw [own_nxc, if_pos hc22_5, own_nxc, if_pos hc22_21, own_nxn]; exact ⟨Ex31, F30, F28_next⟩, K32⟩
theorem pn_rm5_32 : plainFor (⟨"com/example/quern/quern/index/DeletionsFile$Walk", "holds", "(I)Z"⟩ : MethodName) = true := plainFor_of_name (by first | (simp [plainName, overriddenIn]; done) | decide +kernel)
theorem ef_rm5_32 (m : MethodId) (x0 : Addr) (x1 : Int32) : entryFrame m #[(.ref x0), (.int x1)] 2 = mkF m 0 #[.val (.ref x0), .val (.int x1)] [] := by first | (simp [entryFrame, mkF, argsToLocals, Value.category]; done) | rfl
set_option maxRecDepth 65536 in
set_option maxHeartbeats 4000000 in
theorem rm5_32 (l : Launch) (Z : State) (a0 : Array Value) (hw : ∀ d ∈ tables_1, d.before a0 Z = true) (n0 : Nat) (a : Addr) (q : Int32) (h0 : Heap) (hn0 : n0 ≤ h0.size) (d : Addr) (c0 c1 c2 : Int32) (D : own_W Z h0 a d 2) (A : own_A Z h0 d .int [c0, c1, c2]) (ge : n0 ≤ a) (ne : d ≠ a) :
    own_Met l (⟨"com/example/quern/quern/index/DeletionsFile$Walk", "holds", "(I)Z"⟩ : MethodName) prog_64_method_2_code 2 (some .boolean) ({ frames := 0, cells := 0, slots := 0, locals := 0 } : Room) Z n0 #[(.ref a), (.int q)] h0 (some (.int (own_hd [c2] q))) (fun h' => own_W Z h' a d (own_nx [c2] 2 q) ∧ Keep h0 h' [a]) := by
  refine own_met pn_rm5_32 hn0 ?_
  intro p e s m below meth c T X
  refine own_cast (ef_rm5_32 m a q) ?_
  generalize hΦ : own_Q n0 below s _ _ _ = Φ
  obtain ⟨Ex, F_documents, F_next⟩ := D
  have K0 := Keep.refl h0 [a]
  refine own_aloadN X (pc' := 1) d5_0 rfl rfl rfl ?_
  refine own_getF X (pc' := 4) (hw _ (List.mem_of_getElem? (i := 24) rfl)) F_next d5_1 rfl ?_
  intro T1 X1
  refine own_aloadN X1 (pc' := 5) d5_4 rfl rfl rfl ?_
  refine own_getF X1 (pc' := 8) (hw _ (List.mem_of_getElem? (i := 17) rfl)) F_documents d5_5 rfl ?_
  intro T2 X2
  refine own_len X2 (v := (3 : Int32)) (pc' := 9) A (by first | rfl | decide) d5_8 rfl ?_
  refine own_icmp_ge X2 (pct := 38) (pc' := 12) d5_9 rfl (by decide) (by decide) (fun hc => absurd hc (by decide)) (fun _ => ?_)
  refine own_aloadN X2 (pc' := 13) d5_12 rfl rfl rfl ?_
  refine own_getF X2 (pc' := 16) (hw _ (List.mem_of_getElem? (i := 17) rfl)) F_documents d5_13 rfl ?_
  intro T3 X3
  refine own_aloadN X3 (pc' := 17) d5_16 rfl rfl rfl ?_
  refine own_getF X3 (pc' := 20) (hw _ (List.mem_of_getElem? (i := 24) rfl)) F_next d5_17 rfl ?_
  intro T4 X4
  refine own_iaload X4 (v := c2) (pc' := 21) A rfl rfl d5_20 rfl ?_
  refine own_iloadN X4 (pc' := 22) d5_21 rfl rfl ?_
  refine own_icmp_ge X4 (pct := 38) (pc' := 25) d5_22 rfl (by decide) (by decide) (fun hc22_5 => ?_) (fun hc22_5 => ?_)
  · refine own_aloadN X4 (pc' := 39) d5_38 rfl rfl rfl ?_
    refine own_getF X4 (pc' := 42) (hw _ (List.mem_of_getElem? (i := 24) rfl)) F_next d5_39 rfl ?_
    intro T6 X6
    refine own_aloadN X6 (pc' := 43) d5_42 rfl rfl rfl ?_
    refine own_getF X6 (pc' := 46) (hw _ (List.mem_of_getElem? (i := 17) rfl)) F_documents d5_43 rfl ?_
    intro T7 X7
    refine own_len X7 (v := (3 : Int32)) (pc' := 47) A (by first | rfl | decide) d5_46 rfl ?_
    refine own_icmp_ge X7 (pct := 67) (pc' := 50) d5_47 rfl (by decide) (by decide) (fun hc => absurd hc (by decide)) (fun _ => ?_)
    refine own_aloadN X7 (pc' := 51) d5_50 rfl rfl rfl ?_
    refine own_getF X7 (pc' := 54) (hw _ (List.mem_of_getElem? (i := 17) rfl)) F_documents d5_51 rfl ?_
    intro T8 X8
    refine own_aloadN X8 (pc' := 55) d5_54 rfl rfl rfl ?_
    refine own_getF X8 (pc' := 58) (hw _ (List.mem_of_getElem? (i := 24) rfl)) F_next d5_55 rfl ?_
    intro T9 X9
    refine own_iaload X9 (v := c2) (pc' := 59) A rfl rfl d5_58 rfl ?_
    refine own_iloadN X9 (pc' := 60) d5_59 rfl rfl ?_
    refine own_icmp_ne X9 (pct := 67) (pc' := 63) d5_60 rfl (by decide) (by decide) (fun hc60_10 => ?_) (fun hc60_10 => ?_)
    · refine own_iconst X9 (v := (0 : Int32)) (pc' := 68) d5_67 rfl (by decide) ?_
      subst hΦ
      exact own_retZ X9 d5_68 (by decide) (by decide) (by decide) (by rw [own_hdc, if_neg hc22_5, if_neg hc60_10]) ⟨by rw [own_nxc, if_neg hc22_5]; exact ⟨Ex, F_documents, F_next⟩, K0⟩
    · refine own_iconst X9 (v := (1 : Int32)) (pc' := 64) d5_63 rfl (by decide) ?_
      refine own_goto X9 (pc' := 68) d5_64 (by decide) (by decide) ?_
      subst hΦ
      exact own_retZ X9 d5_68 (by decide) (by decide) (by decide) (by rw [own_hdc, if_neg hc22_5, if_pos hc60_10]) ⟨by rw [own_nxc, if_neg hc22_5]; exact ⟨Ex, F_documents, F_next⟩, K0⟩
  · refine own_aloadN X4 (pc' := 26) d5_25 rfl rfl rfl ?_
    refine own_dup X4 (pc' := 27) d5_26 rfl rfl ?_
    refine own_getF X4 (pc' := 30) (hw _ (List.mem_of_getElem? (i := 24) rfl)) F_next d5_27 rfl ?_
    intro T11 X11
    refine own_iconst X11 (v := (1 : Int32)) (pc' := 31) d5_30 rfl (by decide) ?_
    refine own_iadd X11 (r := (3 : Int32)) (pc' := 32) d5_31 rfl (by decide) ?_
    refine own_putF X11 (v' := (.int (3 : Int32))) (ty := .int) (pc' := 35) (hw _ (List.mem_of_getElem? (i := 24) rfl)) F_next Ex ge (Or.inl (hw _ (List.mem_of_getElem? (i := 25) rfl))) (hw _ (List.mem_of_getElem? (i := 9) rfl)) (by decide) rfl rfl d5_32 rfl ?_
    intro T12 h12 X12 W12
    have A13 := A.other W12 ne
    have F14 := F_documents.other W12 (Or.inr (slot_ne (Or.inr (hw _ (List.mem_of_getElem? (i := 18) rfl))) (Or.inl (hw _ (List.mem_of_getElem? (i := 25) rfl))) (by decide) (t := (.array .int)) (t' := .int) (by decide) (by decide)))
    have Ex15 := Ex.wr W12
    have K16 := K0.wr W12 (Or.inl (by simp))
    have F12_next := F_next.same W12
    refine own_goto X12 (pc' := 0) d5_35 (by decide) (by decide) ?_
    refine own_aloadN X12 (pc' := 1) d5_0 rfl rfl rfl ?_
    refine own_getF X12 (pc' := 4) (hw _ (List.mem_of_getElem? (i := 24) rfl)) F12_next d5_1 rfl ?_
    intro T17 X17
    refine own_aloadN X17 (pc' := 5) d5_4 rfl rfl rfl ?_
    refine own_getF X17 (pc' := 8) (hw _ (List.mem_of_getElem? (i := 17) rfl)) F14 d5_5 rfl ?_
    intro T18 X18
    refine own_len X18 (v := (3 : Int32)) (pc' := 9) A13 (by first | rfl | decide) d5_8 rfl ?_
    refine own_icmp_ge X18 (pct := 38) (pc' := 12) d5_9 rfl (by decide) (by decide) (fun _ => ?_) (fun hc => absurd hc (by decide))
    refine own_aloadN X18 (pc' := 39) d5_38 rfl rfl rfl ?_
    refine own_getF X18 (pc' := 42) (hw _ (List.mem_of_getElem? (i := 24) rfl)) F12_next d5_39 rfl ?_
    intro T19 X19
    refine own_aloadN X19 (pc' := 43) d5_42 rfl rfl rfl ?_
    refine own_getF X19 (pc' := 46) (hw _ (List.mem_of_getElem? (i := 17) rfl)) F14 d5_43 rfl ?_
    intro T20 X20
    refine own_len X20 (v := (3 : Int32)) (pc' := 47) A13 (by first | rfl | decide) d5_46 rfl ?_
    refine own_icmp_ge X20 (pct := 67) (pc' := 50) d5_47 rfl (by decide) (by decide) (fun _ => ?_) (fun hc => absurd hc (by decide))
    refine own_iconst X20 (v := (0 : Int32)) (pc' := 68) d5_67 rfl (by decide) ?_
    subst hΦ
    exact own_retZ X20 d5_68 (by decide) (by decide) (by decide) (by rw [own_hdc, if_pos hc22_5, own_hdn]) ⟨by rw [own_nxc, if_pos hc22_5, own_nxn]; exact ⟨Ex15, F14, F12_next⟩, K16⟩
theorem pn_rm5_33 : plainFor (⟨"com/example/quern/quern/index/DeletionsFile$Walk", "holds", "(I)Z"⟩ : MethodName) = true := plainFor_of_name (by first | (simp [plainName, overriddenIn]; done) | decide +kernel)
theorem ef_rm5_33 (m : MethodId) (x0 : Addr) (x1 : Int32) : entryFrame m #[(.ref x0), (.int x1)] 2 = mkF m 0 #[.val (.ref x0), .val (.int x1)] [] := by first | (simp [entryFrame, mkF, argsToLocals, Value.category]; done) | rfl
set_option maxRecDepth 65536 in
set_option maxHeartbeats 4000000 in
theorem rm5_33 (l : Launch) (Z : State) (a0 : Array Value) (hw : ∀ d ∈ tables_1, d.before a0 Z = true) (n0 : Nat) (a : Addr) (q : Int32) (h0 : Heap) (hn0 : n0 ≤ h0.size) (d : Addr) (c0 c1 c2 : Int32) (D : own_W Z h0 a d 3) (A : own_A Z h0 d .int [c0, c1, c2]) (ge : n0 ≤ a) (ne : d ≠ a) :
    own_Met l (⟨"com/example/quern/quern/index/DeletionsFile$Walk", "holds", "(I)Z"⟩ : MethodName) prog_64_method_2_code 2 (some .boolean) ({ frames := 0, cells := 0, slots := 0, locals := 0 } : Room) Z n0 #[(.ref a), (.int q)] h0 (some (.int (own_hd [] q))) (fun h' => own_W Z h' a d (own_nx [] 3 q) ∧ Keep h0 h' [a]) := by
  refine own_met pn_rm5_33 hn0 ?_
  intro p e s m below meth c T X
  refine own_cast (ef_rm5_33 m a q) ?_
  generalize hΦ : own_Q n0 below s _ _ _ = Φ
  obtain ⟨Ex, F_documents, F_next⟩ := D
  have K0 := Keep.refl h0 [a]
  refine own_aloadN X (pc' := 1) d5_0 rfl rfl rfl ?_
  refine own_getF X (pc' := 4) (hw _ (List.mem_of_getElem? (i := 24) rfl)) F_next d5_1 rfl ?_
  intro T1 X1
  refine own_aloadN X1 (pc' := 5) d5_4 rfl rfl rfl ?_
  refine own_getF X1 (pc' := 8) (hw _ (List.mem_of_getElem? (i := 17) rfl)) F_documents d5_5 rfl ?_
  intro T2 X2
  refine own_len X2 (v := (3 : Int32)) (pc' := 9) A (by first | rfl | decide) d5_8 rfl ?_
  refine own_icmp_ge X2 (pct := 38) (pc' := 12) d5_9 rfl (by decide) (by decide) (fun _ => ?_) (fun hc => absurd hc (by decide))
  refine own_aloadN X2 (pc' := 39) d5_38 rfl rfl rfl ?_
  refine own_getF X2 (pc' := 42) (hw _ (List.mem_of_getElem? (i := 24) rfl)) F_next d5_39 rfl ?_
  intro T3 X3
  refine own_aloadN X3 (pc' := 43) d5_42 rfl rfl rfl ?_
  refine own_getF X3 (pc' := 46) (hw _ (List.mem_of_getElem? (i := 17) rfl)) F_documents d5_43 rfl ?_
  intro T4 X4
  refine own_len X4 (v := (3 : Int32)) (pc' := 47) A (by first | rfl | decide) d5_46 rfl ?_
  refine own_icmp_ge X4 (pct := 67) (pc' := 50) d5_47 rfl (by decide) (by decide) (fun _ => ?_) (fun hc => absurd hc (by decide))
  refine own_iconst X4 (v := (0 : Int32)) (pc' := 68) d5_67 rfl (by decide) ?_
  subst hΦ
  exact own_retZ X4 d5_68 (by decide) (by decide) (by decide) (by rw [own_hdn]) ⟨by rw [own_nxn]; exact ⟨Ex, F_documents, F_next⟩, K0⟩
theorem d6_0 : decode method_5_code 0 = .ok (.iload_n 1, 1) := by decide +kernel
theorem d6_1 : decode method_5_code 1 = .ok (.ifCond .le 10, 3) := by decide +kernel
theorem d6_11 : decode method_5_code 11 = .ok (.iload_n 1, 1) := by decide +kernel
theorem d6_12 : decode method_5_code 12 = .ok (.iconst 1, 1) := by decide +kernel
theorem d6_13 : decode method_5_code 13 = .ok (.if_icmp .le 10, 3) := by decide +kernel
theorem d6_23 : decode method_5_code 23 = .ok (.iload_n 1, 1) := by decide +kernel
theorem d6_24 : decode method_5_code 24 = .ok (.iconst 2, 1) := by decide +kernel
theorem d6_25 : decode method_5_code 25 = .ok (.if_icmp .le 14, 3) := by decide +kernel
theorem d6_39 : decode method_5_code 39 = .ok (.iconst 0, 1) := by decide +kernel
theorem d6_40 : decode method_5_code 40 = .ok (.ireturn, 1) := by decide +kernel
theorem pn_rm6_0 : plainFor (⟨"com/example/quern/quern/index/WalkHoldsPinLaw", "member", "([III)Z"⟩ : MethodName) = true := plainFor_of_name (by first | (simp [plainName, overriddenIn]; done) | decide +kernel)
theorem ef_rm6_0 (m : MethodId) (x0 : Addr) (x1 : Int32) (x2 : Int32) : entryFrame m #[(.ref x0), (.int x1), (.int x2)] 3 = mkF m 0 #[.val (.ref x0), .val (.int x1), .val (.int x2)] [] := by first | (simp [entryFrame, mkF, argsToLocals, Value.category]; done) | rfl
set_option maxRecDepth 65536 in
set_option maxHeartbeats 4000000 in
theorem rm6_0 (l : Launch) (Z : State) (a0 : Array Value) (hw : ∀ d ∈ tables_1, d.before a0 Z = true) (n0 : Nat) (a : Addr) (q : Int32) (h0 : Heap) (hn0 : n0 ≤ h0.size) (s0 s1 s2 : Int32) (A : own_A Z h0 a .int [s0, s1, s2]) :
    own_Met l (⟨"com/example/quern/quern/index/WalkHoldsPinLaw", "member", "([III)Z"⟩ : MethodName) method_5_code 3 (some .boolean) ({ frames := 0, cells := 0, slots := 0, locals := 0 } : Room) Z n0 #[(.ref a), (.int (0 : Int32)), (.int q)] h0 (some (.int (own_mb [] q))) (fun h' => h' = h0) := by
  refine own_met pn_rm6_0 hn0 ?_
  intro p e s m below meth c T X
  refine own_cast (ef_rm6_0 m a (0 : Int32) q) ?_
  generalize hΦ : own_Q n0 below s _ _ _ = Φ
  refine own_iloadN X (pc' := 1) d6_0 rfl rfl ?_
  refine own_if_le X (pct := 11) (pc' := 4) d6_1 rfl (by decide) (by decide) (fun _ => ?_) (fun hc => absurd hc (by decide))
  refine own_iloadN X (pc' := 12) d6_11 rfl rfl ?_
  refine own_iconst X (v := (1 : Int32)) (pc' := 13) d6_12 rfl (by decide) ?_
  refine own_icmp_le X (pct := 23) (pc' := 16) d6_13 rfl (by decide) (by decide) (fun _ => ?_) (fun hc => absurd hc (by decide))
  refine own_iloadN X (pc' := 24) d6_23 rfl rfl ?_
  refine own_iconst X (v := (2 : Int32)) (pc' := 25) d6_24 rfl (by decide) ?_
  refine own_icmp_le X (pct := 39) (pc' := 28) d6_25 rfl (by decide) (by decide) (fun _ => ?_) (fun hc => absurd hc (by decide))
  refine own_iconst X (v := (0 : Int32)) (pc' := 40) d6_39 rfl (by decide) ?_
  subst hΦ
  exact own_retZ X d6_40 (by decide) (by decide) (by decide) (by rw [own_mbn]) rfl
theorem d6_4 : decode method_5_code 4 = .ok (.iload_n 2, 1) := by decide +kernel
theorem d6_5 : decode method_5_code 5 = .ok (.aload_n 0, 1) := by decide +kernel
theorem d6_6 : decode method_5_code 6 = .ok (.iconst 0, 1) := by decide +kernel
theorem d6_7 : decode method_5_code 7 = .ok (.iaload, 1) := by decide +kernel
theorem d6_8 : decode method_5_code 8 = .ok (.if_icmp .eq 27, 3) := by decide +kernel
theorem d6_35 : decode method_5_code 35 = .ok (.iconst 1, 1) := by decide +kernel
theorem d6_36 : decode method_5_code 36 = .ok (.goto 4, 3) := by decide +kernel
theorem pn_rm6_1 : plainFor (⟨"com/example/quern/quern/index/WalkHoldsPinLaw", "member", "([III)Z"⟩ : MethodName) = true := plainFor_of_name (by first | (simp [plainName, overriddenIn]; done) | decide +kernel)
theorem ef_rm6_1 (m : MethodId) (x0 : Addr) (x1 : Int32) (x2 : Int32) : entryFrame m #[(.ref x0), (.int x1), (.int x2)] 3 = mkF m 0 #[.val (.ref x0), .val (.int x1), .val (.int x2)] [] := by first | (simp [entryFrame, mkF, argsToLocals, Value.category]; done) | rfl
set_option maxRecDepth 65536 in
set_option maxHeartbeats 4000000 in
theorem rm6_1 (l : Launch) (Z : State) (a0 : Array Value) (hw : ∀ d ∈ tables_1, d.before a0 Z = true) (n0 : Nat) (a : Addr) (q : Int32) (h0 : Heap) (hn0 : n0 ≤ h0.size) (s0 s1 s2 : Int32) (A : own_A Z h0 a .int [s0, s1, s2]) :
    own_Met l (⟨"com/example/quern/quern/index/WalkHoldsPinLaw", "member", "([III)Z"⟩ : MethodName) method_5_code 3 (some .boolean) ({ frames := 0, cells := 0, slots := 0, locals := 0 } : Room) Z n0 #[(.ref a), (.int (1 : Int32)), (.int q)] h0 (some (.int (own_mb [s0] q))) (fun h' => h' = h0) := by
  refine own_met pn_rm6_1 hn0 ?_
  intro p e s m below meth c T X
  refine own_cast (ef_rm6_1 m a (1 : Int32) q) ?_
  generalize hΦ : own_Q n0 below s _ _ _ = Φ
  refine own_iloadN X (pc' := 1) d6_0 rfl rfl ?_
  refine own_if_le X (pct := 11) (pc' := 4) d6_1 rfl (by decide) (by decide) (fun hc => absurd hc (by decide)) (fun _ => ?_)
  refine own_iloadN X (pc' := 5) d6_4 rfl rfl ?_
  refine own_aloadN X (pc' := 6) d6_5 rfl rfl rfl ?_
  refine own_iconst X (v := (0 : Int32)) (pc' := 7) d6_6 rfl (by decide) ?_
  refine own_iaload X (v := s0) (pc' := 8) A rfl rfl d6_7 rfl ?_
  refine own_icmp_eq X (pct := 35) (pc' := 11) d6_8 rfl (by decide) (by decide) (fun hc8_1 => ?_) (fun hc8_1 => ?_)
  · refine own_iconst X (v := (1 : Int32)) (pc' := 36) d6_35 rfl (by decide) ?_
    refine own_goto X (pc' := 40) d6_36 (by decide) (by decide) ?_
    subst hΦ
    exact own_retZ X d6_40 (by decide) (by decide) (by decide) (by rw [own_mbc, if_pos hc8_1]) rfl
  · refine own_iloadN X (pc' := 12) d6_11 rfl rfl ?_
    refine own_iconst X (v := (1 : Int32)) (pc' := 13) d6_12 rfl (by decide) ?_
    refine own_icmp_le X (pct := 23) (pc' := 16) d6_13 rfl (by decide) (by decide) (fun _ => ?_) (fun hc => absurd hc (by decide))
    refine own_iloadN X (pc' := 24) d6_23 rfl rfl ?_
    refine own_iconst X (v := (2 : Int32)) (pc' := 25) d6_24 rfl (by decide) ?_
    refine own_icmp_le X (pct := 39) (pc' := 28) d6_25 rfl (by decide) (by decide) (fun _ => ?_) (fun hc => absurd hc (by decide))
    refine own_iconst X (v := (0 : Int32)) (pc' := 40) d6_39 rfl (by decide) ?_
    subst hΦ
    exact own_retZ X d6_40 (by decide) (by decide) (by decide) (by rw [own_mbc, if_neg hc8_1, own_mbn]) rfl
theorem d6_16 : decode method_5_code 16 = .ok (.iload_n 2, 1) := by decide +kernel
theorem d6_17 : decode method_5_code 17 = .ok (.aload_n 0, 1) := by decide +kernel
theorem d6_18 : decode method_5_code 18 = .ok (.iconst 1, 1) := by decide +kernel
theorem d6_19 : decode method_5_code 19 = .ok (.iaload, 1) := by decide +kernel
theorem d6_20 : decode method_5_code 20 = .ok (.if_icmp .eq 15, 3) := by decide +kernel
theorem pn_rm6_2 : plainFor (⟨"com/example/quern/quern/index/WalkHoldsPinLaw", "member", "([III)Z"⟩ : MethodName) = true := plainFor_of_name (by first | (simp [plainName, overriddenIn]; done) | decide +kernel)
theorem ef_rm6_2 (m : MethodId) (x0 : Addr) (x1 : Int32) (x2 : Int32) : entryFrame m #[(.ref x0), (.int x1), (.int x2)] 3 = mkF m 0 #[.val (.ref x0), .val (.int x1), .val (.int x2)] [] := by first | (simp [entryFrame, mkF, argsToLocals, Value.category]; done) | rfl
set_option maxRecDepth 65536 in
set_option maxHeartbeats 4000000 in
theorem rm6_2 (l : Launch) (Z : State) (a0 : Array Value) (hw : ∀ d ∈ tables_1, d.before a0 Z = true) (n0 : Nat) (a : Addr) (q : Int32) (h0 : Heap) (hn0 : n0 ≤ h0.size) (s0 s1 s2 : Int32) (A : own_A Z h0 a .int [s0, s1, s2]) :
    own_Met l (⟨"com/example/quern/quern/index/WalkHoldsPinLaw", "member", "([III)Z"⟩ : MethodName) method_5_code 3 (some .boolean) ({ frames := 0, cells := 0, slots := 0, locals := 0 } : Room) Z n0 #[(.ref a), (.int (2 : Int32)), (.int q)] h0 (some (.int (own_mb [s0, s1] q))) (fun h' => h' = h0) := by
  refine own_met pn_rm6_2 hn0 ?_
  intro p e s m below meth c T X
  refine own_cast (ef_rm6_2 m a (2 : Int32) q) ?_
  generalize hΦ : own_Q n0 below s _ _ _ = Φ
  refine own_iloadN X (pc' := 1) d6_0 rfl rfl ?_
  refine own_if_le X (pct := 11) (pc' := 4) d6_1 rfl (by decide) (by decide) (fun hc => absurd hc (by decide)) (fun _ => ?_)
  refine own_iloadN X (pc' := 5) d6_4 rfl rfl ?_
  refine own_aloadN X (pc' := 6) d6_5 rfl rfl rfl ?_
  refine own_iconst X (v := (0 : Int32)) (pc' := 7) d6_6 rfl (by decide) ?_
  refine own_iaload X (v := s0) (pc' := 8) A rfl rfl d6_7 rfl ?_
  refine own_icmp_eq X (pct := 35) (pc' := 11) d6_8 rfl (by decide) (by decide) (fun hc8_1 => ?_) (fun hc8_1 => ?_)
  · refine own_iconst X (v := (1 : Int32)) (pc' := 36) d6_35 rfl (by decide) ?_
    refine own_goto X (pc' := 40) d6_36 (by decide) (by decide) ?_
    subst hΦ
    exact own_retZ X d6_40 (by decide) (by decide) (by decide) (by rw [own_mbc, if_pos hc8_1]) rfl
  · refine own_iloadN X (pc' := 12) d6_11 rfl rfl ?_
    refine own_iconst X (v := (1 : Int32)) (pc' := 13) d6_12 rfl (by decide) ?_
    refine own_icmp_le X (pct := 23) (pc' := 16) d6_13 rfl (by decide) (by decide) (fun hc => absurd hc (by decide)) (fun _ => ?_)
    refine own_iloadN X (pc' := 17) d6_16 rfl rfl ?_
    refine own_aloadN X (pc' := 18) d6_17 rfl rfl rfl ?_
    refine own_iconst X (v := (1 : Int32)) (pc' := 19) d6_18 rfl (by decide) ?_
    refine own_iaload X (v := s1) (pc' := 20) A rfl rfl d6_19 rfl ?_
    refine own_icmp_eq X (pct := 35) (pc' := 23) d6_20 rfl (by decide) (by decide) (fun hc20_2 => ?_) (fun hc20_2 => ?_)
    · refine own_iconst X (v := (1 : Int32)) (pc' := 36) d6_35 rfl (by decide) ?_
      refine own_goto X (pc' := 40) d6_36 (by decide) (by decide) ?_
      subst hΦ
      exact own_retZ X d6_40 (by decide) (by decide) (by decide) (by rw [own_mbc, if_neg hc8_1, own_mbc, if_pos hc20_2]) rfl
    · refine own_iloadN X (pc' := 24) d6_23 rfl rfl ?_
      refine own_iconst X (v := (2 : Int32)) (pc' := 25) d6_24 rfl (by decide) ?_
      refine own_icmp_le X (pct := 39) (pc' := 28) d6_25 rfl (by decide) (by decide) (fun _ => ?_) (fun hc => absurd hc (by decide))
      refine own_iconst X (v := (0 : Int32)) (pc' := 40) d6_39 rfl (by decide) ?_
      subst hΦ
      exact own_retZ X d6_40 (by decide) (by decide) (by decide) (by rw [own_mbc, if_neg hc8_1, own_mbc, if_neg hc20_2, own_mbn]) rfl
theorem d6_28 : decode method_5_code 28 = .ok (.iload_n 2, 1) := by decide +kernel
theorem d6_29 : decode method_5_code 29 = .ok (.aload_n 0, 1) := by decide +kernel
theorem d6_30 : decode method_5_code 30 = .ok (.iconst 2, 1) := by decide +kernel
theorem d6_31 : decode method_5_code 31 = .ok (.iaload, 1) := by decide +kernel
theorem d6_32 : decode method_5_code 32 = .ok (.if_icmp .ne 7, 3) := by decide +kernel
theorem pn_rm6_3 : plainFor (⟨"com/example/quern/quern/index/WalkHoldsPinLaw", "member", "([III)Z"⟩ : MethodName) = true := plainFor_of_name (by first | (simp [plainName, overriddenIn]; done) | decide +kernel)
theorem ef_rm6_3 (m : MethodId) (x0 : Addr) (x1 : Int32) (x2 : Int32) : entryFrame m #[(.ref x0), (.int x1), (.int x2)] 3 = mkF m 0 #[.val (.ref x0), .val (.int x1), .val (.int x2)] [] := by first | (simp [entryFrame, mkF, argsToLocals, Value.category]; done) | rfl
set_option maxRecDepth 65536 in
set_option maxHeartbeats 4000000 in
theorem rm6_3 (l : Launch) (Z : State) (a0 : Array Value) (hw : ∀ d ∈ tables_1, d.before a0 Z = true) (n0 : Nat) (a : Addr) (q : Int32) (h0 : Heap) (hn0 : n0 ≤ h0.size) (s0 s1 s2 : Int32) (A : own_A Z h0 a .int [s0, s1, s2]) :
    own_Met l (⟨"com/example/quern/quern/index/WalkHoldsPinLaw", "member", "([III)Z"⟩ : MethodName) method_5_code 3 (some .boolean) ({ frames := 0, cells := 0, slots := 0, locals := 0 } : Room) Z n0 #[(.ref a), (.int (3 : Int32)), (.int q)] h0 (some (.int (own_mb [s0, s1, s2] q))) (fun h' => h' = h0) := by
  refine own_met pn_rm6_3 hn0 ?_
  intro p e s m below meth c T X
  refine own_cast (ef_rm6_3 m a (3 : Int32) q) ?_
  generalize hΦ : own_Q n0 below s _ _ _ = Φ
  refine own_iloadN X (pc' := 1) d6_0 rfl rfl ?_
  refine own_if_le X (pct := 11) (pc' := 4) d6_1 rfl (by decide) (by decide) (fun hc => absurd hc (by decide)) (fun _ => ?_)
  refine own_iloadN X (pc' := 5) d6_4 rfl rfl ?_
  refine own_aloadN X (pc' := 6) d6_5 rfl rfl rfl ?_
  refine own_iconst X (v := (0 : Int32)) (pc' := 7) d6_6 rfl (by decide) ?_
  refine own_iaload X (v := s0) (pc' := 8) A rfl rfl d6_7 rfl ?_
  refine own_icmp_eq X (pct := 35) (pc' := 11) d6_8 rfl (by decide) (by decide) (fun hc8_1 => ?_) (fun hc8_1 => ?_)
  · refine own_iconst X (v := (1 : Int32)) (pc' := 36) d6_35 rfl (by decide) ?_
    refine own_goto X (pc' := 40) d6_36 (by decide) (by decide) ?_
    subst hΦ
    exact own_retZ X d6_40 (by decide) (by decide) (by decide) (by rw [own_mbc, if_pos hc8_1]) rfl
  · refine own_iloadN X (pc' := 12) d6_11 rfl rfl ?_
    refine own_iconst X (v := (1 : Int32)) (pc' := 13) d6_12 rfl (by decide) ?_
    refine own_icmp_le X (pct := 23) (pc' := 16) d6_13 rfl (by decide) (by decide) (fun hc => absurd hc (by decide)) (fun _ => ?_)
    refine own_iloadN X (pc' := 17) d6_16 rfl rfl ?_
    refine own_aloadN X (pc' := 18) d6_17 rfl rfl rfl ?_
    refine own_iconst X (v := (1 : Int32)) (pc' := 19) d6_18 rfl (by decide) ?_
    refine own_iaload X (v := s1) (pc' := 20) A rfl rfl d6_19 rfl ?_
    refine own_icmp_eq X (pct := 35) (pc' := 23) d6_20 rfl (by decide) (by decide) (fun hc20_2 => ?_) (fun hc20_2 => ?_)
    · refine own_iconst X (v := (1 : Int32)) (pc' := 36) d6_35 rfl (by decide) ?_
      refine own_goto X (pc' := 40) d6_36 (by decide) (by decide) ?_
      subst hΦ
      exact own_retZ X d6_40 (by decide) (by decide) (by decide) (by rw [own_mbc, if_neg hc8_1, own_mbc, if_pos hc20_2]) rfl
    · refine own_iloadN X (pc' := 24) d6_23 rfl rfl ?_
      refine own_iconst X (v := (2 : Int32)) (pc' := 25) d6_24 rfl (by decide) ?_
      refine own_icmp_le X (pct := 39) (pc' := 28) d6_25 rfl (by decide) (by decide) (fun hc => absurd hc (by decide)) (fun _ => ?_)
      refine own_iloadN X (pc' := 29) d6_28 rfl rfl ?_
      refine own_aloadN X (pc' := 30) d6_29 rfl rfl rfl ?_
      refine own_iconst X (v := (2 : Int32)) (pc' := 31) d6_30 rfl (by decide) ?_
      refine own_iaload X (v := s2) (pc' := 32) A rfl rfl d6_31 rfl ?_
      refine own_icmp_ne X (pct := 39) (pc' := 35) d6_32 rfl (by decide) (by decide) (fun hc32_3 => ?_) (fun hc32_3 => ?_)
      · refine own_iconst X (v := (0 : Int32)) (pc' := 40) d6_39 rfl (by decide) ?_
        subst hΦ
        exact own_retZ X d6_40 (by decide) (by decide) (by decide) (by rw [own_mbc, if_neg hc8_1, own_mbc, if_neg hc20_2, own_mbc, if_neg hc32_3, own_mbn]) rfl
      · refine own_iconst X (v := (1 : Int32)) (pc' := 36) d6_35 rfl (by decide) ?_
        refine own_goto X (pc' := 40) d6_36 (by decide) (by decide) ?_
        subst hΦ
        exact own_retZ X d6_40 (by decide) (by decide) (by decide) (by rw [own_mbc, if_neg hc8_1, own_mbc, if_neg hc20_2, own_mbc, if_pos hc32_3]) rfl
theorem pd_0 : parseMethodDescriptor "([III)V" = some ⟨[(.array .int), .int, .int], none⟩ := by decide +kernel
theorem pd_1 : parseMethodDescriptor "([III)I" = some ⟨[(.array .int), .int, .int], some .int⟩ := by decide +kernel
theorem pd_2 : parseMethodDescriptor "([I)V" = some ⟨[(.array .int)], none⟩ := by decide +kernel
theorem pd_3 : parseMethodDescriptor "(I)Z" = some ⟨[.int], some .boolean⟩ := by decide +kernel
theorem pd_4 : parseMethodDescriptor "([III)Z" = some ⟨[(.array .int), .int, .int], some .boolean⟩ := by decide +kernel
theorem pn_rm0 : plainFor (⟨"com/example/quern/quern/index/WalkHoldsPinLaw", "law", "(IIIIII)Z"⟩ : MethodName) = true := plainFor_of_name (by first | (simp [plainName, overriddenIn]; done) | decide +kernel)
theorem ef_rm0 (m : MethodId) (x0 : Int32) (x1 : Int32) (x2 : Int32) (x3 : Int32) (x4 : Int32) (x5 : Int32) : entryFrame m #[(.int x0), (.int x1), (.int x2), (.int x3), (.int x4), (.int x5)] maxLocals = mkF m 0 #[.val (.int x0), .val (.int x1), .val (.int x2), .val (.int x3), .val (.int x4), .val (.int x5), .unset, .unset, .unset, .unset, .unset, .unset, .unset, .unset, .unset] [] := by first | (simp [entryFrame, mkF, argsToLocals, Value.category, maxLocals]; done) | rfl
set_option maxRecDepth 65536 in
set_option maxHeartbeats 40000000 in
theorem rm0 (l : Launch) (Z : State) (a0 : Array Value) (hw : ∀ d ∈ tables_1, d.before a0 Z = true) (n0 : Nat) (x0 : Int32) (x1 : Int32) (x2 : Int32) (sel : Int32) (pp : Int32) (rr : Int32) (h0 : Heap) (hn0 : n0 ≤ h0.size) :
    own_Met l x code maxLocals ret room_1 Z n0 #[(.int x0), (.int x1), (.int x2), (.int sel), (.int pp), (.int rr)] h0 (some (.int 1)) (fun _ => True) := by
  refine own_met pn_rm0 hn0 ?_
  intro p e s m below meth c T X
  refine own_cast (ef_rm0 m x0 x1 x2 sel pp rr) ?_
  change own_S Z n0 code x 15 ret p l e room_1 s m _ below meth c T 0 0 h0 at X
  generalize hΦ : own_Q n0 below s _ _ _ = Φ
  refine own_iloadN X (pc' := 1) at_0 rfl rfl ?_
  refine own_iloadN X (pc' := 2) at_1 rfl rfl ?_
  refine own_icmp_eq X (pct := 15) (pc' := 5) at_2 rfl (by decide) (by decide) (fun hc2_1 => ?_) (fun hc2_1 => ?_)
  · refine own_iconst X (v := (1 : Int32)) (pc' := 16) at_15 rfl (by decide) ?_
    subst hΦ
    exact own_retZ X at_16 (by decide) (by decide) (by decide) rfl trivial
  · refine own_iloadN X (pc' := 6) at_5 rfl rfl ?_
    refine own_iloadN X (pc' := 7) at_6 rfl rfl ?_
    refine own_icmp_eq X (pct := 15) (pc' := 10) at_7 rfl (by decide) (by decide) (fun hc7_2 => ?_) (fun hc7_2 => ?_)
    · refine own_iconst X (v := (1 : Int32)) (pc' := 16) at_15 rfl (by decide) ?_
      subst hΦ
      exact own_retZ X at_16 (by decide) (by decide) (by decide) rfl trivial
    · refine own_iloadN X (pc' := 11) at_10 rfl rfl ?_
      refine own_iloadN X (pc' := 12) at_11 rfl rfl ?_
      refine own_icmp_ne X (pct := 17) (pc' := 15) at_12 rfl (by decide) (by decide) (fun hc12_3 => ?_) (fun hc12_3 => ?_)
      · refine own_iconst X (v := (3 : Int32)) (pc' := 18) at_17 rfl (by decide) ?_
        refine own_newarr X (len := 3) (vs := [0, 0, 0]) (pc' := 20) (hw _ (List.mem_of_getElem? (i := 0) rfl)) rfl (by decide) (by decide) rfl (by decide) at_18 rfl (by decide) (by decide) ?_
        intro T4 h4 ad4 X4 ge_ad4 g_ad4 E4 A4
        refine own_dup X4 (pc' := 21) at_20 rfl rfl ?_
        refine own_iconst X4 (v := (0 : Int32)) (pc' := 22) at_21 rfl (by decide) ?_
        refine own_iloadN X4 (pc' := 23) at_22 rfl rfl ?_
        refine own_iastore X4 (vs' := [x0, (0 : Int32), (0 : Int32)]) (pc' := 24) A4 ge_ad4 rfl rfl at_23 rfl ?_
        intro T5 h5 X5 A5 W5
        refine own_dup X5 (pc' := 25) at_24 rfl rfl ?_
        refine own_iconst X5 (v := (1 : Int32)) (pc' := 26) at_25 rfl (by decide) ?_
        refine own_iloadN X5 (pc' := 27) at_26 rfl rfl ?_
        refine own_iastore X5 (vs' := [x0, x1, (0 : Int32)]) (pc' := 28) A5 ge_ad4 rfl rfl at_27 rfl ?_
        intro T6 h6 X6 A6 W6
        refine own_dup X6 (pc' := 29) at_28 rfl rfl ?_
        refine own_iconst X6 (v := (2 : Int32)) (pc' := 30) at_29 rfl (by decide) ?_
        refine own_iloadN X6 (pc' := 31) at_30 rfl rfl ?_
        refine own_iastore X6 (vs' := [x0, x1, x2]) (pc' := 32) A6 ge_ad4 rfl rfl at_31 rfl ?_
        intro T7 h7 X7 A7 W7
        refine own_astore X7 (pc' := 34) (Ls' := #[.val (.int x0), .val (.int x1), .val (.int x2), .val (.int sel), .val (.int pp), .val (.int rr), .val (.ref ad4), .unset, .unset, .unset, .unset, .unset, .unset, .unset, .unset]) at_32 rfl rfl rfl ?_
        refine own_aload X7 (pc' := 36) at_34 rfl rfl rfl ?_
        refine own_iconst X7 (v := (0 : Int32)) (pc' := 37) at_36 rfl (by decide) ?_
        refine own_iconst X7 (v := (1 : Int32)) (pc' := 38) at_37 rfl (by decide) ?_
        refine own_callS X7 (W := 0) (argsL := [(.ref ad4), (.int (0 : Int32)), (.int (1 : Int32))]) (rest := []) (S' := []) (pc' := 41) (rm1_3_01 l Z a0 hw n0 ad4 h7 X7.size x0 x1 x2 A7 ge_ad4) (hw _ (List.mem_of_getElem? (i := 1) rfl)) (hw _ (List.mem_of_getElem? (i := 2) rfl)) (hw _ (List.mem_of_getElem? (i := 3) rfl)) (hw _ (List.mem_of_getElem? (i := 4) rfl)) (by decide) (by decide) (by decide) rfl rfl (by decide) (by decide) (lenOf pd_0 rfl) rfl (by first | decide | exact Nat.le_of_eq rfl) rfl at_38 rfl rfl ?_
        intro T8 h8 X8 qq8
        obtain ⟨A9, K9⟩ := qq8
        refine own_aload X8 (pc' := 43) at_41 rfl rfl rfl ?_
        refine own_iconst X8 (v := (1 : Int32)) (pc' := 44) at_43 rfl (by decide) ?_
        refine own_iconst X8 (v := (2 : Int32)) (pc' := 45) at_44 rfl (by decide) ?_
        refine own_callS X8 (W := 0) (argsL := [(.ref ad4), (.int (1 : Int32)), (.int (2 : Int32))]) (rest := []) (S' := []) (pc' := 48) (rm1_3_12 l Z a0 hw n0 ad4 h8 X8.size (own_mn x0 x1) (own_mx x0 x1) x2 A9 ge_ad4) (hw _ (List.mem_of_getElem? (i := 1) rfl)) (hw _ (List.mem_of_getElem? (i := 2) rfl)) (hw _ (List.mem_of_getElem? (i := 3) rfl)) (hw _ (List.mem_of_getElem? (i := 4) rfl)) (by decide) (by decide) (by decide) rfl rfl (by decide) (by decide) (lenOf pd_0 rfl) rfl (by first | decide | exact Nat.le_of_eq rfl) rfl at_45 rfl rfl ?_
        intro T10 h10 X10 qq10
        obtain ⟨A11, K11⟩ := qq10
        refine own_aload X10 (pc' := 50) at_48 rfl rfl rfl ?_
        refine own_iconst X10 (v := (0 : Int32)) (pc' := 51) at_50 rfl (by decide) ?_
        refine own_iconst X10 (v := (1 : Int32)) (pc' := 52) at_51 rfl (by decide) ?_
        refine own_callS X10 (W := 0) (argsL := [(.ref ad4), (.int (0 : Int32)), (.int (1 : Int32))]) (rest := []) (S' := []) (pc' := 55) (rm1_3_01 l Z a0 hw n0 ad4 h10 X10.size (own_mn x0 x1) (own_mn (own_mx x0 x1) x2) (own_mx (own_mx x0 x1) x2) A11 ge_ad4) (hw _ (List.mem_of_getElem? (i := 1) rfl)) (hw _ (List.mem_of_getElem? (i := 2) rfl)) (hw _ (List.mem_of_getElem? (i := 3) rfl)) (hw _ (List.mem_of_getElem? (i := 4) rfl)) (by decide) (by decide) (by decide) rfl rfl (by decide) (by decide) (lenOf pd_0 rfl) rfl (by first | decide | exact Nat.le_of_eq rfl) rfl at_52 rfl rfl ?_
        intro T12 h12 X12 qq12
        obtain ⟨A13, K13⟩ := qq12
        obtain ⟨hs1, hs2⟩ := own_s3 x0 x1 x2 (own_ne hc2_1) (own_ne hc7_2) (own_ne hc12_3)
        generalize (own_mn (own_mn x0 x1) (own_mn (own_mx x0 x1) x2)) = s0 at *
        generalize (own_mx (own_mn x0 x1) (own_mn (own_mx x0 x1) x2)) = s1 at *
        generalize (own_mx (own_mx x0 x1) x2) = s2 at *
        refine own_iloadN X12 (pc' := 56) at_55 rfl rfl ?_
        refine own_iconst X12 (v := (3 : Int32)) (pc' := 57) at_56 rfl (by decide) ?_
        refine own_iand X12 (r := (sel &&& (3 : Int32))) (pc' := 58) at_57 rfl rfl ?_
        refine own_istore X12 (pc' := 60) (Ls' := #[.val (.int x0), .val (.int x1), .val (.int x2), .val (.int sel), .val (.int pp), .val (.int rr), .val (.ref ad4), .val (.int (sel &&& (3 : Int32))), .unset, .unset, .unset, .unset, .unset, .unset, .unset]) at_58 rfl rfl ?_
        generalize e14 : (sel &&& (3 : Int32)) = v14
        rcases own_and3 e14 with rfl | rfl | rfl | rfl
        · refine own_iload X12 (pc' := 62) at_60 rfl rfl ?_
          refine own_if_ne X12 (pct := 73) (pc' := 65) at_62 rfl (by decide) (by decide) (fun hc => absurd hc (by decide)) (fun _ => ?_)
          refine own_iconst X12 (v := (0 : Int32)) (pc' := 66) at_65 rfl (by decide) ?_
          refine own_newarr X12 (len := 0) (vs := []) (pc' := 68) (hw _ (List.mem_of_getElem? (i := 0) rfl)) rfl (by decide) (by decide) rfl (by decide) at_66 rfl (by decide) (by decide) ?_
          intro T15 h15 ad15 X15 ge_ad15 g_ad15 E15 A15
          have ne_ad4_ad15 : ad4 ≠ ad15 := Nat.ne_of_lt (Nat.lt_of_lt_of_le A13.lt (Nat.le_of_eq g_ad15.symm))
          have A16 := A13.ext E15
          refine own_astore X15 (pc' := 70) (Ls' := #[.val (.int x0), .val (.int x1), .val (.int x2), .val (.int sel), .val (.int pp), .val (.int rr), .val (.ref ad4), .val (.int (0 : Int32)), .val (.ref ad15), .unset, .unset, .unset, .unset, .unset, .unset]) at_68 rfl rfl rfl ?_
          refine own_goto X15 (pc' := 148) at_70 (by decide) (by decide) ?_
          refine own_iconst X15 (v := (4 : Int32)) (pc' := 149) at_148 rfl (by decide) ?_
          refine own_newarr X15 (len := 4) (vs := [0, 0, 0, 0]) (pc' := 151) (hw _ (List.mem_of_getElem? (i := 0) rfl)) rfl (by decide) (by decide) rfl (by decide) at_149 rfl (by decide) (by decide) ?_
          intro T17 h17 ad17 X17 ge_ad17 g_ad17 E17 A17
          have ne_ad4_ad17 : ad4 ≠ ad17 := Nat.ne_of_lt (Nat.lt_of_lt_of_le A16.lt (Nat.le_of_eq g_ad17.symm))
          have A18 := A16.ext E17
          have ne_ad15_ad17 : ad15 ≠ ad17 := Nat.ne_of_lt (Nat.lt_of_lt_of_le A15.lt (Nat.le_of_eq g_ad17.symm))
          have A19 := A15.ext E17
          refine own_dup X17 (pc' := 152) at_151 rfl rfl ?_
          refine own_iconst X17 (v := (0 : Int32)) (pc' := 153) at_152 rfl (by decide) ?_
          refine own_aload X17 (pc' := 155) at_153 rfl rfl rfl ?_
          refine own_iloadN X17 (pc' := 156) at_155 rfl rfl ?_
          refine own_iconst X17 (v := (2 : Int32)) (pc' := 157) at_156 rfl (by decide) ?_
          refine own_iushr X17 (r := ((sel.toUInt32 >>> ((2 : Int32) &&& 31).toUInt32).toInt32)) (pc' := 158) at_157 rfl rfl ?_
          refine own_iload X17 (pc' := 160) at_158 rfl rfl ?_
          refine own_callS X17 (W := 3) (argsL := [(.ref ad4), (.int ((sel.toUInt32 >>> ((2 : Int32) &&& 31).toUInt32).toInt32)), (.int pp)]) (rest := [(.int (0 : Int32)), (.ref ad17), (.ref ad17)]) (S' := [(.int (own_pk s0 s1 s2 ((sel.toUInt32 >>> ((2 : Int32) &&& 31).toUInt32).toInt32) pp)), (.int (0 : Int32)), (.ref ad17), (.ref ad17)]) (pc' := 163) (rm2 l Z a0 hw n0 ad4 ((sel.toUInt32 >>> ((2 : Int32) &&& 31).toUInt32).toInt32) pp h17 X17.size s0 s1 s2 A18) (hw _ (List.mem_of_getElem? (i := 5) rfl)) (hw _ (List.mem_of_getElem? (i := 6) rfl)) (hw _ (List.mem_of_getElem? (i := 3) rfl)) (hw _ (List.mem_of_getElem? (i := 7) rfl)) (by decide) (by decide) (by decide) rfl rfl (by decide) (by decide) (lenOf pd_1 rfl) rfl (by first | decide | exact Nat.le_of_eq rfl) rfl at_160 rfl rfl ?_
          intro T20 h20 X20 qq20
          rw [show h20 = h17 from qq20] at X20
          refine own_iastore X20 (vs' := [(own_pk s0 s1 s2 ((sel.toUInt32 >>> ((2 : Int32) &&& 31).toUInt32).toInt32) pp), (0 : Int32), (0 : Int32), (0 : Int32)]) (pc' := 164) A17 ge_ad17 rfl rfl at_163 rfl ?_
          intro T21 h21 X21 A21 W21
          have A22 := A18.other W21 ne_ad4_ad17
          have A23 := A19.other W21 ne_ad15_ad17
          refine own_dup X21 (pc' := 165) at_164 rfl rfl ?_
          refine own_iconst X21 (v := (1 : Int32)) (pc' := 166) at_165 rfl (by decide) ?_
          refine own_aload X21 (pc' := 168) at_166 rfl rfl rfl ?_
          refine own_iloadN X21 (pc' := 169) at_168 rfl rfl ?_
          refine own_bipush X21 (v := (6 : Int32)) (pc' := 171) at_169 rfl (by decide) ?_
          refine own_iushr X21 (r := ((sel.toUInt32 >>> ((6 : Int32) &&& 31).toUInt32).toInt32)) (pc' := 172) at_171 rfl rfl ?_
          refine own_iload X21 (pc' := 174) at_172 rfl rfl ?_
          refine own_callS X21 (W := 3) (argsL := [(.ref ad4), (.int ((sel.toUInt32 >>> ((6 : Int32) &&& 31).toUInt32).toInt32)), (.int rr)]) (rest := [(.int (1 : Int32)), (.ref ad17), (.ref ad17)]) (S' := [(.int (own_pk s0 s1 s2 ((sel.toUInt32 >>> ((6 : Int32) &&& 31).toUInt32).toInt32) rr)), (.int (1 : Int32)), (.ref ad17), (.ref ad17)]) (pc' := 177) (rm2 l Z a0 hw n0 ad4 ((sel.toUInt32 >>> ((6 : Int32) &&& 31).toUInt32).toInt32) rr h21 X21.size s0 s1 s2 A22) (hw _ (List.mem_of_getElem? (i := 5) rfl)) (hw _ (List.mem_of_getElem? (i := 6) rfl)) (hw _ (List.mem_of_getElem? (i := 3) rfl)) (hw _ (List.mem_of_getElem? (i := 7) rfl)) (by decide) (by decide) (by decide) rfl rfl (by decide) (by decide) (lenOf pd_1 rfl) rfl (by first | decide | exact Nat.le_of_eq rfl) rfl at_174 rfl rfl ?_
          intro T24 h24 X24 qq24
          rw [show h24 = h21 from qq24] at X24
          refine own_iastore X24 (vs' := [(own_pk s0 s1 s2 ((sel.toUInt32 >>> ((2 : Int32) &&& 31).toUInt32).toInt32) pp), (own_pk s0 s1 s2 ((sel.toUInt32 >>> ((6 : Int32) &&& 31).toUInt32).toInt32) rr), (0 : Int32), (0 : Int32)]) (pc' := 178) A21 ge_ad17 rfl rfl at_177 rfl ?_
          intro T25 h25 X25 A25 W25
          have A26 := A22.other W25 ne_ad4_ad17
          have A27 := A23.other W25 ne_ad15_ad17
          refine own_dup X25 (pc' := 179) at_178 rfl rfl ?_
          refine own_iconst X25 (v := (2 : Int32)) (pc' := 180) at_179 rfl (by decide) ?_
          refine own_aload X25 (pc' := 182) at_180 rfl rfl rfl ?_
          refine own_iloadN X25 (pc' := 183) at_182 rfl rfl ?_
          refine own_bipush X25 (v := (10 : Int32)) (pc' := 185) at_183 rfl (by decide) ?_
          refine own_iushr X25 (r := ((sel.toUInt32 >>> ((10 : Int32) &&& 31).toUInt32).toInt32)) (pc' := 186) at_185 rfl rfl ?_
          refine own_iload X25 (pc' := 188) at_186 rfl rfl ?_
          refine own_iload X25 (pc' := 190) at_188 rfl rfl ?_
          refine own_ixor X25 (r := (pp ^^^ rr)) (pc' := 191) at_190 rfl rfl ?_
          refine own_callS X25 (W := 3) (argsL := [(.ref ad4), (.int ((sel.toUInt32 >>> ((10 : Int32) &&& 31).toUInt32).toInt32)), (.int (pp ^^^ rr))]) (rest := [(.int (2 : Int32)), (.ref ad17), (.ref ad17)]) (S' := [(.int (own_pk s0 s1 s2 ((sel.toUInt32 >>> ((10 : Int32) &&& 31).toUInt32).toInt32) (pp ^^^ rr))), (.int (2 : Int32)), (.ref ad17), (.ref ad17)]) (pc' := 194) (rm2 l Z a0 hw n0 ad4 ((sel.toUInt32 >>> ((10 : Int32) &&& 31).toUInt32).toInt32) (pp ^^^ rr) h25 X25.size s0 s1 s2 A26) (hw _ (List.mem_of_getElem? (i := 5) rfl)) (hw _ (List.mem_of_getElem? (i := 6) rfl)) (hw _ (List.mem_of_getElem? (i := 3) rfl)) (hw _ (List.mem_of_getElem? (i := 7) rfl)) (by decide) (by decide) (by decide) rfl rfl (by decide) (by decide) (lenOf pd_1 rfl) rfl (by first | decide | exact Nat.le_of_eq rfl) rfl at_191 rfl rfl ?_
          intro T28 h28 X28 qq28
          rw [show h28 = h25 from qq28] at X28
          refine own_iastore X28 (vs' := [(own_pk s0 s1 s2 ((sel.toUInt32 >>> ((2 : Int32) &&& 31).toUInt32).toInt32) pp), (own_pk s0 s1 s2 ((sel.toUInt32 >>> ((6 : Int32) &&& 31).toUInt32).toInt32) rr), (own_pk s0 s1 s2 ((sel.toUInt32 >>> ((10 : Int32) &&& 31).toUInt32).toInt32) (pp ^^^ rr)), (0 : Int32)]) (pc' := 195) A25 ge_ad17 rfl rfl at_194 rfl ?_
          intro T29 h29 X29 A29 W29
          have A30 := A26.other W29 ne_ad4_ad17
          have A31 := A27.other W29 ne_ad15_ad17
          refine own_dup X29 (pc' := 196) at_195 rfl rfl ?_
          refine own_iconst X29 (v := (3 : Int32)) (pc' := 197) at_196 rfl (by decide) ?_
          refine own_aload X29 (pc' := 199) at_197 rfl rfl rfl ?_
          refine own_iloadN X29 (pc' := 200) at_199 rfl rfl ?_
          refine own_bipush X29 (v := (14 : Int32)) (pc' := 202) at_200 rfl (by decide) ?_
          refine own_iushr X29 (r := ((sel.toUInt32 >>> ((14 : Int32) &&& 31).toUInt32).toInt32)) (pc' := 203) at_202 rfl rfl ?_
          refine own_iload X29 (pc' := 205) at_203 rfl rfl ?_
          refine own_iload X29 (pc' := 207) at_205 rfl rfl ?_
          refine own_iadd X29 (r := (pp + rr)) (pc' := 208) at_207 rfl rfl ?_
          refine own_callS X29 (W := 3) (argsL := [(.ref ad4), (.int ((sel.toUInt32 >>> ((14 : Int32) &&& 31).toUInt32).toInt32)), (.int (pp + rr))]) (rest := [(.int (3 : Int32)), (.ref ad17), (.ref ad17)]) (S' := [(.int (own_pk s0 s1 s2 ((sel.toUInt32 >>> ((14 : Int32) &&& 31).toUInt32).toInt32) (pp + rr))), (.int (3 : Int32)), (.ref ad17), (.ref ad17)]) (pc' := 211) (rm2 l Z a0 hw n0 ad4 ((sel.toUInt32 >>> ((14 : Int32) &&& 31).toUInt32).toInt32) (pp + rr) h29 X29.size s0 s1 s2 A30) (hw _ (List.mem_of_getElem? (i := 5) rfl)) (hw _ (List.mem_of_getElem? (i := 6) rfl)) (hw _ (List.mem_of_getElem? (i := 3) rfl)) (hw _ (List.mem_of_getElem? (i := 7) rfl)) (by decide) (by decide) (by decide) rfl rfl (by decide) (by decide) (lenOf pd_1 rfl) rfl (by first | decide | exact Nat.le_of_eq rfl) rfl at_208 rfl rfl ?_
          intro T32 h32 X32 qq32
          rw [show h32 = h29 from qq32] at X32
          refine own_iastore X32 (vs' := [(own_pk s0 s1 s2 ((sel.toUInt32 >>> ((2 : Int32) &&& 31).toUInt32).toInt32) pp), (own_pk s0 s1 s2 ((sel.toUInt32 >>> ((6 : Int32) &&& 31).toUInt32).toInt32) rr), (own_pk s0 s1 s2 ((sel.toUInt32 >>> ((10 : Int32) &&& 31).toUInt32).toInt32) (pp ^^^ rr)), (own_pk s0 s1 s2 ((sel.toUInt32 >>> ((14 : Int32) &&& 31).toUInt32).toInt32) (pp + rr))]) (pc' := 212) A29 ge_ad17 rfl rfl at_211 rfl ?_
          intro T33 h33 X33 A33 W33
          have A34 := A30.other W33 ne_ad4_ad17
          have A35 := A31.other W33 ne_ad15_ad17
          refine own_astore X33 (pc' := 214) (Ls' := #[.val (.int x0), .val (.int x1), .val (.int x2), .val (.int sel), .val (.int pp), .val (.int rr), .val (.ref ad4), .val (.int (0 : Int32)), .val (.ref ad15), .val (.ref ad17), .unset, .unset, .unset, .unset, .unset]) at_212 rfl rfl rfl ?_
          generalize (own_pk s0 s1 s2 ((sel.toUInt32 >>> ((2 : Int32) &&& 31).toUInt32).toInt32) pp) = p0 at *
          generalize (own_pk s0 s1 s2 ((sel.toUInt32 >>> ((6 : Int32) &&& 31).toUInt32).toInt32) rr) = p1 at *
          generalize (own_pk s0 s1 s2 ((sel.toUInt32 >>> ((10 : Int32) &&& 31).toUInt32).toInt32) (pp ^^^ rr)) = p2 at *
          generalize (own_pk s0 s1 s2 ((sel.toUInt32 >>> ((14 : Int32) &&& 31).toUInt32).toInt32) (pp + rr)) = p3 at *
          refine own_aload X33 (pc' := 216) at_214 rfl rfl rfl ?_
          refine own_iconst X33 (v := (0 : Int32)) (pc' := 217) at_216 rfl (by decide) ?_
          refine own_iconst X33 (v := (1 : Int32)) (pc' := 218) at_217 rfl (by decide) ?_
          refine own_callS X33 (W := 0) (argsL := [(.ref ad17), (.int (0 : Int32)), (.int (1 : Int32))]) (rest := []) (S' := []) (pc' := 221) (rm1_4_01 l Z a0 hw n0 ad17 h33 X33.size p0 p1 p2 p3 A33 ge_ad17) (hw _ (List.mem_of_getElem? (i := 1) rfl)) (hw _ (List.mem_of_getElem? (i := 2) rfl)) (hw _ (List.mem_of_getElem? (i := 3) rfl)) (hw _ (List.mem_of_getElem? (i := 4) rfl)) (by decide) (by decide) (by decide) rfl rfl (by decide) (by decide) (lenOf pd_0 rfl) rfl (by first | decide | exact Nat.le_of_eq rfl) rfl at_218 rfl rfl ?_
          intro T36 h36 X36 qq36
          obtain ⟨A37, K37⟩ := qq36
          have A38 := A34.keep K37 (ninS ne_ad4_ad17 nin0)
          have A39 := A35.keep K37 (ninS ne_ad15_ad17 nin0)
          refine own_aload X36 (pc' := 223) at_221 rfl rfl rfl ?_
          refine own_iconst X36 (v := (2 : Int32)) (pc' := 224) at_223 rfl (by decide) ?_
          refine own_iconst X36 (v := (3 : Int32)) (pc' := 225) at_224 rfl (by decide) ?_
          refine own_callS X36 (W := 0) (argsL := [(.ref ad17), (.int (2 : Int32)), (.int (3 : Int32))]) (rest := []) (S' := []) (pc' := 228) (rm1_4_23 l Z a0 hw n0 ad17 h36 X36.size (own_mn p0 p1) (own_mx p0 p1) p2 p3 A37 ge_ad17) (hw _ (List.mem_of_getElem? (i := 1) rfl)) (hw _ (List.mem_of_getElem? (i := 2) rfl)) (hw _ (List.mem_of_getElem? (i := 3) rfl)) (hw _ (List.mem_of_getElem? (i := 4) rfl)) (by decide) (by decide) (by decide) rfl rfl (by decide) (by decide) (lenOf pd_0 rfl) rfl (by first | decide | exact Nat.le_of_eq rfl) rfl at_225 rfl rfl ?_
          intro T40 h40 X40 qq40
          obtain ⟨A41, K41⟩ := qq40
          have A42 := A38.keep K41 (ninS ne_ad4_ad17 nin0)
          have A43 := A39.keep K41 (ninS ne_ad15_ad17 nin0)
          refine own_aload X40 (pc' := 230) at_228 rfl rfl rfl ?_
          refine own_iconst X40 (v := (0 : Int32)) (pc' := 231) at_230 rfl (by decide) ?_
          refine own_iconst X40 (v := (2 : Int32)) (pc' := 232) at_231 rfl (by decide) ?_
          refine own_callS X40 (W := 0) (argsL := [(.ref ad17), (.int (0 : Int32)), (.int (2 : Int32))]) (rest := []) (S' := []) (pc' := 235) (rm1_4_02 l Z a0 hw n0 ad17 h40 X40.size (own_mn p0 p1) (own_mx p0 p1) (own_mn p2 p3) (own_mx p2 p3) A41 ge_ad17) (hw _ (List.mem_of_getElem? (i := 1) rfl)) (hw _ (List.mem_of_getElem? (i := 2) rfl)) (hw _ (List.mem_of_getElem? (i := 3) rfl)) (hw _ (List.mem_of_getElem? (i := 4) rfl)) (by decide) (by decide) (by decide) rfl rfl (by decide) (by decide) (lenOf pd_0 rfl) rfl (by first | decide | exact Nat.le_of_eq rfl) rfl at_232 rfl rfl ?_
          intro T44 h44 X44 qq44
          obtain ⟨A45, K45⟩ := qq44
          have A46 := A42.keep K45 (ninS ne_ad4_ad17 nin0)
          have A47 := A43.keep K45 (ninS ne_ad15_ad17 nin0)
          refine own_aload X44 (pc' := 237) at_235 rfl rfl rfl ?_
          refine own_iconst X44 (v := (1 : Int32)) (pc' := 238) at_237 rfl (by decide) ?_
          refine own_iconst X44 (v := (3 : Int32)) (pc' := 239) at_238 rfl (by decide) ?_
          refine own_callS X44 (W := 0) (argsL := [(.ref ad17), (.int (1 : Int32)), (.int (3 : Int32))]) (rest := []) (S' := []) (pc' := 242) (rm1_4_13 l Z a0 hw n0 ad17 h44 X44.size (own_mn (own_mn p0 p1) (own_mn p2 p3)) (own_mx p0 p1) (own_mx (own_mn p0 p1) (own_mn p2 p3)) (own_mx p2 p3) A45 ge_ad17) (hw _ (List.mem_of_getElem? (i := 1) rfl)) (hw _ (List.mem_of_getElem? (i := 2) rfl)) (hw _ (List.mem_of_getElem? (i := 3) rfl)) (hw _ (List.mem_of_getElem? (i := 4) rfl)) (by decide) (by decide) (by decide) rfl rfl (by decide) (by decide) (lenOf pd_0 rfl) rfl (by first | decide | exact Nat.le_of_eq rfl) rfl at_239 rfl rfl ?_
          intro T48 h48 X48 qq48
          obtain ⟨A49, K49⟩ := qq48
          have A50 := A46.keep K49 (ninS ne_ad4_ad17 nin0)
          have A51 := A47.keep K49 (ninS ne_ad15_ad17 nin0)
          refine own_aload X48 (pc' := 244) at_242 rfl rfl rfl ?_
          refine own_iconst X48 (v := (1 : Int32)) (pc' := 245) at_244 rfl (by decide) ?_
          refine own_iconst X48 (v := (2 : Int32)) (pc' := 246) at_245 rfl (by decide) ?_
          refine own_callS X48 (W := 0) (argsL := [(.ref ad17), (.int (1 : Int32)), (.int (2 : Int32))]) (rest := []) (S' := []) (pc' := 249) (rm1_4_12 l Z a0 hw n0 ad17 h48 X48.size (own_mn (own_mn p0 p1) (own_mn p2 p3)) (own_mn (own_mx p0 p1) (own_mx p2 p3)) (own_mx (own_mn p0 p1) (own_mn p2 p3)) (own_mx (own_mx p0 p1) (own_mx p2 p3)) A49 ge_ad17) (hw _ (List.mem_of_getElem? (i := 1) rfl)) (hw _ (List.mem_of_getElem? (i := 2) rfl)) (hw _ (List.mem_of_getElem? (i := 3) rfl)) (hw _ (List.mem_of_getElem? (i := 4) rfl)) (by decide) (by decide) (by decide) rfl rfl (by decide) (by decide) (lenOf pd_0 rfl) rfl (by first | decide | exact Nat.le_of_eq rfl) rfl at_246 rfl rfl ?_
          intro T52 h52 X52 qq52
          obtain ⟨A53, K53⟩ := qq52
          have A54 := A50.keep K53 (ninS ne_ad4_ad17 nin0)
          have A55 := A51.keep K53 (ninS ne_ad15_ad17 nin0)
          obtain ⟨hq1, hq2, hq3⟩ := own_s4 p0 p1 p2 p3 _ _ _ _ rfl rfl rfl rfl
          generalize (own_mx (own_mx p0 p1) (own_mx p2 p3)) = u3 at *
          generalize (own_mx (own_mn (own_mx p0 p1) (own_mx p2 p3)) (own_mx (own_mn p0 p1) (own_mn p2 p3))) = u2 at *
          generalize (own_mn (own_mn (own_mx p0 p1) (own_mx p2 p3)) (own_mx (own_mn p0 p1) (own_mn p2 p3))) = u1 at *
          generalize (own_mn (own_mn p0 p1) (own_mn p2 p3)) = u0 at *
          refine own_new X52 (pc' := 252) (hw _ (List.mem_of_getElem? (i := 8) rfl)) (hw _ (List.mem_of_getElem? (i := 9) rfl)) (hw _ (List.mem_of_getElem? (i := 10) rfl)) at_249 rfl (by decide) (by decide) ?_
          intro T56 h56 ad56 X56 ge_ad56 g_ad56 E56 Ex56 D56
          have ne_ad4_ad56 : ad4 ≠ ad56 := Nat.ne_of_lt (Nat.lt_of_lt_of_le A54.lt (Nat.le_of_eq g_ad56.symm))
          have A57 := A54.ext E56
          have ne_ad15_ad56 : ad15 ≠ ad56 := Nat.ne_of_lt (Nat.lt_of_lt_of_le A55.lt (Nat.le_of_eq g_ad56.symm))
          have A58 := A55.ext E56
          have ne_ad17_ad56 : ad17 ≠ ad56 := Nat.ne_of_lt (Nat.lt_of_lt_of_le A53.lt (Nat.le_of_eq g_ad56.symm))
          have A59 := A53.ext E56
          have F56_documents : Fld Z h56 ad56 "com/example/quern/quern/index/DeletionsFile$Walk" "documents" "[I" .null := D56 (Or.inr (hw _ (List.mem_of_getElem? (i := 18) rfl))) (ty := (.array .int)) (by decide)
          have F56_next : Fld Z h56 ad56 "com/example/quern/quern/index/DeletionsFile$Walk" "next" "I" (.int (0 : Int32)) := D56 (Or.inl (hw _ (List.mem_of_getElem? (i := 25) rfl))) (ty := .int) (by decide)
          refine own_dup X56 (pc' := 253) at_252 rfl rfl ?_
          refine own_aload X56 (pc' := 255) at_253 rfl rfl rfl ?_
          refine own_callI X56 (W := 1) (a := ad56) (argsL := [(.ref ad15)]) (rest := [(.ref ad56)]) (S' := [(.ref ad56)]) (pc' := 258) (rm3 l Z a0 hw n0 ad56 ad15 h56 X56.size Ex56 F56_documents F56_next ge_ad56) rfl (hw _ (List.mem_of_getElem? (i := 11) rfl)) (hw _ (List.mem_of_getElem? (i := 12) rfl)) (hw _ (List.mem_of_getElem? (i := 10) rfl)) (hw _ (List.mem_of_getElem? (i := 13) rfl)) (by decide) (by decide) (by decide) rfl rfl (by decide) (by decide) (lenOf pd_2 rfl) rfl (by first | decide | exact Nat.le_of_eq rfl) rfl at_255 rfl rfl ?_
          intro T60 h60 X60 qq60
          obtain ⟨⟨Ex61, F61_d, F61_n⟩, K61⟩ := qq60
          have A62 := A57.keep K61 (ninS ne_ad4_ad56 nin0)
          have A63 := A58.keep K61 (ninS ne_ad15_ad56 nin0)
          have A64 := A59.keep K61 (ninS ne_ad17_ad56 nin0)
          have Ex65 := Ex56.keep K61
          refine own_astore X60 (pc' := 260) (Ls' := #[.val (.int x0), .val (.int x1), .val (.int x2), .val (.int sel), .val (.int pp), .val (.int rr), .val (.ref ad4), .val (.int (0 : Int32)), .val (.ref ad15), .val (.ref ad17), .val (.ref ad56), .unset, .unset, .unset, .unset]) at_258 rfl rfl rfl ?_
          refine own_aload X60 (pc' := 262) at_260 rfl rfl rfl ?_
          refine own_aload X60 (pc' := 264) at_262 rfl rfl rfl ?_
          refine own_iconst X60 (v := (0 : Int32)) (pc' := 265) at_264 rfl (by decide) ?_
          refine own_iaload X60 (v := u0) (pc' := 266) A64 rfl rfl at_265 rfl ?_
          refine own_callV X60 (W := 0) (a := ad56) (argsL := [(.int u0)]) (rest := []) (S' := [(.int (own_hd [] u0))]) (pc' := 269) (rm5_00 l Z a0 hw n0 ad56 u0 h60 X60.size ad15  ⟨Ex61, F61_d, F61_n⟩ A63 ge_ad56 ne_ad15_ad56) Ex61 (hw _ (List.mem_of_getElem? (i := 19) rfl)) (hw _ (List.mem_of_getElem? (i := 20) rfl)) (hw _ (List.mem_of_getElem? (i := 22) rfl)) (hw _ (List.mem_of_getElem? (i := 21) rfl)) (hw _ (List.mem_of_getElem? (i := 10) rfl)) (hw _ (List.mem_of_getElem? (i := 23) rfl)) (by decide) (by decide) (by decide) rfl rfl (by decide) (by decide) (lenOf pd_3 rfl) rfl (by first | decide | exact Nat.le_of_eq rfl) rfl at_266 rfl rfl ?_
          intro T66 h66 X66 qq66
          obtain ⟨⟨Ex67, F67_d, F67_n⟩, K67⟩ := qq66
          have A68 := A62.keep K67 (ninS ne_ad4_ad56 nin0)
          have A69 := A63.keep K67 (ninS ne_ad15_ad56 nin0)
          have A70 := A64.keep K67 (ninS ne_ad17_ad56 nin0)
          have Ex71 := Ex61.keep K67
          refine own_istore X66 (pc' := 271) (Ls' := #[.val (.int x0), .val (.int x1), .val (.int x2), .val (.int sel), .val (.int pp), .val (.int rr), .val (.ref ad4), .val (.int (0 : Int32)), .val (.ref ad15), .val (.ref ad17), .val (.ref ad56), .val (.int (own_hd [] u0)), .unset, .unset, .unset]) at_269 rfl rfl ?_
          have e67_0 := own_nc_0_0 0 u0
          rw [e67_0] at F67_n
          refine own_aload X66 (pc' := 273) at_271 rfl rfl rfl ?_
          refine own_aload X66 (pc' := 275) at_273 rfl rfl rfl ?_
          refine own_iconst X66 (v := (1 : Int32)) (pc' := 276) at_275 rfl (by decide) ?_
          refine own_iaload X66 (v := u1) (pc' := 277) A70 rfl rfl at_276 rfl ?_
          refine own_callV X66 (W := 0) (a := ad56) (argsL := [(.int u1)]) (rest := []) (S' := [(.int (own_hd [] u1))]) (pc' := 280) (rm5_00 l Z a0 hw n0 ad56 u1 h66 X66.size ad15  ⟨Ex67, F67_d, F67_n⟩ A69 ge_ad56 ne_ad15_ad56) Ex67 (hw _ (List.mem_of_getElem? (i := 19) rfl)) (hw _ (List.mem_of_getElem? (i := 20) rfl)) (hw _ (List.mem_of_getElem? (i := 22) rfl)) (hw _ (List.mem_of_getElem? (i := 21) rfl)) (hw _ (List.mem_of_getElem? (i := 10) rfl)) (hw _ (List.mem_of_getElem? (i := 23) rfl)) (by decide) (by decide) (by decide) rfl rfl (by decide) (by decide) (lenOf pd_3 rfl) rfl (by first | decide | exact Nat.le_of_eq rfl) rfl at_277 rfl rfl ?_
          intro T72 h72 X72 qq72
          obtain ⟨⟨Ex73, F73_d, F73_n⟩, K73⟩ := qq72
          have A74 := A68.keep K73 (ninS ne_ad4_ad56 nin0)
          have A75 := A69.keep K73 (ninS ne_ad15_ad56 nin0)
          have A76 := A70.keep K73 (ninS ne_ad17_ad56 nin0)
          have Ex77 := Ex67.keep K73
          refine own_istore X72 (pc' := 282) (Ls' := #[.val (.int x0), .val (.int x1), .val (.int x2), .val (.int sel), .val (.int pp), .val (.int rr), .val (.ref ad4), .val (.int (0 : Int32)), .val (.ref ad15), .val (.ref ad17), .val (.ref ad56), .val (.int (own_hd [] u0)), .val (.int (own_hd [] u1)), .unset, .unset]) at_280 rfl rfl ?_
          have e73_0 := own_nc_0_0 0 u1
          rw [e73_0] at F73_n
          refine own_aload X72 (pc' := 284) at_282 rfl rfl rfl ?_
          refine own_aload X72 (pc' := 286) at_284 rfl rfl rfl ?_
          refine own_iconst X72 (v := (2 : Int32)) (pc' := 287) at_286 rfl (by decide) ?_
          refine own_iaload X72 (v := u2) (pc' := 288) A76 rfl rfl at_287 rfl ?_
          refine own_callV X72 (W := 0) (a := ad56) (argsL := [(.int u2)]) (rest := []) (S' := [(.int (own_hd [] u2))]) (pc' := 291) (rm5_00 l Z a0 hw n0 ad56 u2 h72 X72.size ad15  ⟨Ex73, F73_d, F73_n⟩ A75 ge_ad56 ne_ad15_ad56) Ex73 (hw _ (List.mem_of_getElem? (i := 19) rfl)) (hw _ (List.mem_of_getElem? (i := 20) rfl)) (hw _ (List.mem_of_getElem? (i := 22) rfl)) (hw _ (List.mem_of_getElem? (i := 21) rfl)) (hw _ (List.mem_of_getElem? (i := 10) rfl)) (hw _ (List.mem_of_getElem? (i := 23) rfl)) (by decide) (by decide) (by decide) rfl rfl (by decide) (by decide) (lenOf pd_3 rfl) rfl (by first | decide | exact Nat.le_of_eq rfl) rfl at_288 rfl rfl ?_
          intro T78 h78 X78 qq78
          obtain ⟨⟨Ex79, F79_d, F79_n⟩, K79⟩ := qq78
          have A80 := A74.keep K79 (ninS ne_ad4_ad56 nin0)
          have A81 := A75.keep K79 (ninS ne_ad15_ad56 nin0)
          have A82 := A76.keep K79 (ninS ne_ad17_ad56 nin0)
          have Ex83 := Ex73.keep K79
          refine own_istore X78 (pc' := 293) (Ls' := #[.val (.int x0), .val (.int x1), .val (.int x2), .val (.int sel), .val (.int pp), .val (.int rr), .val (.ref ad4), .val (.int (0 : Int32)), .val (.ref ad15), .val (.ref ad17), .val (.ref ad56), .val (.int (own_hd [] u0)), .val (.int (own_hd [] u1)), .val (.int (own_hd [] u2)), .unset]) at_291 rfl rfl ?_
          have e79_0 := own_nc_0_0 0 u2
          rw [e79_0] at F79_n
          refine own_aload X78 (pc' := 295) at_293 rfl rfl rfl ?_
          refine own_aload X78 (pc' := 297) at_295 rfl rfl rfl ?_
          refine own_iconst X78 (v := (3 : Int32)) (pc' := 298) at_297 rfl (by decide) ?_
          refine own_iaload X78 (v := u3) (pc' := 299) A82 rfl rfl at_298 rfl ?_
          refine own_callV X78 (W := 0) (a := ad56) (argsL := [(.int u3)]) (rest := []) (S' := [(.int (own_hd [] u3))]) (pc' := 302) (rm5_00 l Z a0 hw n0 ad56 u3 h78 X78.size ad15  ⟨Ex79, F79_d, F79_n⟩ A81 ge_ad56 ne_ad15_ad56) Ex79 (hw _ (List.mem_of_getElem? (i := 19) rfl)) (hw _ (List.mem_of_getElem? (i := 20) rfl)) (hw _ (List.mem_of_getElem? (i := 22) rfl)) (hw _ (List.mem_of_getElem? (i := 21) rfl)) (hw _ (List.mem_of_getElem? (i := 10) rfl)) (hw _ (List.mem_of_getElem? (i := 23) rfl)) (by decide) (by decide) (by decide) rfl rfl (by decide) (by decide) (lenOf pd_3 rfl) rfl (by first | decide | exact Nat.le_of_eq rfl) rfl at_299 rfl rfl ?_
          intro T84 h84 X84 qq84
          obtain ⟨⟨Ex85, F85_d, F85_n⟩, K85⟩ := qq84
          have A86 := A80.keep K85 (ninS ne_ad4_ad56 nin0)
          have A87 := A81.keep K85 (ninS ne_ad15_ad56 nin0)
          have A88 := A82.keep K85 (ninS ne_ad17_ad56 nin0)
          have Ex89 := Ex79.keep K85
          refine own_istore X84 (pc' := 304) (Ls' := #[.val (.int x0), .val (.int x1), .val (.int x2), .val (.int sel), .val (.int pp), .val (.int rr), .val (.ref ad4), .val (.int (0 : Int32)), .val (.ref ad15), .val (.ref ad17), .val (.ref ad56), .val (.int (own_hd [] u0)), .val (.int (own_hd [] u1)), .val (.int (own_hd [] u2)), .val (.int (own_hd [] u3))]) at_302 rfl rfl ?_
          have e85_0 := own_nc_0_0 0 u3
          rw [e85_0] at F85_n
          refine own_iload X84 (pc' := 306) at_304 rfl rfl ?_
          refine own_aload X84 (pc' := 308) at_306 rfl rfl rfl ?_
          refine own_iload X84 (pc' := 310) at_308 rfl rfl ?_
          refine own_aload X84 (pc' := 312) at_310 rfl rfl rfl ?_
          refine own_iconst X84 (v := (0 : Int32)) (pc' := 313) at_312 rfl (by decide) ?_
          refine own_iaload X84 (v := u0) (pc' := 314) A88 rfl rfl at_313 rfl ?_
          refine own_callS X84 (W := 1) (argsL := [(.ref ad4), (.int (0 : Int32)), (.int u0)]) (rest := [(.int (own_hd [] u0))]) (S' := [(.int (own_mb [] u0)), (.int (own_hd [] u0))]) (pc' := 317) (rm6_0 l Z a0 hw n0 ad4 u0 h84 X84.size s0 s1 s2 A86) (hw _ (List.mem_of_getElem? (i := 26) rfl)) (hw _ (List.mem_of_getElem? (i := 27) rfl)) (hw _ (List.mem_of_getElem? (i := 3) rfl)) (hw _ (List.mem_of_getElem? (i := 28) rfl)) (by decide) (by decide) (by decide) rfl rfl (by decide) (by decide) (lenOf pd_4 rfl) rfl (by first | decide | exact Nat.le_of_eq rfl) rfl at_314 rfl rfl ?_
          intro T90 h90 X90 qq90
          rw [show h90 = h84 from qq90] at X90
          refine own_icmp_ne X90 (pct := 372) (pc' := 320) at_317 rfl (by decide) (by decide) (fun hc => absurd hc (fun q => q (own_hm_0_0 s0 s1 s2 u0 hs1 hs2 ))) (fun _ => ?_)
          refine own_iload X90 (pc' := 322) at_320 rfl rfl ?_
          refine own_aload X90 (pc' := 324) at_322 rfl rfl rfl ?_
          refine own_iload X90 (pc' := 326) at_324 rfl rfl ?_
          refine own_aload X90 (pc' := 328) at_326 rfl rfl rfl ?_
          refine own_iconst X90 (v := (1 : Int32)) (pc' := 329) at_328 rfl (by decide) ?_
          refine own_iaload X90 (v := u1) (pc' := 330) A88 rfl rfl at_329 rfl ?_
          refine own_callS X90 (W := 1) (argsL := [(.ref ad4), (.int (0 : Int32)), (.int u1)]) (rest := [(.int (own_hd [] u1))]) (S' := [(.int (own_mb [] u1)), (.int (own_hd [] u1))]) (pc' := 333) (rm6_0 l Z a0 hw n0 ad4 u1 h84 X90.size s0 s1 s2 A86) (hw _ (List.mem_of_getElem? (i := 26) rfl)) (hw _ (List.mem_of_getElem? (i := 27) rfl)) (hw _ (List.mem_of_getElem? (i := 3) rfl)) (hw _ (List.mem_of_getElem? (i := 28) rfl)) (by decide) (by decide) (by decide) rfl rfl (by decide) (by decide) (lenOf pd_4 rfl) rfl (by first | decide | exact Nat.le_of_eq rfl) rfl at_330 rfl rfl ?_
          intro T91 h91 X91 qq91
          rw [show h91 = h84 from qq91] at X91
          refine own_icmp_ne X91 (pct := 372) (pc' := 336) at_333 rfl (by decide) (by decide) (fun hc => absurd hc (fun q => q (own_hm_0_0 s0 s1 s2 u1 hs1 hs2 ))) (fun _ => ?_)
          refine own_iload X91 (pc' := 338) at_336 rfl rfl ?_
          refine own_aload X91 (pc' := 340) at_338 rfl rfl rfl ?_
          refine own_iload X91 (pc' := 342) at_340 rfl rfl ?_
          refine own_aload X91 (pc' := 344) at_342 rfl rfl rfl ?_
          refine own_iconst X91 (v := (2 : Int32)) (pc' := 345) at_344 rfl (by decide) ?_
          refine own_iaload X91 (v := u2) (pc' := 346) A88 rfl rfl at_345 rfl ?_
          refine own_callS X91 (W := 1) (argsL := [(.ref ad4), (.int (0 : Int32)), (.int u2)]) (rest := [(.int (own_hd [] u2))]) (S' := [(.int (own_mb [] u2)), (.int (own_hd [] u2))]) (pc' := 349) (rm6_0 l Z a0 hw n0 ad4 u2 h84 X91.size s0 s1 s2 A86) (hw _ (List.mem_of_getElem? (i := 26) rfl)) (hw _ (List.mem_of_getElem? (i := 27) rfl)) (hw _ (List.mem_of_getElem? (i := 3) rfl)) (hw _ (List.mem_of_getElem? (i := 28) rfl)) (by decide) (by decide) (by decide) rfl rfl (by decide) (by decide) (lenOf pd_4 rfl) rfl (by first | decide | exact Nat.le_of_eq rfl) rfl at_346 rfl rfl ?_
          intro T92 h92 X92 qq92
          rw [show h92 = h84 from qq92] at X92
          refine own_icmp_ne X92 (pct := 372) (pc' := 352) at_349 rfl (by decide) (by decide) (fun hc => absurd hc (fun q => q (own_hm_0_0 s0 s1 s2 u2 hs1 hs2 ))) (fun _ => ?_)
          refine own_iload X92 (pc' := 354) at_352 rfl rfl ?_
          refine own_aload X92 (pc' := 356) at_354 rfl rfl rfl ?_
          refine own_iload X92 (pc' := 358) at_356 rfl rfl ?_
          refine own_aload X92 (pc' := 360) at_358 rfl rfl rfl ?_
          refine own_iconst X92 (v := (3 : Int32)) (pc' := 361) at_360 rfl (by decide) ?_
          refine own_iaload X92 (v := u3) (pc' := 362) A88 rfl rfl at_361 rfl ?_
          refine own_callS X92 (W := 1) (argsL := [(.ref ad4), (.int (0 : Int32)), (.int u3)]) (rest := [(.int (own_hd [] u3))]) (S' := [(.int (own_mb [] u3)), (.int (own_hd [] u3))]) (pc' := 365) (rm6_0 l Z a0 hw n0 ad4 u3 h84 X92.size s0 s1 s2 A86) (hw _ (List.mem_of_getElem? (i := 26) rfl)) (hw _ (List.mem_of_getElem? (i := 27) rfl)) (hw _ (List.mem_of_getElem? (i := 3) rfl)) (hw _ (List.mem_of_getElem? (i := 28) rfl)) (by decide) (by decide) (by decide) rfl rfl (by decide) (by decide) (lenOf pd_4 rfl) rfl (by first | decide | exact Nat.le_of_eq rfl) rfl at_362 rfl rfl ?_
          intro T93 h93 X93 qq93
          rw [show h93 = h84 from qq93] at X93
          refine own_icmp_ne X93 (pct := 372) (pc' := 368) at_365 rfl (by decide) (by decide) (fun hc => absurd hc (fun q => q (own_hm_0_0 s0 s1 s2 u3 hs1 hs2 ))) (fun _ => ?_)
          refine own_iconst X93 (v := (1 : Int32)) (pc' := 369) at_368 rfl (by decide) ?_
          refine own_goto X93 (pc' := 373) at_369 (by decide) (by decide) ?_
          subst hΦ
          exact own_retZ X93 at_373 (by decide) (by decide) (by decide) rfl trivial
        · refine own_iload X12 (pc' := 62) at_60 rfl rfl ?_
          refine own_if_ne X12 (pct := 73) (pc' := 65) at_62 rfl (by decide) (by decide) (fun _ => ?_) (fun hc => absurd hc (by decide))
          refine own_iload X12 (pc' := 75) at_73 rfl rfl ?_
          refine own_iconst X12 (v := (1 : Int32)) (pc' := 76) at_75 rfl (by decide) ?_
          refine own_icmp_ne X12 (pct := 94) (pc' := 79) at_76 rfl (by decide) (by decide) (fun hc => absurd hc (by decide)) (fun _ => ?_)
          refine own_iconst X12 (v := (1 : Int32)) (pc' := 80) at_79 rfl (by decide) ?_
          refine own_newarr X12 (len := 1) (vs := [0]) (pc' := 82) (hw _ (List.mem_of_getElem? (i := 0) rfl)) rfl (by decide) (by decide) rfl (by decide) at_80 rfl (by decide) (by decide) ?_
          intro T94 h94 ad94 X94 ge_ad94 g_ad94 E94 A94
          have ne_ad4_ad94 : ad4 ≠ ad94 := Nat.ne_of_lt (Nat.lt_of_lt_of_le A13.lt (Nat.le_of_eq g_ad94.symm))
          have A95 := A13.ext E94
          refine own_dup X94 (pc' := 83) at_82 rfl rfl ?_
          refine own_iconst X94 (v := (0 : Int32)) (pc' := 84) at_83 rfl (by decide) ?_
          refine own_aload X94 (pc' := 86) at_84 rfl rfl rfl ?_
          refine own_iconst X94 (v := (0 : Int32)) (pc' := 87) at_86 rfl (by decide) ?_
          refine own_iaload X94 (v := s0) (pc' := 88) A95 rfl rfl at_87 rfl ?_
          refine own_iastore X94 (vs' := [s0]) (pc' := 89) A94 ge_ad94 rfl rfl at_88 rfl ?_
          intro T96 h96 X96 A96 W96
          have A97 := A95.other W96 ne_ad4_ad94
          refine own_astore X96 (pc' := 91) (Ls' := #[.val (.int x0), .val (.int x1), .val (.int x2), .val (.int sel), .val (.int pp), .val (.int rr), .val (.ref ad4), .val (.int (1 : Int32)), .val (.ref ad94), .unset, .unset, .unset, .unset, .unset, .unset]) at_89 rfl rfl rfl ?_
          refine own_goto X96 (pc' := 148) at_91 (by decide) (by decide) ?_
          refine own_iconst X96 (v := (4 : Int32)) (pc' := 149) at_148 rfl (by decide) ?_
          refine own_newarr X96 (len := 4) (vs := [0, 0, 0, 0]) (pc' := 151) (hw _ (List.mem_of_getElem? (i := 0) rfl)) rfl (by decide) (by decide) rfl (by decide) at_149 rfl (by decide) (by decide) ?_
          intro T98 h98 ad98 X98 ge_ad98 g_ad98 E98 A98
          have ne_ad4_ad98 : ad4 ≠ ad98 := Nat.ne_of_lt (Nat.lt_of_lt_of_le A97.lt (Nat.le_of_eq g_ad98.symm))
          have A99 := A97.ext E98
          have ne_ad94_ad98 : ad94 ≠ ad98 := Nat.ne_of_lt (Nat.lt_of_lt_of_le A96.lt (Nat.le_of_eq g_ad98.symm))
          have A100 := A96.ext E98
          refine own_dup X98 (pc' := 152) at_151 rfl rfl ?_
          refine own_iconst X98 (v := (0 : Int32)) (pc' := 153) at_152 rfl (by decide) ?_
          refine own_aload X98 (pc' := 155) at_153 rfl rfl rfl ?_
          refine own_iloadN X98 (pc' := 156) at_155 rfl rfl ?_
          refine own_iconst X98 (v := (2 : Int32)) (pc' := 157) at_156 rfl (by decide) ?_
          refine own_iushr X98 (r := ((sel.toUInt32 >>> ((2 : Int32) &&& 31).toUInt32).toInt32)) (pc' := 158) at_157 rfl rfl ?_
          refine own_iload X98 (pc' := 160) at_158 rfl rfl ?_
          refine own_callS X98 (W := 3) (argsL := [(.ref ad4), (.int ((sel.toUInt32 >>> ((2 : Int32) &&& 31).toUInt32).toInt32)), (.int pp)]) (rest := [(.int (0 : Int32)), (.ref ad98), (.ref ad98)]) (S' := [(.int (own_pk s0 s1 s2 ((sel.toUInt32 >>> ((2 : Int32) &&& 31).toUInt32).toInt32) pp)), (.int (0 : Int32)), (.ref ad98), (.ref ad98)]) (pc' := 163) (rm2 l Z a0 hw n0 ad4 ((sel.toUInt32 >>> ((2 : Int32) &&& 31).toUInt32).toInt32) pp h98 X98.size s0 s1 s2 A99) (hw _ (List.mem_of_getElem? (i := 5) rfl)) (hw _ (List.mem_of_getElem? (i := 6) rfl)) (hw _ (List.mem_of_getElem? (i := 3) rfl)) (hw _ (List.mem_of_getElem? (i := 7) rfl)) (by decide) (by decide) (by decide) rfl rfl (by decide) (by decide) (lenOf pd_1 rfl) rfl (by first | decide | exact Nat.le_of_eq rfl) rfl at_160 rfl rfl ?_
          intro T101 h101 X101 qq101
          rw [show h101 = h98 from qq101] at X101
          refine own_iastore X101 (vs' := [(own_pk s0 s1 s2 ((sel.toUInt32 >>> ((2 : Int32) &&& 31).toUInt32).toInt32) pp), (0 : Int32), (0 : Int32), (0 : Int32)]) (pc' := 164) A98 ge_ad98 rfl rfl at_163 rfl ?_
          intro T102 h102 X102 A102 W102
          have A103 := A99.other W102 ne_ad4_ad98
          have A104 := A100.other W102 ne_ad94_ad98
          refine own_dup X102 (pc' := 165) at_164 rfl rfl ?_
          refine own_iconst X102 (v := (1 : Int32)) (pc' := 166) at_165 rfl (by decide) ?_
          refine own_aload X102 (pc' := 168) at_166 rfl rfl rfl ?_
          refine own_iloadN X102 (pc' := 169) at_168 rfl rfl ?_
          refine own_bipush X102 (v := (6 : Int32)) (pc' := 171) at_169 rfl (by decide) ?_
          refine own_iushr X102 (r := ((sel.toUInt32 >>> ((6 : Int32) &&& 31).toUInt32).toInt32)) (pc' := 172) at_171 rfl rfl ?_
          refine own_iload X102 (pc' := 174) at_172 rfl rfl ?_
          refine own_callS X102 (W := 3) (argsL := [(.ref ad4), (.int ((sel.toUInt32 >>> ((6 : Int32) &&& 31).toUInt32).toInt32)), (.int rr)]) (rest := [(.int (1 : Int32)), (.ref ad98), (.ref ad98)]) (S' := [(.int (own_pk s0 s1 s2 ((sel.toUInt32 >>> ((6 : Int32) &&& 31).toUInt32).toInt32) rr)), (.int (1 : Int32)), (.ref ad98), (.ref ad98)]) (pc' := 177) (rm2 l Z a0 hw n0 ad4 ((sel.toUInt32 >>> ((6 : Int32) &&& 31).toUInt32).toInt32) rr h102 X102.size s0 s1 s2 A103) (hw _ (List.mem_of_getElem? (i := 5) rfl)) (hw _ (List.mem_of_getElem? (i := 6) rfl)) (hw _ (List.mem_of_getElem? (i := 3) rfl)) (hw _ (List.mem_of_getElem? (i := 7) rfl)) (by decide) (by decide) (by decide) rfl rfl (by decide) (by decide) (lenOf pd_1 rfl) rfl (by first | decide | exact Nat.le_of_eq rfl) rfl at_174 rfl rfl ?_
          intro T105 h105 X105 qq105
          rw [show h105 = h102 from qq105] at X105
          refine own_iastore X105 (vs' := [(own_pk s0 s1 s2 ((sel.toUInt32 >>> ((2 : Int32) &&& 31).toUInt32).toInt32) pp), (own_pk s0 s1 s2 ((sel.toUInt32 >>> ((6 : Int32) &&& 31).toUInt32).toInt32) rr), (0 : Int32), (0 : Int32)]) (pc' := 178) A102 ge_ad98 rfl rfl at_177 rfl ?_
          intro T106 h106 X106 A106 W106
          have A107 := A103.other W106 ne_ad4_ad98
          have A108 := A104.other W106 ne_ad94_ad98
          refine own_dup X106 (pc' := 179) at_178 rfl rfl ?_
          refine own_iconst X106 (v := (2 : Int32)) (pc' := 180) at_179 rfl (by decide) ?_
          refine own_aload X106 (pc' := 182) at_180 rfl rfl rfl ?_
          refine own_iloadN X106 (pc' := 183) at_182 rfl rfl ?_
          refine own_bipush X106 (v := (10 : Int32)) (pc' := 185) at_183 rfl (by decide) ?_
          refine own_iushr X106 (r := ((sel.toUInt32 >>> ((10 : Int32) &&& 31).toUInt32).toInt32)) (pc' := 186) at_185 rfl rfl ?_
          refine own_iload X106 (pc' := 188) at_186 rfl rfl ?_
          refine own_iload X106 (pc' := 190) at_188 rfl rfl ?_
          refine own_ixor X106 (r := (pp ^^^ rr)) (pc' := 191) at_190 rfl rfl ?_
          refine own_callS X106 (W := 3) (argsL := [(.ref ad4), (.int ((sel.toUInt32 >>> ((10 : Int32) &&& 31).toUInt32).toInt32)), (.int (pp ^^^ rr))]) (rest := [(.int (2 : Int32)), (.ref ad98), (.ref ad98)]) (S' := [(.int (own_pk s0 s1 s2 ((sel.toUInt32 >>> ((10 : Int32) &&& 31).toUInt32).toInt32) (pp ^^^ rr))), (.int (2 : Int32)), (.ref ad98), (.ref ad98)]) (pc' := 194) (rm2 l Z a0 hw n0 ad4 ((sel.toUInt32 >>> ((10 : Int32) &&& 31).toUInt32).toInt32) (pp ^^^ rr) h106 X106.size s0 s1 s2 A107) (hw _ (List.mem_of_getElem? (i := 5) rfl)) (hw _ (List.mem_of_getElem? (i := 6) rfl)) (hw _ (List.mem_of_getElem? (i := 3) rfl)) (hw _ (List.mem_of_getElem? (i := 7) rfl)) (by decide) (by decide) (by decide) rfl rfl (by decide) (by decide) (lenOf pd_1 rfl) rfl (by first | decide | exact Nat.le_of_eq rfl) rfl at_191 rfl rfl ?_
          intro T109 h109 X109 qq109
          rw [show h109 = h106 from qq109] at X109
          refine own_iastore X109 (vs' := [(own_pk s0 s1 s2 ((sel.toUInt32 >>> ((2 : Int32) &&& 31).toUInt32).toInt32) pp), (own_pk s0 s1 s2 ((sel.toUInt32 >>> ((6 : Int32) &&& 31).toUInt32).toInt32) rr), (own_pk s0 s1 s2 ((sel.toUInt32 >>> ((10 : Int32) &&& 31).toUInt32).toInt32) (pp ^^^ rr)), (0 : Int32)]) (pc' := 195) A106 ge_ad98 rfl rfl at_194 rfl ?_
          intro T110 h110 X110 A110 W110
          have A111 := A107.other W110 ne_ad4_ad98
          have A112 := A108.other W110 ne_ad94_ad98
          refine own_dup X110 (pc' := 196) at_195 rfl rfl ?_
          refine own_iconst X110 (v := (3 : Int32)) (pc' := 197) at_196 rfl (by decide) ?_
          refine own_aload X110 (pc' := 199) at_197 rfl rfl rfl ?_
          refine own_iloadN X110 (pc' := 200) at_199 rfl rfl ?_
          refine own_bipush X110 (v := (14 : Int32)) (pc' := 202) at_200 rfl (by decide) ?_
          refine own_iushr X110 (r := ((sel.toUInt32 >>> ((14 : Int32) &&& 31).toUInt32).toInt32)) (pc' := 203) at_202 rfl rfl ?_
          refine own_iload X110 (pc' := 205) at_203 rfl rfl ?_
          refine own_iload X110 (pc' := 207) at_205 rfl rfl ?_
          refine own_iadd X110 (r := (pp + rr)) (pc' := 208) at_207 rfl rfl ?_
          refine own_callS X110 (W := 3) (argsL := [(.ref ad4), (.int ((sel.toUInt32 >>> ((14 : Int32) &&& 31).toUInt32).toInt32)), (.int (pp + rr))]) (rest := [(.int (3 : Int32)), (.ref ad98), (.ref ad98)]) (S' := [(.int (own_pk s0 s1 s2 ((sel.toUInt32 >>> ((14 : Int32) &&& 31).toUInt32).toInt32) (pp + rr))), (.int (3 : Int32)), (.ref ad98), (.ref ad98)]) (pc' := 211) (rm2 l Z a0 hw n0 ad4 ((sel.toUInt32 >>> ((14 : Int32) &&& 31).toUInt32).toInt32) (pp + rr) h110 X110.size s0 s1 s2 A111) (hw _ (List.mem_of_getElem? (i := 5) rfl)) (hw _ (List.mem_of_getElem? (i := 6) rfl)) (hw _ (List.mem_of_getElem? (i := 3) rfl)) (hw _ (List.mem_of_getElem? (i := 7) rfl)) (by decide) (by decide) (by decide) rfl rfl (by decide) (by decide) (lenOf pd_1 rfl) rfl (by first | decide | exact Nat.le_of_eq rfl) rfl at_208 rfl rfl ?_
          intro T113 h113 X113 qq113
          rw [show h113 = h110 from qq113] at X113
          refine own_iastore X113 (vs' := [(own_pk s0 s1 s2 ((sel.toUInt32 >>> ((2 : Int32) &&& 31).toUInt32).toInt32) pp), (own_pk s0 s1 s2 ((sel.toUInt32 >>> ((6 : Int32) &&& 31).toUInt32).toInt32) rr), (own_pk s0 s1 s2 ((sel.toUInt32 >>> ((10 : Int32) &&& 31).toUInt32).toInt32) (pp ^^^ rr)), (own_pk s0 s1 s2 ((sel.toUInt32 >>> ((14 : Int32) &&& 31).toUInt32).toInt32) (pp + rr))]) (pc' := 212) A110 ge_ad98 rfl rfl at_211 rfl ?_
          intro T114 h114 X114 A114 W114
          have A115 := A111.other W114 ne_ad4_ad98
          have A116 := A112.other W114 ne_ad94_ad98
          refine own_astore X114 (pc' := 214) (Ls' := #[.val (.int x0), .val (.int x1), .val (.int x2), .val (.int sel), .val (.int pp), .val (.int rr), .val (.ref ad4), .val (.int (1 : Int32)), .val (.ref ad94), .val (.ref ad98), .unset, .unset, .unset, .unset, .unset]) at_212 rfl rfl rfl ?_
          generalize (own_pk s0 s1 s2 ((sel.toUInt32 >>> ((2 : Int32) &&& 31).toUInt32).toInt32) pp) = p0 at *
          generalize (own_pk s0 s1 s2 ((sel.toUInt32 >>> ((6 : Int32) &&& 31).toUInt32).toInt32) rr) = p1 at *
          generalize (own_pk s0 s1 s2 ((sel.toUInt32 >>> ((10 : Int32) &&& 31).toUInt32).toInt32) (pp ^^^ rr)) = p2 at *
          generalize (own_pk s0 s1 s2 ((sel.toUInt32 >>> ((14 : Int32) &&& 31).toUInt32).toInt32) (pp + rr)) = p3 at *
          refine own_aload X114 (pc' := 216) at_214 rfl rfl rfl ?_
          refine own_iconst X114 (v := (0 : Int32)) (pc' := 217) at_216 rfl (by decide) ?_
          refine own_iconst X114 (v := (1 : Int32)) (pc' := 218) at_217 rfl (by decide) ?_
          refine own_callS X114 (W := 0) (argsL := [(.ref ad98), (.int (0 : Int32)), (.int (1 : Int32))]) (rest := []) (S' := []) (pc' := 221) (rm1_4_01 l Z a0 hw n0 ad98 h114 X114.size p0 p1 p2 p3 A114 ge_ad98) (hw _ (List.mem_of_getElem? (i := 1) rfl)) (hw _ (List.mem_of_getElem? (i := 2) rfl)) (hw _ (List.mem_of_getElem? (i := 3) rfl)) (hw _ (List.mem_of_getElem? (i := 4) rfl)) (by decide) (by decide) (by decide) rfl rfl (by decide) (by decide) (lenOf pd_0 rfl) rfl (by first | decide | exact Nat.le_of_eq rfl) rfl at_218 rfl rfl ?_
          intro T117 h117 X117 qq117
          obtain ⟨A118, K118⟩ := qq117
          have A119 := A115.keep K118 (ninS ne_ad4_ad98 nin0)
          have A120 := A116.keep K118 (ninS ne_ad94_ad98 nin0)
          refine own_aload X117 (pc' := 223) at_221 rfl rfl rfl ?_
          refine own_iconst X117 (v := (2 : Int32)) (pc' := 224) at_223 rfl (by decide) ?_
          refine own_iconst X117 (v := (3 : Int32)) (pc' := 225) at_224 rfl (by decide) ?_
          refine own_callS X117 (W := 0) (argsL := [(.ref ad98), (.int (2 : Int32)), (.int (3 : Int32))]) (rest := []) (S' := []) (pc' := 228) (rm1_4_23 l Z a0 hw n0 ad98 h117 X117.size (own_mn p0 p1) (own_mx p0 p1) p2 p3 A118 ge_ad98) (hw _ (List.mem_of_getElem? (i := 1) rfl)) (hw _ (List.mem_of_getElem? (i := 2) rfl)) (hw _ (List.mem_of_getElem? (i := 3) rfl)) (hw _ (List.mem_of_getElem? (i := 4) rfl)) (by decide) (by decide) (by decide) rfl rfl (by decide) (by decide) (lenOf pd_0 rfl) rfl (by first | decide | exact Nat.le_of_eq rfl) rfl at_225 rfl rfl ?_
          intro T121 h121 X121 qq121
          obtain ⟨A122, K122⟩ := qq121
          have A123 := A119.keep K122 (ninS ne_ad4_ad98 nin0)
          have A124 := A120.keep K122 (ninS ne_ad94_ad98 nin0)
          refine own_aload X121 (pc' := 230) at_228 rfl rfl rfl ?_
          refine own_iconst X121 (v := (0 : Int32)) (pc' := 231) at_230 rfl (by decide) ?_
          refine own_iconst X121 (v := (2 : Int32)) (pc' := 232) at_231 rfl (by decide) ?_
          refine own_callS X121 (W := 0) (argsL := [(.ref ad98), (.int (0 : Int32)), (.int (2 : Int32))]) (rest := []) (S' := []) (pc' := 235) (rm1_4_02 l Z a0 hw n0 ad98 h121 X121.size (own_mn p0 p1) (own_mx p0 p1) (own_mn p2 p3) (own_mx p2 p3) A122 ge_ad98) (hw _ (List.mem_of_getElem? (i := 1) rfl)) (hw _ (List.mem_of_getElem? (i := 2) rfl)) (hw _ (List.mem_of_getElem? (i := 3) rfl)) (hw _ (List.mem_of_getElem? (i := 4) rfl)) (by decide) (by decide) (by decide) rfl rfl (by decide) (by decide) (lenOf pd_0 rfl) rfl (by first | decide | exact Nat.le_of_eq rfl) rfl at_232 rfl rfl ?_
          intro T125 h125 X125 qq125
          obtain ⟨A126, K126⟩ := qq125
          have A127 := A123.keep K126 (ninS ne_ad4_ad98 nin0)
          have A128 := A124.keep K126 (ninS ne_ad94_ad98 nin0)
          refine own_aload X125 (pc' := 237) at_235 rfl rfl rfl ?_
          refine own_iconst X125 (v := (1 : Int32)) (pc' := 238) at_237 rfl (by decide) ?_
          refine own_iconst X125 (v := (3 : Int32)) (pc' := 239) at_238 rfl (by decide) ?_
          refine own_callS X125 (W := 0) (argsL := [(.ref ad98), (.int (1 : Int32)), (.int (3 : Int32))]) (rest := []) (S' := []) (pc' := 242) (rm1_4_13 l Z a0 hw n0 ad98 h125 X125.size (own_mn (own_mn p0 p1) (own_mn p2 p3)) (own_mx p0 p1) (own_mx (own_mn p0 p1) (own_mn p2 p3)) (own_mx p2 p3) A126 ge_ad98) (hw _ (List.mem_of_getElem? (i := 1) rfl)) (hw _ (List.mem_of_getElem? (i := 2) rfl)) (hw _ (List.mem_of_getElem? (i := 3) rfl)) (hw _ (List.mem_of_getElem? (i := 4) rfl)) (by decide) (by decide) (by decide) rfl rfl (by decide) (by decide) (lenOf pd_0 rfl) rfl (by first | decide | exact Nat.le_of_eq rfl) rfl at_239 rfl rfl ?_
          intro T129 h129 X129 qq129
          obtain ⟨A130, K130⟩ := qq129
          have A131 := A127.keep K130 (ninS ne_ad4_ad98 nin0)
          have A132 := A128.keep K130 (ninS ne_ad94_ad98 nin0)
          refine own_aload X129 (pc' := 244) at_242 rfl rfl rfl ?_
          refine own_iconst X129 (v := (1 : Int32)) (pc' := 245) at_244 rfl (by decide) ?_
          refine own_iconst X129 (v := (2 : Int32)) (pc' := 246) at_245 rfl (by decide) ?_
          refine own_callS X129 (W := 0) (argsL := [(.ref ad98), (.int (1 : Int32)), (.int (2 : Int32))]) (rest := []) (S' := []) (pc' := 249) (rm1_4_12 l Z a0 hw n0 ad98 h129 X129.size (own_mn (own_mn p0 p1) (own_mn p2 p3)) (own_mn (own_mx p0 p1) (own_mx p2 p3)) (own_mx (own_mn p0 p1) (own_mn p2 p3)) (own_mx (own_mx p0 p1) (own_mx p2 p3)) A130 ge_ad98) (hw _ (List.mem_of_getElem? (i := 1) rfl)) (hw _ (List.mem_of_getElem? (i := 2) rfl)) (hw _ (List.mem_of_getElem? (i := 3) rfl)) (hw _ (List.mem_of_getElem? (i := 4) rfl)) (by decide) (by decide) (by decide) rfl rfl (by decide) (by decide) (lenOf pd_0 rfl) rfl (by first | decide | exact Nat.le_of_eq rfl) rfl at_246 rfl rfl ?_
          intro T133 h133 X133 qq133
          obtain ⟨A134, K134⟩ := qq133
          have A135 := A131.keep K134 (ninS ne_ad4_ad98 nin0)
          have A136 := A132.keep K134 (ninS ne_ad94_ad98 nin0)
          obtain ⟨hq1, hq2, hq3⟩ := own_s4 p0 p1 p2 p3 _ _ _ _ rfl rfl rfl rfl
          generalize (own_mx (own_mx p0 p1) (own_mx p2 p3)) = u3 at *
          generalize (own_mx (own_mn (own_mx p0 p1) (own_mx p2 p3)) (own_mx (own_mn p0 p1) (own_mn p2 p3))) = u2 at *
          generalize (own_mn (own_mn (own_mx p0 p1) (own_mx p2 p3)) (own_mx (own_mn p0 p1) (own_mn p2 p3))) = u1 at *
          generalize (own_mn (own_mn p0 p1) (own_mn p2 p3)) = u0 at *
          refine own_new X133 (pc' := 252) (hw _ (List.mem_of_getElem? (i := 8) rfl)) (hw _ (List.mem_of_getElem? (i := 9) rfl)) (hw _ (List.mem_of_getElem? (i := 10) rfl)) at_249 rfl (by decide) (by decide) ?_
          intro T137 h137 ad137 X137 ge_ad137 g_ad137 E137 Ex137 D137
          have ne_ad4_ad137 : ad4 ≠ ad137 := Nat.ne_of_lt (Nat.lt_of_lt_of_le A135.lt (Nat.le_of_eq g_ad137.symm))
          have A138 := A135.ext E137
          have ne_ad94_ad137 : ad94 ≠ ad137 := Nat.ne_of_lt (Nat.lt_of_lt_of_le A136.lt (Nat.le_of_eq g_ad137.symm))
          have A139 := A136.ext E137
          have ne_ad98_ad137 : ad98 ≠ ad137 := Nat.ne_of_lt (Nat.lt_of_lt_of_le A134.lt (Nat.le_of_eq g_ad137.symm))
          have A140 := A134.ext E137
          have F137_documents : Fld Z h137 ad137 "com/example/quern/quern/index/DeletionsFile$Walk" "documents" "[I" .null := D137 (Or.inr (hw _ (List.mem_of_getElem? (i := 18) rfl))) (ty := (.array .int)) (by decide)
          have F137_next : Fld Z h137 ad137 "com/example/quern/quern/index/DeletionsFile$Walk" "next" "I" (.int (0 : Int32)) := D137 (Or.inl (hw _ (List.mem_of_getElem? (i := 25) rfl))) (ty := .int) (by decide)
          refine own_dup X137 (pc' := 253) at_252 rfl rfl ?_
          refine own_aload X137 (pc' := 255) at_253 rfl rfl rfl ?_
          refine own_callI X137 (W := 1) (a := ad137) (argsL := [(.ref ad94)]) (rest := [(.ref ad137)]) (S' := [(.ref ad137)]) (pc' := 258) (rm3 l Z a0 hw n0 ad137 ad94 h137 X137.size Ex137 F137_documents F137_next ge_ad137) rfl (hw _ (List.mem_of_getElem? (i := 11) rfl)) (hw _ (List.mem_of_getElem? (i := 12) rfl)) (hw _ (List.mem_of_getElem? (i := 10) rfl)) (hw _ (List.mem_of_getElem? (i := 13) rfl)) (by decide) (by decide) (by decide) rfl rfl (by decide) (by decide) (lenOf pd_2 rfl) rfl (by first | decide | exact Nat.le_of_eq rfl) rfl at_255 rfl rfl ?_
          intro T141 h141 X141 qq141
          obtain ⟨⟨Ex142, F142_d, F142_n⟩, K142⟩ := qq141
          have A143 := A138.keep K142 (ninS ne_ad4_ad137 nin0)
          have A144 := A139.keep K142 (ninS ne_ad94_ad137 nin0)
          have A145 := A140.keep K142 (ninS ne_ad98_ad137 nin0)
          have Ex146 := Ex137.keep K142
          refine own_astore X141 (pc' := 260) (Ls' := #[.val (.int x0), .val (.int x1), .val (.int x2), .val (.int sel), .val (.int pp), .val (.int rr), .val (.ref ad4), .val (.int (1 : Int32)), .val (.ref ad94), .val (.ref ad98), .val (.ref ad137), .unset, .unset, .unset, .unset]) at_258 rfl rfl rfl ?_
          refine own_aload X141 (pc' := 262) at_260 rfl rfl rfl ?_
          refine own_aload X141 (pc' := 264) at_262 rfl rfl rfl ?_
          refine own_iconst X141 (v := (0 : Int32)) (pc' := 265) at_264 rfl (by decide) ?_
          refine own_iaload X141 (v := u0) (pc' := 266) A145 rfl rfl at_265 rfl ?_
          refine own_callV X141 (W := 0) (a := ad137) (argsL := [(.int u0)]) (rest := []) (S' := [(.int (own_hd [s0] u0))]) (pc' := 269) (rm5_10 l Z a0 hw n0 ad137 u0 h141 X141.size ad94 s0 ⟨Ex142, F142_d, F142_n⟩ A144 ge_ad137 ne_ad94_ad137) Ex142 (hw _ (List.mem_of_getElem? (i := 19) rfl)) (hw _ (List.mem_of_getElem? (i := 20) rfl)) (hw _ (List.mem_of_getElem? (i := 22) rfl)) (hw _ (List.mem_of_getElem? (i := 21) rfl)) (hw _ (List.mem_of_getElem? (i := 10) rfl)) (hw _ (List.mem_of_getElem? (i := 23) rfl)) (by decide) (by decide) (by decide) rfl rfl (by decide) (by decide) (lenOf pd_3 rfl) rfl (by first | decide | exact Nat.le_of_eq rfl) rfl at_266 rfl rfl ?_
          intro T147 h147 X147 qq147
          obtain ⟨⟨Ex148, F148_d, F148_n⟩, K148⟩ := qq147
          have A149 := A143.keep K148 (ninS ne_ad4_ad137 nin0)
          have A150 := A144.keep K148 (ninS ne_ad94_ad137 nin0)
          have A151 := A145.keep K148 (ninS ne_ad98_ad137 nin0)
          have Ex152 := Ex142.keep K148
          refine own_istore X147 (pc' := 271) (Ls' := #[.val (.int x0), .val (.int x1), .val (.int x2), .val (.int sel), .val (.int pp), .val (.int rr), .val (.ref ad4), .val (.int (1 : Int32)), .val (.ref ad94), .val (.ref ad98), .val (.ref ad137), .val (.int (own_hd [s0] u0)), .unset, .unset, .unset]) at_269 rfl rfl ?_
          rcases own_nc_1_0 s0 u0 with e148_0 | ⟨e148_1, f148_1_0⟩
          · rw [e148_0] at F148_n
            refine own_aload X147 (pc' := 273) at_271 rfl rfl rfl ?_
            refine own_aload X147 (pc' := 275) at_273 rfl rfl rfl ?_
            refine own_iconst X147 (v := (1 : Int32)) (pc' := 276) at_275 rfl (by decide) ?_
            refine own_iaload X147 (v := u1) (pc' := 277) A151 rfl rfl at_276 rfl ?_
            refine own_callV X147 (W := 0) (a := ad137) (argsL := [(.int u1)]) (rest := []) (S' := [(.int (own_hd [s0] u1))]) (pc' := 280) (rm5_10 l Z a0 hw n0 ad137 u1 h147 X147.size ad94 s0 ⟨Ex148, F148_d, F148_n⟩ A150 ge_ad137 ne_ad94_ad137) Ex148 (hw _ (List.mem_of_getElem? (i := 19) rfl)) (hw _ (List.mem_of_getElem? (i := 20) rfl)) (hw _ (List.mem_of_getElem? (i := 22) rfl)) (hw _ (List.mem_of_getElem? (i := 21) rfl)) (hw _ (List.mem_of_getElem? (i := 10) rfl)) (hw _ (List.mem_of_getElem? (i := 23) rfl)) (by decide) (by decide) (by decide) rfl rfl (by decide) (by decide) (lenOf pd_3 rfl) rfl (by first | decide | exact Nat.le_of_eq rfl) rfl at_277 rfl rfl ?_
            intro T153 h153 X153 qq153
            obtain ⟨⟨Ex154, F154_d, F154_n⟩, K154⟩ := qq153
            have A155 := A149.keep K154 (ninS ne_ad4_ad137 nin0)
            have A156 := A150.keep K154 (ninS ne_ad94_ad137 nin0)
            have A157 := A151.keep K154 (ninS ne_ad98_ad137 nin0)
            have Ex158 := Ex148.keep K154
            refine own_istore X153 (pc' := 282) (Ls' := #[.val (.int x0), .val (.int x1), .val (.int x2), .val (.int sel), .val (.int pp), .val (.int rr), .val (.ref ad4), .val (.int (1 : Int32)), .val (.ref ad94), .val (.ref ad98), .val (.ref ad137), .val (.int (own_hd [s0] u0)), .val (.int (own_hd [s0] u1)), .unset, .unset]) at_280 rfl rfl ?_
            rcases own_nc_1_0 s0 u1 with e154_0 | ⟨e154_1, f154_1_0⟩
            · rw [e154_0] at F154_n
              refine own_aload X153 (pc' := 284) at_282 rfl rfl rfl ?_
              refine own_aload X153 (pc' := 286) at_284 rfl rfl rfl ?_
              refine own_iconst X153 (v := (2 : Int32)) (pc' := 287) at_286 rfl (by decide) ?_
              refine own_iaload X153 (v := u2) (pc' := 288) A157 rfl rfl at_287 rfl ?_
              refine own_callV X153 (W := 0) (a := ad137) (argsL := [(.int u2)]) (rest := []) (S' := [(.int (own_hd [s0] u2))]) (pc' := 291) (rm5_10 l Z a0 hw n0 ad137 u2 h153 X153.size ad94 s0 ⟨Ex154, F154_d, F154_n⟩ A156 ge_ad137 ne_ad94_ad137) Ex154 (hw _ (List.mem_of_getElem? (i := 19) rfl)) (hw _ (List.mem_of_getElem? (i := 20) rfl)) (hw _ (List.mem_of_getElem? (i := 22) rfl)) (hw _ (List.mem_of_getElem? (i := 21) rfl)) (hw _ (List.mem_of_getElem? (i := 10) rfl)) (hw _ (List.mem_of_getElem? (i := 23) rfl)) (by decide) (by decide) (by decide) rfl rfl (by decide) (by decide) (lenOf pd_3 rfl) rfl (by first | decide | exact Nat.le_of_eq rfl) rfl at_288 rfl rfl ?_
              intro T159 h159 X159 qq159
              obtain ⟨⟨Ex160, F160_d, F160_n⟩, K160⟩ := qq159
              have A161 := A155.keep K160 (ninS ne_ad4_ad137 nin0)
              have A162 := A156.keep K160 (ninS ne_ad94_ad137 nin0)
              have A163 := A157.keep K160 (ninS ne_ad98_ad137 nin0)
              have Ex164 := Ex154.keep K160
              refine own_istore X159 (pc' := 293) (Ls' := #[.val (.int x0), .val (.int x1), .val (.int x2), .val (.int sel), .val (.int pp), .val (.int rr), .val (.ref ad4), .val (.int (1 : Int32)), .val (.ref ad94), .val (.ref ad98), .val (.ref ad137), .val (.int (own_hd [s0] u0)), .val (.int (own_hd [s0] u1)), .val (.int (own_hd [s0] u2)), .unset]) at_291 rfl rfl ?_
              rcases own_nc_1_0 s0 u2 with e160_0 | ⟨e160_1, f160_1_0⟩
              · rw [e160_0] at F160_n
                refine own_aload X159 (pc' := 295) at_293 rfl rfl rfl ?_
                refine own_aload X159 (pc' := 297) at_295 rfl rfl rfl ?_
                refine own_iconst X159 (v := (3 : Int32)) (pc' := 298) at_297 rfl (by decide) ?_
                refine own_iaload X159 (v := u3) (pc' := 299) A163 rfl rfl at_298 rfl ?_
                refine own_callV X159 (W := 0) (a := ad137) (argsL := [(.int u3)]) (rest := []) (S' := [(.int (own_hd [s0] u3))]) (pc' := 302) (rm5_10 l Z a0 hw n0 ad137 u3 h159 X159.size ad94 s0 ⟨Ex160, F160_d, F160_n⟩ A162 ge_ad137 ne_ad94_ad137) Ex160 (hw _ (List.mem_of_getElem? (i := 19) rfl)) (hw _ (List.mem_of_getElem? (i := 20) rfl)) (hw _ (List.mem_of_getElem? (i := 22) rfl)) (hw _ (List.mem_of_getElem? (i := 21) rfl)) (hw _ (List.mem_of_getElem? (i := 10) rfl)) (hw _ (List.mem_of_getElem? (i := 23) rfl)) (by decide) (by decide) (by decide) rfl rfl (by decide) (by decide) (lenOf pd_3 rfl) rfl (by first | decide | exact Nat.le_of_eq rfl) rfl at_299 rfl rfl ?_
                intro T165 h165 X165 qq165
                obtain ⟨⟨Ex166, F166_d, F166_n⟩, K166⟩ := qq165
                have A167 := A161.keep K166 (ninS ne_ad4_ad137 nin0)
                have A168 := A162.keep K166 (ninS ne_ad94_ad137 nin0)
                have A169 := A163.keep K166 (ninS ne_ad98_ad137 nin0)
                have Ex170 := Ex160.keep K166
                refine own_istore X165 (pc' := 304) (Ls' := #[.val (.int x0), .val (.int x1), .val (.int x2), .val (.int sel), .val (.int pp), .val (.int rr), .val (.ref ad4), .val (.int (1 : Int32)), .val (.ref ad94), .val (.ref ad98), .val (.ref ad137), .val (.int (own_hd [s0] u0)), .val (.int (own_hd [s0] u1)), .val (.int (own_hd [s0] u2)), .val (.int (own_hd [s0] u3))]) at_302 rfl rfl ?_
                rcases own_nc_1_0 s0 u3 with e166_0 | ⟨e166_1, f166_1_0⟩
                · rw [e166_0] at F166_n
                  refine own_iload X165 (pc' := 306) at_304 rfl rfl ?_
                  refine own_aload X165 (pc' := 308) at_306 rfl rfl rfl ?_
                  refine own_iload X165 (pc' := 310) at_308 rfl rfl ?_
                  refine own_aload X165 (pc' := 312) at_310 rfl rfl rfl ?_
                  refine own_iconst X165 (v := (0 : Int32)) (pc' := 313) at_312 rfl (by decide) ?_
                  refine own_iaload X165 (v := u0) (pc' := 314) A169 rfl rfl at_313 rfl ?_
                  refine own_callS X165 (W := 1) (argsL := [(.ref ad4), (.int (1 : Int32)), (.int u0)]) (rest := [(.int (own_hd [s0] u0))]) (S' := [(.int (own_mb [s0] u0)), (.int (own_hd [s0] u0))]) (pc' := 317) (rm6_1 l Z a0 hw n0 ad4 u0 h165 X165.size s0 s1 s2 A167) (hw _ (List.mem_of_getElem? (i := 26) rfl)) (hw _ (List.mem_of_getElem? (i := 27) rfl)) (hw _ (List.mem_of_getElem? (i := 3) rfl)) (hw _ (List.mem_of_getElem? (i := 28) rfl)) (by decide) (by decide) (by decide) rfl rfl (by decide) (by decide) (lenOf pd_4 rfl) rfl (by first | decide | exact Nat.le_of_eq rfl) rfl at_314 rfl rfl ?_
                  intro T171 h171 X171 qq171
                  rw [show h171 = h165 from qq171] at X171
                  refine own_icmp_ne X171 (pct := 372) (pc' := 320) at_317 rfl (by decide) (by decide) (fun hc => absurd hc (fun q => q (own_hm_1_0 s0 s1 s2 u0 hs1 hs2 ))) (fun _ => ?_)
                  refine own_iload X171 (pc' := 322) at_320 rfl rfl ?_
                  refine own_aload X171 (pc' := 324) at_322 rfl rfl rfl ?_
                  refine own_iload X171 (pc' := 326) at_324 rfl rfl ?_
                  refine own_aload X171 (pc' := 328) at_326 rfl rfl rfl ?_
                  refine own_iconst X171 (v := (1 : Int32)) (pc' := 329) at_328 rfl (by decide) ?_
                  refine own_iaload X171 (v := u1) (pc' := 330) A169 rfl rfl at_329 rfl ?_
                  refine own_callS X171 (W := 1) (argsL := [(.ref ad4), (.int (1 : Int32)), (.int u1)]) (rest := [(.int (own_hd [s0] u1))]) (S' := [(.int (own_mb [s0] u1)), (.int (own_hd [s0] u1))]) (pc' := 333) (rm6_1 l Z a0 hw n0 ad4 u1 h165 X171.size s0 s1 s2 A167) (hw _ (List.mem_of_getElem? (i := 26) rfl)) (hw _ (List.mem_of_getElem? (i := 27) rfl)) (hw _ (List.mem_of_getElem? (i := 3) rfl)) (hw _ (List.mem_of_getElem? (i := 28) rfl)) (by decide) (by decide) (by decide) rfl rfl (by decide) (by decide) (lenOf pd_4 rfl) rfl (by first | decide | exact Nat.le_of_eq rfl) rfl at_330 rfl rfl ?_
                  intro T172 h172 X172 qq172
                  rw [show h172 = h165 from qq172] at X172
                  refine own_icmp_ne X172 (pct := 372) (pc' := 336) at_333 rfl (by decide) (by decide) (fun hc => absurd hc (fun q => q (own_hm_1_0 s0 s1 s2 u1 hs1 hs2 ))) (fun _ => ?_)
                  refine own_iload X172 (pc' := 338) at_336 rfl rfl ?_
                  refine own_aload X172 (pc' := 340) at_338 rfl rfl rfl ?_
                  refine own_iload X172 (pc' := 342) at_340 rfl rfl ?_
                  refine own_aload X172 (pc' := 344) at_342 rfl rfl rfl ?_
                  refine own_iconst X172 (v := (2 : Int32)) (pc' := 345) at_344 rfl (by decide) ?_
                  refine own_iaload X172 (v := u2) (pc' := 346) A169 rfl rfl at_345 rfl ?_
                  refine own_callS X172 (W := 1) (argsL := [(.ref ad4), (.int (1 : Int32)), (.int u2)]) (rest := [(.int (own_hd [s0] u2))]) (S' := [(.int (own_mb [s0] u2)), (.int (own_hd [s0] u2))]) (pc' := 349) (rm6_1 l Z a0 hw n0 ad4 u2 h165 X172.size s0 s1 s2 A167) (hw _ (List.mem_of_getElem? (i := 26) rfl)) (hw _ (List.mem_of_getElem? (i := 27) rfl)) (hw _ (List.mem_of_getElem? (i := 3) rfl)) (hw _ (List.mem_of_getElem? (i := 28) rfl)) (by decide) (by decide) (by decide) rfl rfl (by decide) (by decide) (lenOf pd_4 rfl) rfl (by first | decide | exact Nat.le_of_eq rfl) rfl at_346 rfl rfl ?_
                  intro T173 h173 X173 qq173
                  rw [show h173 = h165 from qq173] at X173
                  refine own_icmp_ne X173 (pct := 372) (pc' := 352) at_349 rfl (by decide) (by decide) (fun hc => absurd hc (fun q => q (own_hm_1_0 s0 s1 s2 u2 hs1 hs2 ))) (fun _ => ?_)
                  refine own_iload X173 (pc' := 354) at_352 rfl rfl ?_
                  refine own_aload X173 (pc' := 356) at_354 rfl rfl rfl ?_
                  refine own_iload X173 (pc' := 358) at_356 rfl rfl ?_
                  refine own_aload X173 (pc' := 360) at_358 rfl rfl rfl ?_
                  refine own_iconst X173 (v := (3 : Int32)) (pc' := 361) at_360 rfl (by decide) ?_
                  refine own_iaload X173 (v := u3) (pc' := 362) A169 rfl rfl at_361 rfl ?_
                  refine own_callS X173 (W := 1) (argsL := [(.ref ad4), (.int (1 : Int32)), (.int u3)]) (rest := [(.int (own_hd [s0] u3))]) (S' := [(.int (own_mb [s0] u3)), (.int (own_hd [s0] u3))]) (pc' := 365) (rm6_1 l Z a0 hw n0 ad4 u3 h165 X173.size s0 s1 s2 A167) (hw _ (List.mem_of_getElem? (i := 26) rfl)) (hw _ (List.mem_of_getElem? (i := 27) rfl)) (hw _ (List.mem_of_getElem? (i := 3) rfl)) (hw _ (List.mem_of_getElem? (i := 28) rfl)) (by decide) (by decide) (by decide) rfl rfl (by decide) (by decide) (lenOf pd_4 rfl) rfl (by first | decide | exact Nat.le_of_eq rfl) rfl at_362 rfl rfl ?_
                  intro T174 h174 X174 qq174
                  rw [show h174 = h165 from qq174] at X174
                  refine own_icmp_ne X174 (pct := 372) (pc' := 368) at_365 rfl (by decide) (by decide) (fun hc => absurd hc (fun q => q (own_hm_1_0 s0 s1 s2 u3 hs1 hs2 ))) (fun _ => ?_)
                  refine own_iconst X174 (v := (1 : Int32)) (pc' := 369) at_368 rfl (by decide) ?_
                  refine own_goto X174 (pc' := 373) at_369 (by decide) (by decide) ?_
                  subst hΦ
                  exact own_retZ X174 at_373 (by decide) (by decide) (by decide) rfl trivial
                · rw [e166_1] at F166_n
                  refine own_iload X165 (pc' := 306) at_304 rfl rfl ?_
                  refine own_aload X165 (pc' := 308) at_306 rfl rfl rfl ?_
                  refine own_iload X165 (pc' := 310) at_308 rfl rfl ?_
                  refine own_aload X165 (pc' := 312) at_310 rfl rfl rfl ?_
                  refine own_iconst X165 (v := (0 : Int32)) (pc' := 313) at_312 rfl (by decide) ?_
                  refine own_iaload X165 (v := u0) (pc' := 314) A169 rfl rfl at_313 rfl ?_
                  refine own_callS X165 (W := 1) (argsL := [(.ref ad4), (.int (1 : Int32)), (.int u0)]) (rest := [(.int (own_hd [s0] u0))]) (S' := [(.int (own_mb [s0] u0)), (.int (own_hd [s0] u0))]) (pc' := 317) (rm6_1 l Z a0 hw n0 ad4 u0 h165 X165.size s0 s1 s2 A167) (hw _ (List.mem_of_getElem? (i := 26) rfl)) (hw _ (List.mem_of_getElem? (i := 27) rfl)) (hw _ (List.mem_of_getElem? (i := 3) rfl)) (hw _ (List.mem_of_getElem? (i := 28) rfl)) (by decide) (by decide) (by decide) rfl rfl (by decide) (by decide) (lenOf pd_4 rfl) rfl (by first | decide | exact Nat.le_of_eq rfl) rfl at_314 rfl rfl ?_
                  intro T175 h175 X175 qq175
                  rw [show h175 = h165 from qq175] at X175
                  refine own_icmp_ne X175 (pct := 372) (pc' := 320) at_317 rfl (by decide) (by decide) (fun hc => absurd hc (fun q => q (own_hm_1_0 s0 s1 s2 u0 hs1 hs2 ))) (fun _ => ?_)
                  refine own_iload X175 (pc' := 322) at_320 rfl rfl ?_
                  refine own_aload X175 (pc' := 324) at_322 rfl rfl rfl ?_
                  refine own_iload X175 (pc' := 326) at_324 rfl rfl ?_
                  refine own_aload X175 (pc' := 328) at_326 rfl rfl rfl ?_
                  refine own_iconst X175 (v := (1 : Int32)) (pc' := 329) at_328 rfl (by decide) ?_
                  refine own_iaload X175 (v := u1) (pc' := 330) A169 rfl rfl at_329 rfl ?_
                  refine own_callS X175 (W := 1) (argsL := [(.ref ad4), (.int (1 : Int32)), (.int u1)]) (rest := [(.int (own_hd [s0] u1))]) (S' := [(.int (own_mb [s0] u1)), (.int (own_hd [s0] u1))]) (pc' := 333) (rm6_1 l Z a0 hw n0 ad4 u1 h165 X175.size s0 s1 s2 A167) (hw _ (List.mem_of_getElem? (i := 26) rfl)) (hw _ (List.mem_of_getElem? (i := 27) rfl)) (hw _ (List.mem_of_getElem? (i := 3) rfl)) (hw _ (List.mem_of_getElem? (i := 28) rfl)) (by decide) (by decide) (by decide) rfl rfl (by decide) (by decide) (lenOf pd_4 rfl) rfl (by first | decide | exact Nat.le_of_eq rfl) rfl at_330 rfl rfl ?_
                  intro T176 h176 X176 qq176
                  rw [show h176 = h165 from qq176] at X176
                  refine own_icmp_ne X176 (pct := 372) (pc' := 336) at_333 rfl (by decide) (by decide) (fun hc => absurd hc (fun q => q (own_hm_1_0 s0 s1 s2 u1 hs1 hs2 ))) (fun _ => ?_)
                  refine own_iload X176 (pc' := 338) at_336 rfl rfl ?_
                  refine own_aload X176 (pc' := 340) at_338 rfl rfl rfl ?_
                  refine own_iload X176 (pc' := 342) at_340 rfl rfl ?_
                  refine own_aload X176 (pc' := 344) at_342 rfl rfl rfl ?_
                  refine own_iconst X176 (v := (2 : Int32)) (pc' := 345) at_344 rfl (by decide) ?_
                  refine own_iaload X176 (v := u2) (pc' := 346) A169 rfl rfl at_345 rfl ?_
                  refine own_callS X176 (W := 1) (argsL := [(.ref ad4), (.int (1 : Int32)), (.int u2)]) (rest := [(.int (own_hd [s0] u2))]) (S' := [(.int (own_mb [s0] u2)), (.int (own_hd [s0] u2))]) (pc' := 349) (rm6_1 l Z a0 hw n0 ad4 u2 h165 X176.size s0 s1 s2 A167) (hw _ (List.mem_of_getElem? (i := 26) rfl)) (hw _ (List.mem_of_getElem? (i := 27) rfl)) (hw _ (List.mem_of_getElem? (i := 3) rfl)) (hw _ (List.mem_of_getElem? (i := 28) rfl)) (by decide) (by decide) (by decide) rfl rfl (by decide) (by decide) (lenOf pd_4 rfl) rfl (by first | decide | exact Nat.le_of_eq rfl) rfl at_346 rfl rfl ?_
                  intro T177 h177 X177 qq177
                  rw [show h177 = h165 from qq177] at X177
                  refine own_icmp_ne X177 (pct := 372) (pc' := 352) at_349 rfl (by decide) (by decide) (fun hc => absurd hc (fun q => q (own_hm_1_0 s0 s1 s2 u2 hs1 hs2 ))) (fun _ => ?_)
                  refine own_iload X177 (pc' := 354) at_352 rfl rfl ?_
                  refine own_aload X177 (pc' := 356) at_354 rfl rfl rfl ?_
                  refine own_iload X177 (pc' := 358) at_356 rfl rfl ?_
                  refine own_aload X177 (pc' := 360) at_358 rfl rfl rfl ?_
                  refine own_iconst X177 (v := (3 : Int32)) (pc' := 361) at_360 rfl (by decide) ?_
                  refine own_iaload X177 (v := u3) (pc' := 362) A169 rfl rfl at_361 rfl ?_
                  refine own_callS X177 (W := 1) (argsL := [(.ref ad4), (.int (1 : Int32)), (.int u3)]) (rest := [(.int (own_hd [s0] u3))]) (S' := [(.int (own_mb [s0] u3)), (.int (own_hd [s0] u3))]) (pc' := 365) (rm6_1 l Z a0 hw n0 ad4 u3 h165 X177.size s0 s1 s2 A167) (hw _ (List.mem_of_getElem? (i := 26) rfl)) (hw _ (List.mem_of_getElem? (i := 27) rfl)) (hw _ (List.mem_of_getElem? (i := 3) rfl)) (hw _ (List.mem_of_getElem? (i := 28) rfl)) (by decide) (by decide) (by decide) rfl rfl (by decide) (by decide) (lenOf pd_4 rfl) rfl (by first | decide | exact Nat.le_of_eq rfl) rfl at_362 rfl rfl ?_
                  intro T178 h178 X178 qq178
                  rw [show h178 = h165 from qq178] at X178
                  refine own_icmp_ne X178 (pct := 372) (pc' := 368) at_365 rfl (by decide) (by decide) (fun hc => absurd hc (fun q => q (own_hm_1_0 s0 s1 s2 u3 hs1 hs2 ))) (fun _ => ?_)
                  refine own_iconst X178 (v := (1 : Int32)) (pc' := 369) at_368 rfl (by decide) ?_
                  refine own_goto X178 (pc' := 373) at_369 (by decide) (by decide) ?_
                  subst hΦ
                  exact own_retZ X178 at_373 (by decide) (by decide) (by decide) rfl trivial
              · rw [e160_1] at F160_n
                refine own_aload X159 (pc' := 295) at_293 rfl rfl rfl ?_
                refine own_aload X159 (pc' := 297) at_295 rfl rfl rfl ?_
                refine own_iconst X159 (v := (3 : Int32)) (pc' := 298) at_297 rfl (by decide) ?_
                refine own_iaload X159 (v := u3) (pc' := 299) A163 rfl rfl at_298 rfl ?_
                refine own_callV X159 (W := 0) (a := ad137) (argsL := [(.int u3)]) (rest := []) (S' := [(.int (own_hd [] u3))]) (pc' := 302) (rm5_11 l Z a0 hw n0 ad137 u3 h159 X159.size ad94 s0 ⟨Ex160, F160_d, F160_n⟩ A162 ge_ad137 ne_ad94_ad137) Ex160 (hw _ (List.mem_of_getElem? (i := 19) rfl)) (hw _ (List.mem_of_getElem? (i := 20) rfl)) (hw _ (List.mem_of_getElem? (i := 22) rfl)) (hw _ (List.mem_of_getElem? (i := 21) rfl)) (hw _ (List.mem_of_getElem? (i := 10) rfl)) (hw _ (List.mem_of_getElem? (i := 23) rfl)) (by decide) (by decide) (by decide) rfl rfl (by decide) (by decide) (lenOf pd_3 rfl) rfl (by first | decide | exact Nat.le_of_eq rfl) rfl at_299 rfl rfl ?_
                intro T179 h179 X179 qq179
                obtain ⟨⟨Ex180, F180_d, F180_n⟩, K180⟩ := qq179
                have A181 := A161.keep K180 (ninS ne_ad4_ad137 nin0)
                have A182 := A162.keep K180 (ninS ne_ad94_ad137 nin0)
                have A183 := A163.keep K180 (ninS ne_ad98_ad137 nin0)
                have Ex184 := Ex160.keep K180
                refine own_istore X179 (pc' := 304) (Ls' := #[.val (.int x0), .val (.int x1), .val (.int x2), .val (.int sel), .val (.int pp), .val (.int rr), .val (.ref ad4), .val (.int (1 : Int32)), .val (.ref ad94), .val (.ref ad98), .val (.ref ad137), .val (.int (own_hd [s0] u0)), .val (.int (own_hd [s0] u1)), .val (.int (own_hd [s0] u2)), .val (.int (own_hd [] u3))]) at_302 rfl rfl ?_
                have e180_0 := own_nc_1_1 0 u3
                rw [e180_0] at F180_n
                refine own_iload X179 (pc' := 306) at_304 rfl rfl ?_
                refine own_aload X179 (pc' := 308) at_306 rfl rfl rfl ?_
                refine own_iload X179 (pc' := 310) at_308 rfl rfl ?_
                refine own_aload X179 (pc' := 312) at_310 rfl rfl rfl ?_
                refine own_iconst X179 (v := (0 : Int32)) (pc' := 313) at_312 rfl (by decide) ?_
                refine own_iaload X179 (v := u0) (pc' := 314) A183 rfl rfl at_313 rfl ?_
                refine own_callS X179 (W := 1) (argsL := [(.ref ad4), (.int (1 : Int32)), (.int u0)]) (rest := [(.int (own_hd [s0] u0))]) (S' := [(.int (own_mb [s0] u0)), (.int (own_hd [s0] u0))]) (pc' := 317) (rm6_1 l Z a0 hw n0 ad4 u0 h179 X179.size s0 s1 s2 A181) (hw _ (List.mem_of_getElem? (i := 26) rfl)) (hw _ (List.mem_of_getElem? (i := 27) rfl)) (hw _ (List.mem_of_getElem? (i := 3) rfl)) (hw _ (List.mem_of_getElem? (i := 28) rfl)) (by decide) (by decide) (by decide) rfl rfl (by decide) (by decide) (lenOf pd_4 rfl) rfl (by first | decide | exact Nat.le_of_eq rfl) rfl at_314 rfl rfl ?_
                intro T185 h185 X185 qq185
                rw [show h185 = h179 from qq185] at X185
                refine own_icmp_ne X185 (pct := 372) (pc' := 320) at_317 rfl (by decide) (by decide) (fun hc => absurd hc (fun q => q (own_hm_1_0 s0 s1 s2 u0 hs1 hs2 ))) (fun _ => ?_)
                refine own_iload X185 (pc' := 322) at_320 rfl rfl ?_
                refine own_aload X185 (pc' := 324) at_322 rfl rfl rfl ?_
                refine own_iload X185 (pc' := 326) at_324 rfl rfl ?_
                refine own_aload X185 (pc' := 328) at_326 rfl rfl rfl ?_
                refine own_iconst X185 (v := (1 : Int32)) (pc' := 329) at_328 rfl (by decide) ?_
                refine own_iaload X185 (v := u1) (pc' := 330) A183 rfl rfl at_329 rfl ?_
                refine own_callS X185 (W := 1) (argsL := [(.ref ad4), (.int (1 : Int32)), (.int u1)]) (rest := [(.int (own_hd [s0] u1))]) (S' := [(.int (own_mb [s0] u1)), (.int (own_hd [s0] u1))]) (pc' := 333) (rm6_1 l Z a0 hw n0 ad4 u1 h179 X185.size s0 s1 s2 A181) (hw _ (List.mem_of_getElem? (i := 26) rfl)) (hw _ (List.mem_of_getElem? (i := 27) rfl)) (hw _ (List.mem_of_getElem? (i := 3) rfl)) (hw _ (List.mem_of_getElem? (i := 28) rfl)) (by decide) (by decide) (by decide) rfl rfl (by decide) (by decide) (lenOf pd_4 rfl) rfl (by first | decide | exact Nat.le_of_eq rfl) rfl at_330 rfl rfl ?_
                intro T186 h186 X186 qq186
                rw [show h186 = h179 from qq186] at X186
                refine own_icmp_ne X186 (pct := 372) (pc' := 336) at_333 rfl (by decide) (by decide) (fun hc => absurd hc (fun q => q (own_hm_1_0 s0 s1 s2 u1 hs1 hs2 ))) (fun _ => ?_)
                refine own_iload X186 (pc' := 338) at_336 rfl rfl ?_
                refine own_aload X186 (pc' := 340) at_338 rfl rfl rfl ?_
                refine own_iload X186 (pc' := 342) at_340 rfl rfl ?_
                refine own_aload X186 (pc' := 344) at_342 rfl rfl rfl ?_
                refine own_iconst X186 (v := (2 : Int32)) (pc' := 345) at_344 rfl (by decide) ?_
                refine own_iaload X186 (v := u2) (pc' := 346) A183 rfl rfl at_345 rfl ?_
                refine own_callS X186 (W := 1) (argsL := [(.ref ad4), (.int (1 : Int32)), (.int u2)]) (rest := [(.int (own_hd [s0] u2))]) (S' := [(.int (own_mb [s0] u2)), (.int (own_hd [s0] u2))]) (pc' := 349) (rm6_1 l Z a0 hw n0 ad4 u2 h179 X186.size s0 s1 s2 A181) (hw _ (List.mem_of_getElem? (i := 26) rfl)) (hw _ (List.mem_of_getElem? (i := 27) rfl)) (hw _ (List.mem_of_getElem? (i := 3) rfl)) (hw _ (List.mem_of_getElem? (i := 28) rfl)) (by decide) (by decide) (by decide) rfl rfl (by decide) (by decide) (lenOf pd_4 rfl) rfl (by first | decide | exact Nat.le_of_eq rfl) rfl at_346 rfl rfl ?_
                intro T187 h187 X187 qq187
                rw [show h187 = h179 from qq187] at X187
                refine own_icmp_ne X187 (pct := 372) (pc' := 352) at_349 rfl (by decide) (by decide) (fun hc => absurd hc (fun q => q (own_hm_1_0 s0 s1 s2 u2 hs1 hs2 ))) (fun _ => ?_)
                refine own_iload X187 (pc' := 354) at_352 rfl rfl ?_
                refine own_aload X187 (pc' := 356) at_354 rfl rfl rfl ?_
                refine own_iload X187 (pc' := 358) at_356 rfl rfl ?_
                refine own_aload X187 (pc' := 360) at_358 rfl rfl rfl ?_
                refine own_iconst X187 (v := (3 : Int32)) (pc' := 361) at_360 rfl (by decide) ?_
                refine own_iaload X187 (v := u3) (pc' := 362) A183 rfl rfl at_361 rfl ?_
                refine own_callS X187 (W := 1) (argsL := [(.ref ad4), (.int (1 : Int32)), (.int u3)]) (rest := [(.int (own_hd [] u3))]) (S' := [(.int (own_mb [s0] u3)), (.int (own_hd [] u3))]) (pc' := 365) (rm6_1 l Z a0 hw n0 ad4 u3 h179 X187.size s0 s1 s2 A181) (hw _ (List.mem_of_getElem? (i := 26) rfl)) (hw _ (List.mem_of_getElem? (i := 27) rfl)) (hw _ (List.mem_of_getElem? (i := 3) rfl)) (hw _ (List.mem_of_getElem? (i := 28) rfl)) (by decide) (by decide) (by decide) rfl rfl (by decide) (by decide) (lenOf pd_4 rfl) rfl (by first | decide | exact Nat.le_of_eq rfl) rfl at_362 rfl rfl ?_
                intro T188 h188 X188 qq188
                rw [show h188 = h179 from qq188] at X188
                refine own_icmp_ne X188 (pct := 372) (pc' := 368) at_365 rfl (by decide) (by decide) (fun hc => absurd hc (fun q => q (own_hm_1_1 s0 s1 s2 u3 hs1 hs2 (by omega)))) (fun _ => ?_)
                refine own_iconst X188 (v := (1 : Int32)) (pc' := 369) at_368 rfl (by decide) ?_
                refine own_goto X188 (pc' := 373) at_369 (by decide) (by decide) ?_
                subst hΦ
                exact own_retZ X188 at_373 (by decide) (by decide) (by decide) rfl trivial
            · rw [e154_1] at F154_n
              refine own_aload X153 (pc' := 284) at_282 rfl rfl rfl ?_
              refine own_aload X153 (pc' := 286) at_284 rfl rfl rfl ?_
              refine own_iconst X153 (v := (2 : Int32)) (pc' := 287) at_286 rfl (by decide) ?_
              refine own_iaload X153 (v := u2) (pc' := 288) A157 rfl rfl at_287 rfl ?_
              refine own_callV X153 (W := 0) (a := ad137) (argsL := [(.int u2)]) (rest := []) (S' := [(.int (own_hd [] u2))]) (pc' := 291) (rm5_11 l Z a0 hw n0 ad137 u2 h153 X153.size ad94 s0 ⟨Ex154, F154_d, F154_n⟩ A156 ge_ad137 ne_ad94_ad137) Ex154 (hw _ (List.mem_of_getElem? (i := 19) rfl)) (hw _ (List.mem_of_getElem? (i := 20) rfl)) (hw _ (List.mem_of_getElem? (i := 22) rfl)) (hw _ (List.mem_of_getElem? (i := 21) rfl)) (hw _ (List.mem_of_getElem? (i := 10) rfl)) (hw _ (List.mem_of_getElem? (i := 23) rfl)) (by decide) (by decide) (by decide) rfl rfl (by decide) (by decide) (lenOf pd_3 rfl) rfl (by first | decide | exact Nat.le_of_eq rfl) rfl at_288 rfl rfl ?_
              intro T189 h189 X189 qq189
              obtain ⟨⟨Ex190, F190_d, F190_n⟩, K190⟩ := qq189
              have A191 := A155.keep K190 (ninS ne_ad4_ad137 nin0)
              have A192 := A156.keep K190 (ninS ne_ad94_ad137 nin0)
              have A193 := A157.keep K190 (ninS ne_ad98_ad137 nin0)
              have Ex194 := Ex154.keep K190
              refine own_istore X189 (pc' := 293) (Ls' := #[.val (.int x0), .val (.int x1), .val (.int x2), .val (.int sel), .val (.int pp), .val (.int rr), .val (.ref ad4), .val (.int (1 : Int32)), .val (.ref ad94), .val (.ref ad98), .val (.ref ad137), .val (.int (own_hd [s0] u0)), .val (.int (own_hd [s0] u1)), .val (.int (own_hd [] u2)), .unset]) at_291 rfl rfl ?_
              have e190_0 := own_nc_1_1 0 u2
              rw [e190_0] at F190_n
              refine own_aload X189 (pc' := 295) at_293 rfl rfl rfl ?_
              refine own_aload X189 (pc' := 297) at_295 rfl rfl rfl ?_
              refine own_iconst X189 (v := (3 : Int32)) (pc' := 298) at_297 rfl (by decide) ?_
              refine own_iaload X189 (v := u3) (pc' := 299) A193 rfl rfl at_298 rfl ?_
              refine own_callV X189 (W := 0) (a := ad137) (argsL := [(.int u3)]) (rest := []) (S' := [(.int (own_hd [] u3))]) (pc' := 302) (rm5_11 l Z a0 hw n0 ad137 u3 h189 X189.size ad94 s0 ⟨Ex190, F190_d, F190_n⟩ A192 ge_ad137 ne_ad94_ad137) Ex190 (hw _ (List.mem_of_getElem? (i := 19) rfl)) (hw _ (List.mem_of_getElem? (i := 20) rfl)) (hw _ (List.mem_of_getElem? (i := 22) rfl)) (hw _ (List.mem_of_getElem? (i := 21) rfl)) (hw _ (List.mem_of_getElem? (i := 10) rfl)) (hw _ (List.mem_of_getElem? (i := 23) rfl)) (by decide) (by decide) (by decide) rfl rfl (by decide) (by decide) (lenOf pd_3 rfl) rfl (by first | decide | exact Nat.le_of_eq rfl) rfl at_299 rfl rfl ?_
              intro T195 h195 X195 qq195
              obtain ⟨⟨Ex196, F196_d, F196_n⟩, K196⟩ := qq195
              have A197 := A191.keep K196 (ninS ne_ad4_ad137 nin0)
              have A198 := A192.keep K196 (ninS ne_ad94_ad137 nin0)
              have A199 := A193.keep K196 (ninS ne_ad98_ad137 nin0)
              have Ex200 := Ex190.keep K196
              refine own_istore X195 (pc' := 304) (Ls' := #[.val (.int x0), .val (.int x1), .val (.int x2), .val (.int sel), .val (.int pp), .val (.int rr), .val (.ref ad4), .val (.int (1 : Int32)), .val (.ref ad94), .val (.ref ad98), .val (.ref ad137), .val (.int (own_hd [s0] u0)), .val (.int (own_hd [s0] u1)), .val (.int (own_hd [] u2)), .val (.int (own_hd [] u3))]) at_302 rfl rfl ?_
              have e196_0 := own_nc_1_1 0 u3
              rw [e196_0] at F196_n
              refine own_iload X195 (pc' := 306) at_304 rfl rfl ?_
              refine own_aload X195 (pc' := 308) at_306 rfl rfl rfl ?_
              refine own_iload X195 (pc' := 310) at_308 rfl rfl ?_
              refine own_aload X195 (pc' := 312) at_310 rfl rfl rfl ?_
              refine own_iconst X195 (v := (0 : Int32)) (pc' := 313) at_312 rfl (by decide) ?_
              refine own_iaload X195 (v := u0) (pc' := 314) A199 rfl rfl at_313 rfl ?_
              refine own_callS X195 (W := 1) (argsL := [(.ref ad4), (.int (1 : Int32)), (.int u0)]) (rest := [(.int (own_hd [s0] u0))]) (S' := [(.int (own_mb [s0] u0)), (.int (own_hd [s0] u0))]) (pc' := 317) (rm6_1 l Z a0 hw n0 ad4 u0 h195 X195.size s0 s1 s2 A197) (hw _ (List.mem_of_getElem? (i := 26) rfl)) (hw _ (List.mem_of_getElem? (i := 27) rfl)) (hw _ (List.mem_of_getElem? (i := 3) rfl)) (hw _ (List.mem_of_getElem? (i := 28) rfl)) (by decide) (by decide) (by decide) rfl rfl (by decide) (by decide) (lenOf pd_4 rfl) rfl (by first | decide | exact Nat.le_of_eq rfl) rfl at_314 rfl rfl ?_
              intro T201 h201 X201 qq201
              rw [show h201 = h195 from qq201] at X201
              refine own_icmp_ne X201 (pct := 372) (pc' := 320) at_317 rfl (by decide) (by decide) (fun hc => absurd hc (fun q => q (own_hm_1_0 s0 s1 s2 u0 hs1 hs2 ))) (fun _ => ?_)
              refine own_iload X201 (pc' := 322) at_320 rfl rfl ?_
              refine own_aload X201 (pc' := 324) at_322 rfl rfl rfl ?_
              refine own_iload X201 (pc' := 326) at_324 rfl rfl ?_
              refine own_aload X201 (pc' := 328) at_326 rfl rfl rfl ?_
              refine own_iconst X201 (v := (1 : Int32)) (pc' := 329) at_328 rfl (by decide) ?_
              refine own_iaload X201 (v := u1) (pc' := 330) A199 rfl rfl at_329 rfl ?_
              refine own_callS X201 (W := 1) (argsL := [(.ref ad4), (.int (1 : Int32)), (.int u1)]) (rest := [(.int (own_hd [s0] u1))]) (S' := [(.int (own_mb [s0] u1)), (.int (own_hd [s0] u1))]) (pc' := 333) (rm6_1 l Z a0 hw n0 ad4 u1 h195 X201.size s0 s1 s2 A197) (hw _ (List.mem_of_getElem? (i := 26) rfl)) (hw _ (List.mem_of_getElem? (i := 27) rfl)) (hw _ (List.mem_of_getElem? (i := 3) rfl)) (hw _ (List.mem_of_getElem? (i := 28) rfl)) (by decide) (by decide) (by decide) rfl rfl (by decide) (by decide) (lenOf pd_4 rfl) rfl (by first | decide | exact Nat.le_of_eq rfl) rfl at_330 rfl rfl ?_
              intro T202 h202 X202 qq202
              rw [show h202 = h195 from qq202] at X202
              refine own_icmp_ne X202 (pct := 372) (pc' := 336) at_333 rfl (by decide) (by decide) (fun hc => absurd hc (fun q => q (own_hm_1_0 s0 s1 s2 u1 hs1 hs2 ))) (fun _ => ?_)
              refine own_iload X202 (pc' := 338) at_336 rfl rfl ?_
              refine own_aload X202 (pc' := 340) at_338 rfl rfl rfl ?_
              refine own_iload X202 (pc' := 342) at_340 rfl rfl ?_
              refine own_aload X202 (pc' := 344) at_342 rfl rfl rfl ?_
              refine own_iconst X202 (v := (2 : Int32)) (pc' := 345) at_344 rfl (by decide) ?_
              refine own_iaload X202 (v := u2) (pc' := 346) A199 rfl rfl at_345 rfl ?_
              refine own_callS X202 (W := 1) (argsL := [(.ref ad4), (.int (1 : Int32)), (.int u2)]) (rest := [(.int (own_hd [] u2))]) (S' := [(.int (own_mb [s0] u2)), (.int (own_hd [] u2))]) (pc' := 349) (rm6_1 l Z a0 hw n0 ad4 u2 h195 X202.size s0 s1 s2 A197) (hw _ (List.mem_of_getElem? (i := 26) rfl)) (hw _ (List.mem_of_getElem? (i := 27) rfl)) (hw _ (List.mem_of_getElem? (i := 3) rfl)) (hw _ (List.mem_of_getElem? (i := 28) rfl)) (by decide) (by decide) (by decide) rfl rfl (by decide) (by decide) (lenOf pd_4 rfl) rfl (by first | decide | exact Nat.le_of_eq rfl) rfl at_346 rfl rfl ?_
              intro T203 h203 X203 qq203
              rw [show h203 = h195 from qq203] at X203
              refine own_icmp_ne X203 (pct := 372) (pc' := 352) at_349 rfl (by decide) (by decide) (fun hc => absurd hc (fun q => q (own_hm_1_1 s0 s1 s2 u2 hs1 hs2 (by omega)))) (fun _ => ?_)
              refine own_iload X203 (pc' := 354) at_352 rfl rfl ?_
              refine own_aload X203 (pc' := 356) at_354 rfl rfl rfl ?_
              refine own_iload X203 (pc' := 358) at_356 rfl rfl ?_
              refine own_aload X203 (pc' := 360) at_358 rfl rfl rfl ?_
              refine own_iconst X203 (v := (3 : Int32)) (pc' := 361) at_360 rfl (by decide) ?_
              refine own_iaload X203 (v := u3) (pc' := 362) A199 rfl rfl at_361 rfl ?_
              refine own_callS X203 (W := 1) (argsL := [(.ref ad4), (.int (1 : Int32)), (.int u3)]) (rest := [(.int (own_hd [] u3))]) (S' := [(.int (own_mb [s0] u3)), (.int (own_hd [] u3))]) (pc' := 365) (rm6_1 l Z a0 hw n0 ad4 u3 h195 X203.size s0 s1 s2 A197) (hw _ (List.mem_of_getElem? (i := 26) rfl)) (hw _ (List.mem_of_getElem? (i := 27) rfl)) (hw _ (List.mem_of_getElem? (i := 3) rfl)) (hw _ (List.mem_of_getElem? (i := 28) rfl)) (by decide) (by decide) (by decide) rfl rfl (by decide) (by decide) (lenOf pd_4 rfl) rfl (by first | decide | exact Nat.le_of_eq rfl) rfl at_362 rfl rfl ?_
              intro T204 h204 X204 qq204
              rw [show h204 = h195 from qq204] at X204
              refine own_icmp_ne X204 (pct := 372) (pc' := 368) at_365 rfl (by decide) (by decide) (fun hc => absurd hc (fun q => q (own_hm_1_1 s0 s1 s2 u3 hs1 hs2 (by omega)))) (fun _ => ?_)
              refine own_iconst X204 (v := (1 : Int32)) (pc' := 369) at_368 rfl (by decide) ?_
              refine own_goto X204 (pc' := 373) at_369 (by decide) (by decide) ?_
              subst hΦ
              exact own_retZ X204 at_373 (by decide) (by decide) (by decide) rfl trivial
          · rw [e148_1] at F148_n
            refine own_aload X147 (pc' := 273) at_271 rfl rfl rfl ?_
            refine own_aload X147 (pc' := 275) at_273 rfl rfl rfl ?_
            refine own_iconst X147 (v := (1 : Int32)) (pc' := 276) at_275 rfl (by decide) ?_
            refine own_iaload X147 (v := u1) (pc' := 277) A151 rfl rfl at_276 rfl ?_
            refine own_callV X147 (W := 0) (a := ad137) (argsL := [(.int u1)]) (rest := []) (S' := [(.int (own_hd [] u1))]) (pc' := 280) (rm5_11 l Z a0 hw n0 ad137 u1 h147 X147.size ad94 s0 ⟨Ex148, F148_d, F148_n⟩ A150 ge_ad137 ne_ad94_ad137) Ex148 (hw _ (List.mem_of_getElem? (i := 19) rfl)) (hw _ (List.mem_of_getElem? (i := 20) rfl)) (hw _ (List.mem_of_getElem? (i := 22) rfl)) (hw _ (List.mem_of_getElem? (i := 21) rfl)) (hw _ (List.mem_of_getElem? (i := 10) rfl)) (hw _ (List.mem_of_getElem? (i := 23) rfl)) (by decide) (by decide) (by decide) rfl rfl (by decide) (by decide) (lenOf pd_3 rfl) rfl (by first | decide | exact Nat.le_of_eq rfl) rfl at_277 rfl rfl ?_
            intro T205 h205 X205 qq205
            obtain ⟨⟨Ex206, F206_d, F206_n⟩, K206⟩ := qq205
            have A207 := A149.keep K206 (ninS ne_ad4_ad137 nin0)
            have A208 := A150.keep K206 (ninS ne_ad94_ad137 nin0)
            have A209 := A151.keep K206 (ninS ne_ad98_ad137 nin0)
            have Ex210 := Ex148.keep K206
            refine own_istore X205 (pc' := 282) (Ls' := #[.val (.int x0), .val (.int x1), .val (.int x2), .val (.int sel), .val (.int pp), .val (.int rr), .val (.ref ad4), .val (.int (1 : Int32)), .val (.ref ad94), .val (.ref ad98), .val (.ref ad137), .val (.int (own_hd [s0] u0)), .val (.int (own_hd [] u1)), .unset, .unset]) at_280 rfl rfl ?_
            have e206_0 := own_nc_1_1 0 u1
            rw [e206_0] at F206_n
            refine own_aload X205 (pc' := 284) at_282 rfl rfl rfl ?_
            refine own_aload X205 (pc' := 286) at_284 rfl rfl rfl ?_
            refine own_iconst X205 (v := (2 : Int32)) (pc' := 287) at_286 rfl (by decide) ?_
            refine own_iaload X205 (v := u2) (pc' := 288) A209 rfl rfl at_287 rfl ?_
            refine own_callV X205 (W := 0) (a := ad137) (argsL := [(.int u2)]) (rest := []) (S' := [(.int (own_hd [] u2))]) (pc' := 291) (rm5_11 l Z a0 hw n0 ad137 u2 h205 X205.size ad94 s0 ⟨Ex206, F206_d, F206_n⟩ A208 ge_ad137 ne_ad94_ad137) Ex206 (hw _ (List.mem_of_getElem? (i := 19) rfl)) (hw _ (List.mem_of_getElem? (i := 20) rfl)) (hw _ (List.mem_of_getElem? (i := 22) rfl)) (hw _ (List.mem_of_getElem? (i := 21) rfl)) (hw _ (List.mem_of_getElem? (i := 10) rfl)) (hw _ (List.mem_of_getElem? (i := 23) rfl)) (by decide) (by decide) (by decide) rfl rfl (by decide) (by decide) (lenOf pd_3 rfl) rfl (by first | decide | exact Nat.le_of_eq rfl) rfl at_288 rfl rfl ?_
            intro T211 h211 X211 qq211
            obtain ⟨⟨Ex212, F212_d, F212_n⟩, K212⟩ := qq211
            have A213 := A207.keep K212 (ninS ne_ad4_ad137 nin0)
            have A214 := A208.keep K212 (ninS ne_ad94_ad137 nin0)
            have A215 := A209.keep K212 (ninS ne_ad98_ad137 nin0)
            have Ex216 := Ex206.keep K212
            refine own_istore X211 (pc' := 293) (Ls' := #[.val (.int x0), .val (.int x1), .val (.int x2), .val (.int sel), .val (.int pp), .val (.int rr), .val (.ref ad4), .val (.int (1 : Int32)), .val (.ref ad94), .val (.ref ad98), .val (.ref ad137), .val (.int (own_hd [s0] u0)), .val (.int (own_hd [] u1)), .val (.int (own_hd [] u2)), .unset]) at_291 rfl rfl ?_
            have e212_0 := own_nc_1_1 0 u2
            rw [e212_0] at F212_n
            refine own_aload X211 (pc' := 295) at_293 rfl rfl rfl ?_
            refine own_aload X211 (pc' := 297) at_295 rfl rfl rfl ?_
            refine own_iconst X211 (v := (3 : Int32)) (pc' := 298) at_297 rfl (by decide) ?_
            refine own_iaload X211 (v := u3) (pc' := 299) A215 rfl rfl at_298 rfl ?_
            refine own_callV X211 (W := 0) (a := ad137) (argsL := [(.int u3)]) (rest := []) (S' := [(.int (own_hd [] u3))]) (pc' := 302) (rm5_11 l Z a0 hw n0 ad137 u3 h211 X211.size ad94 s0 ⟨Ex212, F212_d, F212_n⟩ A214 ge_ad137 ne_ad94_ad137) Ex212 (hw _ (List.mem_of_getElem? (i := 19) rfl)) (hw _ (List.mem_of_getElem? (i := 20) rfl)) (hw _ (List.mem_of_getElem? (i := 22) rfl)) (hw _ (List.mem_of_getElem? (i := 21) rfl)) (hw _ (List.mem_of_getElem? (i := 10) rfl)) (hw _ (List.mem_of_getElem? (i := 23) rfl)) (by decide) (by decide) (by decide) rfl rfl (by decide) (by decide) (lenOf pd_3 rfl) rfl (by first | decide | exact Nat.le_of_eq rfl) rfl at_299 rfl rfl ?_
            intro T217 h217 X217 qq217
            obtain ⟨⟨Ex218, F218_d, F218_n⟩, K218⟩ := qq217
            have A219 := A213.keep K218 (ninS ne_ad4_ad137 nin0)
            have A220 := A214.keep K218 (ninS ne_ad94_ad137 nin0)
            have A221 := A215.keep K218 (ninS ne_ad98_ad137 nin0)
            have Ex222 := Ex212.keep K218
            refine own_istore X217 (pc' := 304) (Ls' := #[.val (.int x0), .val (.int x1), .val (.int x2), .val (.int sel), .val (.int pp), .val (.int rr), .val (.ref ad4), .val (.int (1 : Int32)), .val (.ref ad94), .val (.ref ad98), .val (.ref ad137), .val (.int (own_hd [s0] u0)), .val (.int (own_hd [] u1)), .val (.int (own_hd [] u2)), .val (.int (own_hd [] u3))]) at_302 rfl rfl ?_
            have e218_0 := own_nc_1_1 0 u3
            rw [e218_0] at F218_n
            refine own_iload X217 (pc' := 306) at_304 rfl rfl ?_
            refine own_aload X217 (pc' := 308) at_306 rfl rfl rfl ?_
            refine own_iload X217 (pc' := 310) at_308 rfl rfl ?_
            refine own_aload X217 (pc' := 312) at_310 rfl rfl rfl ?_
            refine own_iconst X217 (v := (0 : Int32)) (pc' := 313) at_312 rfl (by decide) ?_
            refine own_iaload X217 (v := u0) (pc' := 314) A221 rfl rfl at_313 rfl ?_
            refine own_callS X217 (W := 1) (argsL := [(.ref ad4), (.int (1 : Int32)), (.int u0)]) (rest := [(.int (own_hd [s0] u0))]) (S' := [(.int (own_mb [s0] u0)), (.int (own_hd [s0] u0))]) (pc' := 317) (rm6_1 l Z a0 hw n0 ad4 u0 h217 X217.size s0 s1 s2 A219) (hw _ (List.mem_of_getElem? (i := 26) rfl)) (hw _ (List.mem_of_getElem? (i := 27) rfl)) (hw _ (List.mem_of_getElem? (i := 3) rfl)) (hw _ (List.mem_of_getElem? (i := 28) rfl)) (by decide) (by decide) (by decide) rfl rfl (by decide) (by decide) (lenOf pd_4 rfl) rfl (by first | decide | exact Nat.le_of_eq rfl) rfl at_314 rfl rfl ?_
            intro T223 h223 X223 qq223
            rw [show h223 = h217 from qq223] at X223
            refine own_icmp_ne X223 (pct := 372) (pc' := 320) at_317 rfl (by decide) (by decide) (fun hc => absurd hc (fun q => q (own_hm_1_0 s0 s1 s2 u0 hs1 hs2 ))) (fun _ => ?_)
            refine own_iload X223 (pc' := 322) at_320 rfl rfl ?_
            refine own_aload X223 (pc' := 324) at_322 rfl rfl rfl ?_
            refine own_iload X223 (pc' := 326) at_324 rfl rfl ?_
            refine own_aload X223 (pc' := 328) at_326 rfl rfl rfl ?_
            refine own_iconst X223 (v := (1 : Int32)) (pc' := 329) at_328 rfl (by decide) ?_
            refine own_iaload X223 (v := u1) (pc' := 330) A221 rfl rfl at_329 rfl ?_
            refine own_callS X223 (W := 1) (argsL := [(.ref ad4), (.int (1 : Int32)), (.int u1)]) (rest := [(.int (own_hd [] u1))]) (S' := [(.int (own_mb [s0] u1)), (.int (own_hd [] u1))]) (pc' := 333) (rm6_1 l Z a0 hw n0 ad4 u1 h217 X223.size s0 s1 s2 A219) (hw _ (List.mem_of_getElem? (i := 26) rfl)) (hw _ (List.mem_of_getElem? (i := 27) rfl)) (hw _ (List.mem_of_getElem? (i := 3) rfl)) (hw _ (List.mem_of_getElem? (i := 28) rfl)) (by decide) (by decide) (by decide) rfl rfl (by decide) (by decide) (lenOf pd_4 rfl) rfl (by first | decide | exact Nat.le_of_eq rfl) rfl at_330 rfl rfl ?_
            intro T224 h224 X224 qq224
            rw [show h224 = h217 from qq224] at X224
            refine own_icmp_ne X224 (pct := 372) (pc' := 336) at_333 rfl (by decide) (by decide) (fun hc => absurd hc (fun q => q (own_hm_1_1 s0 s1 s2 u1 hs1 hs2 (by omega)))) (fun _ => ?_)
            refine own_iload X224 (pc' := 338) at_336 rfl rfl ?_
            refine own_aload X224 (pc' := 340) at_338 rfl rfl rfl ?_
            refine own_iload X224 (pc' := 342) at_340 rfl rfl ?_
            refine own_aload X224 (pc' := 344) at_342 rfl rfl rfl ?_
            refine own_iconst X224 (v := (2 : Int32)) (pc' := 345) at_344 rfl (by decide) ?_
            refine own_iaload X224 (v := u2) (pc' := 346) A221 rfl rfl at_345 rfl ?_
            refine own_callS X224 (W := 1) (argsL := [(.ref ad4), (.int (1 : Int32)), (.int u2)]) (rest := [(.int (own_hd [] u2))]) (S' := [(.int (own_mb [s0] u2)), (.int (own_hd [] u2))]) (pc' := 349) (rm6_1 l Z a0 hw n0 ad4 u2 h217 X224.size s0 s1 s2 A219) (hw _ (List.mem_of_getElem? (i := 26) rfl)) (hw _ (List.mem_of_getElem? (i := 27) rfl)) (hw _ (List.mem_of_getElem? (i := 3) rfl)) (hw _ (List.mem_of_getElem? (i := 28) rfl)) (by decide) (by decide) (by decide) rfl rfl (by decide) (by decide) (lenOf pd_4 rfl) rfl (by first | decide | exact Nat.le_of_eq rfl) rfl at_346 rfl rfl ?_
            intro T225 h225 X225 qq225
            rw [show h225 = h217 from qq225] at X225
            refine own_icmp_ne X225 (pct := 372) (pc' := 352) at_349 rfl (by decide) (by decide) (fun hc => absurd hc (fun q => q (own_hm_1_1 s0 s1 s2 u2 hs1 hs2 (by omega)))) (fun _ => ?_)
            refine own_iload X225 (pc' := 354) at_352 rfl rfl ?_
            refine own_aload X225 (pc' := 356) at_354 rfl rfl rfl ?_
            refine own_iload X225 (pc' := 358) at_356 rfl rfl ?_
            refine own_aload X225 (pc' := 360) at_358 rfl rfl rfl ?_
            refine own_iconst X225 (v := (3 : Int32)) (pc' := 361) at_360 rfl (by decide) ?_
            refine own_iaload X225 (v := u3) (pc' := 362) A221 rfl rfl at_361 rfl ?_
            refine own_callS X225 (W := 1) (argsL := [(.ref ad4), (.int (1 : Int32)), (.int u3)]) (rest := [(.int (own_hd [] u3))]) (S' := [(.int (own_mb [s0] u3)), (.int (own_hd [] u3))]) (pc' := 365) (rm6_1 l Z a0 hw n0 ad4 u3 h217 X225.size s0 s1 s2 A219) (hw _ (List.mem_of_getElem? (i := 26) rfl)) (hw _ (List.mem_of_getElem? (i := 27) rfl)) (hw _ (List.mem_of_getElem? (i := 3) rfl)) (hw _ (List.mem_of_getElem? (i := 28) rfl)) (by decide) (by decide) (by decide) rfl rfl (by decide) (by decide) (lenOf pd_4 rfl) rfl (by first | decide | exact Nat.le_of_eq rfl) rfl at_362 rfl rfl ?_
            intro T226 h226 X226 qq226
            rw [show h226 = h217 from qq226] at X226
            refine own_icmp_ne X226 (pct := 372) (pc' := 368) at_365 rfl (by decide) (by decide) (fun hc => absurd hc (fun q => q (own_hm_1_1 s0 s1 s2 u3 hs1 hs2 (by omega)))) (fun _ => ?_)
            refine own_iconst X226 (v := (1 : Int32)) (pc' := 369) at_368 rfl (by decide) ?_
            refine own_goto X226 (pc' := 373) at_369 (by decide) (by decide) ?_
            subst hΦ
            exact own_retZ X226 at_373 (by decide) (by decide) (by decide) rfl trivial
        · refine own_iload X12 (pc' := 62) at_60 rfl rfl ?_
          refine own_if_ne X12 (pct := 73) (pc' := 65) at_62 rfl (by decide) (by decide) (fun _ => ?_) (fun hc => absurd hc (by decide))
          refine own_iload X12 (pc' := 75) at_73 rfl rfl ?_
          refine own_iconst X12 (v := (1 : Int32)) (pc' := 76) at_75 rfl (by decide) ?_
          refine own_icmp_ne X12 (pct := 94) (pc' := 79) at_76 rfl (by decide) (by decide) (fun _ => ?_) (fun hc => absurd hc (by decide))
          refine own_iload X12 (pc' := 96) at_94 rfl rfl ?_
          refine own_iconst X12 (v := (2 : Int32)) (pc' := 97) at_96 rfl (by decide) ?_
          refine own_icmp_ne X12 (pct := 122) (pc' := 100) at_97 rfl (by decide) (by decide) (fun hc => absurd hc (by decide)) (fun _ => ?_)
          refine own_iconst X12 (v := (2 : Int32)) (pc' := 101) at_100 rfl (by decide) ?_
          refine own_newarr X12 (len := 2) (vs := [0, 0]) (pc' := 103) (hw _ (List.mem_of_getElem? (i := 0) rfl)) rfl (by decide) (by decide) rfl (by decide) at_101 rfl (by decide) (by decide) ?_
          intro T227 h227 ad227 X227 ge_ad227 g_ad227 E227 A227
          have ne_ad4_ad227 : ad4 ≠ ad227 := Nat.ne_of_lt (Nat.lt_of_lt_of_le A13.lt (Nat.le_of_eq g_ad227.symm))
          have A228 := A13.ext E227
          refine own_dup X227 (pc' := 104) at_103 rfl rfl ?_
          refine own_iconst X227 (v := (0 : Int32)) (pc' := 105) at_104 rfl (by decide) ?_
          refine own_aload X227 (pc' := 107) at_105 rfl rfl rfl ?_
          refine own_iconst X227 (v := (0 : Int32)) (pc' := 108) at_107 rfl (by decide) ?_
          refine own_iaload X227 (v := s0) (pc' := 109) A228 rfl rfl at_108 rfl ?_
          refine own_iastore X227 (vs' := [s0, (0 : Int32)]) (pc' := 110) A227 ge_ad227 rfl rfl at_109 rfl ?_
          intro T229 h229 X229 A229 W229
          have A230 := A228.other W229 ne_ad4_ad227
          refine own_dup X229 (pc' := 111) at_110 rfl rfl ?_
          refine own_iconst X229 (v := (1 : Int32)) (pc' := 112) at_111 rfl (by decide) ?_
          refine own_aload X229 (pc' := 114) at_112 rfl rfl rfl ?_
          refine own_iconst X229 (v := (1 : Int32)) (pc' := 115) at_114 rfl (by decide) ?_
          refine own_iaload X229 (v := s1) (pc' := 116) A230 rfl rfl at_115 rfl ?_
          refine own_iastore X229 (vs' := [s0, s1]) (pc' := 117) A229 ge_ad227 rfl rfl at_116 rfl ?_
          intro T231 h231 X231 A231 W231
          have A232 := A230.other W231 ne_ad4_ad227
          refine own_astore X231 (pc' := 119) (Ls' := #[.val (.int x0), .val (.int x1), .val (.int x2), .val (.int sel), .val (.int pp), .val (.int rr), .val (.ref ad4), .val (.int (2 : Int32)), .val (.ref ad227), .unset, .unset, .unset, .unset, .unset, .unset]) at_117 rfl rfl rfl ?_
          refine own_goto X231 (pc' := 148) at_119 (by decide) (by decide) ?_
          refine own_iconst X231 (v := (4 : Int32)) (pc' := 149) at_148 rfl (by decide) ?_
          refine own_newarr X231 (len := 4) (vs := [0, 0, 0, 0]) (pc' := 151) (hw _ (List.mem_of_getElem? (i := 0) rfl)) rfl (by decide) (by decide) rfl (by decide) at_149 rfl (by decide) (by decide) ?_
          intro T233 h233 ad233 X233 ge_ad233 g_ad233 E233 A233
          have ne_ad4_ad233 : ad4 ≠ ad233 := Nat.ne_of_lt (Nat.lt_of_lt_of_le A232.lt (Nat.le_of_eq g_ad233.symm))
          have A234 := A232.ext E233
          have ne_ad227_ad233 : ad227 ≠ ad233 := Nat.ne_of_lt (Nat.lt_of_lt_of_le A231.lt (Nat.le_of_eq g_ad233.symm))
          have A235 := A231.ext E233
          refine own_dup X233 (pc' := 152) at_151 rfl rfl ?_
          refine own_iconst X233 (v := (0 : Int32)) (pc' := 153) at_152 rfl (by decide) ?_
          refine own_aload X233 (pc' := 155) at_153 rfl rfl rfl ?_
          refine own_iloadN X233 (pc' := 156) at_155 rfl rfl ?_
          refine own_iconst X233 (v := (2 : Int32)) (pc' := 157) at_156 rfl (by decide) ?_
          refine own_iushr X233 (r := ((sel.toUInt32 >>> ((2 : Int32) &&& 31).toUInt32).toInt32)) (pc' := 158) at_157 rfl rfl ?_
          refine own_iload X233 (pc' := 160) at_158 rfl rfl ?_
          refine own_callS X233 (W := 3) (argsL := [(.ref ad4), (.int ((sel.toUInt32 >>> ((2 : Int32) &&& 31).toUInt32).toInt32)), (.int pp)]) (rest := [(.int (0 : Int32)), (.ref ad233), (.ref ad233)]) (S' := [(.int (own_pk s0 s1 s2 ((sel.toUInt32 >>> ((2 : Int32) &&& 31).toUInt32).toInt32) pp)), (.int (0 : Int32)), (.ref ad233), (.ref ad233)]) (pc' := 163) (rm2 l Z a0 hw n0 ad4 ((sel.toUInt32 >>> ((2 : Int32) &&& 31).toUInt32).toInt32) pp h233 X233.size s0 s1 s2 A234) (hw _ (List.mem_of_getElem? (i := 5) rfl)) (hw _ (List.mem_of_getElem? (i := 6) rfl)) (hw _ (List.mem_of_getElem? (i := 3) rfl)) (hw _ (List.mem_of_getElem? (i := 7) rfl)) (by decide) (by decide) (by decide) rfl rfl (by decide) (by decide) (lenOf pd_1 rfl) rfl (by first | decide | exact Nat.le_of_eq rfl) rfl at_160 rfl rfl ?_
          intro T236 h236 X236 qq236
          rw [show h236 = h233 from qq236] at X236
          refine own_iastore X236 (vs' := [(own_pk s0 s1 s2 ((sel.toUInt32 >>> ((2 : Int32) &&& 31).toUInt32).toInt32) pp), (0 : Int32), (0 : Int32), (0 : Int32)]) (pc' := 164) A233 ge_ad233 rfl rfl at_163 rfl ?_
          intro T237 h237 X237 A237 W237
          have A238 := A234.other W237 ne_ad4_ad233
          have A239 := A235.other W237 ne_ad227_ad233
          refine own_dup X237 (pc' := 165) at_164 rfl rfl ?_
          refine own_iconst X237 (v := (1 : Int32)) (pc' := 166) at_165 rfl (by decide) ?_
          refine own_aload X237 (pc' := 168) at_166 rfl rfl rfl ?_
          refine own_iloadN X237 (pc' := 169) at_168 rfl rfl ?_
          refine own_bipush X237 (v := (6 : Int32)) (pc' := 171) at_169 rfl (by decide) ?_
          refine own_iushr X237 (r := ((sel.toUInt32 >>> ((6 : Int32) &&& 31).toUInt32).toInt32)) (pc' := 172) at_171 rfl rfl ?_
          refine own_iload X237 (pc' := 174) at_172 rfl rfl ?_
          refine own_callS X237 (W := 3) (argsL := [(.ref ad4), (.int ((sel.toUInt32 >>> ((6 : Int32) &&& 31).toUInt32).toInt32)), (.int rr)]) (rest := [(.int (1 : Int32)), (.ref ad233), (.ref ad233)]) (S' := [(.int (own_pk s0 s1 s2 ((sel.toUInt32 >>> ((6 : Int32) &&& 31).toUInt32).toInt32) rr)), (.int (1 : Int32)), (.ref ad233), (.ref ad233)]) (pc' := 177) (rm2 l Z a0 hw n0 ad4 ((sel.toUInt32 >>> ((6 : Int32) &&& 31).toUInt32).toInt32) rr h237 X237.size s0 s1 s2 A238) (hw _ (List.mem_of_getElem? (i := 5) rfl)) (hw _ (List.mem_of_getElem? (i := 6) rfl)) (hw _ (List.mem_of_getElem? (i := 3) rfl)) (hw _ (List.mem_of_getElem? (i := 7) rfl)) (by decide) (by decide) (by decide) rfl rfl (by decide) (by decide) (lenOf pd_1 rfl) rfl (by first | decide | exact Nat.le_of_eq rfl) rfl at_174 rfl rfl ?_
          intro T240 h240 X240 qq240
          rw [show h240 = h237 from qq240] at X240
          refine own_iastore X240 (vs' := [(own_pk s0 s1 s2 ((sel.toUInt32 >>> ((2 : Int32) &&& 31).toUInt32).toInt32) pp), (own_pk s0 s1 s2 ((sel.toUInt32 >>> ((6 : Int32) &&& 31).toUInt32).toInt32) rr), (0 : Int32), (0 : Int32)]) (pc' := 178) A237 ge_ad233 rfl rfl at_177 rfl ?_
          intro T241 h241 X241 A241 W241
          have A242 := A238.other W241 ne_ad4_ad233
          have A243 := A239.other W241 ne_ad227_ad233
          refine own_dup X241 (pc' := 179) at_178 rfl rfl ?_
          refine own_iconst X241 (v := (2 : Int32)) (pc' := 180) at_179 rfl (by decide) ?_
          refine own_aload X241 (pc' := 182) at_180 rfl rfl rfl ?_
          refine own_iloadN X241 (pc' := 183) at_182 rfl rfl ?_
          refine own_bipush X241 (v := (10 : Int32)) (pc' := 185) at_183 rfl (by decide) ?_
          refine own_iushr X241 (r := ((sel.toUInt32 >>> ((10 : Int32) &&& 31).toUInt32).toInt32)) (pc' := 186) at_185 rfl rfl ?_
          refine own_iload X241 (pc' := 188) at_186 rfl rfl ?_
          refine own_iload X241 (pc' := 190) at_188 rfl rfl ?_
          refine own_ixor X241 (r := (pp ^^^ rr)) (pc' := 191) at_190 rfl rfl ?_
          refine own_callS X241 (W := 3) (argsL := [(.ref ad4), (.int ((sel.toUInt32 >>> ((10 : Int32) &&& 31).toUInt32).toInt32)), (.int (pp ^^^ rr))]) (rest := [(.int (2 : Int32)), (.ref ad233), (.ref ad233)]) (S' := [(.int (own_pk s0 s1 s2 ((sel.toUInt32 >>> ((10 : Int32) &&& 31).toUInt32).toInt32) (pp ^^^ rr))), (.int (2 : Int32)), (.ref ad233), (.ref ad233)]) (pc' := 194) (rm2 l Z a0 hw n0 ad4 ((sel.toUInt32 >>> ((10 : Int32) &&& 31).toUInt32).toInt32) (pp ^^^ rr) h241 X241.size s0 s1 s2 A242) (hw _ (List.mem_of_getElem? (i := 5) rfl)) (hw _ (List.mem_of_getElem? (i := 6) rfl)) (hw _ (List.mem_of_getElem? (i := 3) rfl)) (hw _ (List.mem_of_getElem? (i := 7) rfl)) (by decide) (by decide) (by decide) rfl rfl (by decide) (by decide) (lenOf pd_1 rfl) rfl (by first | decide | exact Nat.le_of_eq rfl) rfl at_191 rfl rfl ?_
          intro T244 h244 X244 qq244
          rw [show h244 = h241 from qq244] at X244
          refine own_iastore X244 (vs' := [(own_pk s0 s1 s2 ((sel.toUInt32 >>> ((2 : Int32) &&& 31).toUInt32).toInt32) pp), (own_pk s0 s1 s2 ((sel.toUInt32 >>> ((6 : Int32) &&& 31).toUInt32).toInt32) rr), (own_pk s0 s1 s2 ((sel.toUInt32 >>> ((10 : Int32) &&& 31).toUInt32).toInt32) (pp ^^^ rr)), (0 : Int32)]) (pc' := 195) A241 ge_ad233 rfl rfl at_194 rfl ?_
          intro T245 h245 X245 A245 W245
          have A246 := A242.other W245 ne_ad4_ad233
          have A247 := A243.other W245 ne_ad227_ad233
          refine own_dup X245 (pc' := 196) at_195 rfl rfl ?_
          refine own_iconst X245 (v := (3 : Int32)) (pc' := 197) at_196 rfl (by decide) ?_
          refine own_aload X245 (pc' := 199) at_197 rfl rfl rfl ?_
          refine own_iloadN X245 (pc' := 200) at_199 rfl rfl ?_
          refine own_bipush X245 (v := (14 : Int32)) (pc' := 202) at_200 rfl (by decide) ?_
          refine own_iushr X245 (r := ((sel.toUInt32 >>> ((14 : Int32) &&& 31).toUInt32).toInt32)) (pc' := 203) at_202 rfl rfl ?_
          refine own_iload X245 (pc' := 205) at_203 rfl rfl ?_
          refine own_iload X245 (pc' := 207) at_205 rfl rfl ?_
          refine own_iadd X245 (r := (pp + rr)) (pc' := 208) at_207 rfl rfl ?_
          refine own_callS X245 (W := 3) (argsL := [(.ref ad4), (.int ((sel.toUInt32 >>> ((14 : Int32) &&& 31).toUInt32).toInt32)), (.int (pp + rr))]) (rest := [(.int (3 : Int32)), (.ref ad233), (.ref ad233)]) (S' := [(.int (own_pk s0 s1 s2 ((sel.toUInt32 >>> ((14 : Int32) &&& 31).toUInt32).toInt32) (pp + rr))), (.int (3 : Int32)), (.ref ad233), (.ref ad233)]) (pc' := 211) (rm2 l Z a0 hw n0 ad4 ((sel.toUInt32 >>> ((14 : Int32) &&& 31).toUInt32).toInt32) (pp + rr) h245 X245.size s0 s1 s2 A246) (hw _ (List.mem_of_getElem? (i := 5) rfl)) (hw _ (List.mem_of_getElem? (i := 6) rfl)) (hw _ (List.mem_of_getElem? (i := 3) rfl)) (hw _ (List.mem_of_getElem? (i := 7) rfl)) (by decide) (by decide) (by decide) rfl rfl (by decide) (by decide) (lenOf pd_1 rfl) rfl (by first | decide | exact Nat.le_of_eq rfl) rfl at_208 rfl rfl ?_
          intro T248 h248 X248 qq248
          rw [show h248 = h245 from qq248] at X248
          refine own_iastore X248 (vs' := [(own_pk s0 s1 s2 ((sel.toUInt32 >>> ((2 : Int32) &&& 31).toUInt32).toInt32) pp), (own_pk s0 s1 s2 ((sel.toUInt32 >>> ((6 : Int32) &&& 31).toUInt32).toInt32) rr), (own_pk s0 s1 s2 ((sel.toUInt32 >>> ((10 : Int32) &&& 31).toUInt32).toInt32) (pp ^^^ rr)), (own_pk s0 s1 s2 ((sel.toUInt32 >>> ((14 : Int32) &&& 31).toUInt32).toInt32) (pp + rr))]) (pc' := 212) A245 ge_ad233 rfl rfl at_211 rfl ?_
          intro T249 h249 X249 A249 W249
          have A250 := A246.other W249 ne_ad4_ad233
          have A251 := A247.other W249 ne_ad227_ad233
          refine own_astore X249 (pc' := 214) (Ls' := #[.val (.int x0), .val (.int x1), .val (.int x2), .val (.int sel), .val (.int pp), .val (.int rr), .val (.ref ad4), .val (.int (2 : Int32)), .val (.ref ad227), .val (.ref ad233), .unset, .unset, .unset, .unset, .unset]) at_212 rfl rfl rfl ?_
          generalize (own_pk s0 s1 s2 ((sel.toUInt32 >>> ((2 : Int32) &&& 31).toUInt32).toInt32) pp) = p0 at *
          generalize (own_pk s0 s1 s2 ((sel.toUInt32 >>> ((6 : Int32) &&& 31).toUInt32).toInt32) rr) = p1 at *
          generalize (own_pk s0 s1 s2 ((sel.toUInt32 >>> ((10 : Int32) &&& 31).toUInt32).toInt32) (pp ^^^ rr)) = p2 at *
          generalize (own_pk s0 s1 s2 ((sel.toUInt32 >>> ((14 : Int32) &&& 31).toUInt32).toInt32) (pp + rr)) = p3 at *
          refine own_aload X249 (pc' := 216) at_214 rfl rfl rfl ?_
          refine own_iconst X249 (v := (0 : Int32)) (pc' := 217) at_216 rfl (by decide) ?_
          refine own_iconst X249 (v := (1 : Int32)) (pc' := 218) at_217 rfl (by decide) ?_
          refine own_callS X249 (W := 0) (argsL := [(.ref ad233), (.int (0 : Int32)), (.int (1 : Int32))]) (rest := []) (S' := []) (pc' := 221) (rm1_4_01 l Z a0 hw n0 ad233 h249 X249.size p0 p1 p2 p3 A249 ge_ad233) (hw _ (List.mem_of_getElem? (i := 1) rfl)) (hw _ (List.mem_of_getElem? (i := 2) rfl)) (hw _ (List.mem_of_getElem? (i := 3) rfl)) (hw _ (List.mem_of_getElem? (i := 4) rfl)) (by decide) (by decide) (by decide) rfl rfl (by decide) (by decide) (lenOf pd_0 rfl) rfl (by first | decide | exact Nat.le_of_eq rfl) rfl at_218 rfl rfl ?_
          intro T252 h252 X252 qq252
          obtain ⟨A253, K253⟩ := qq252
          have A254 := A250.keep K253 (ninS ne_ad4_ad233 nin0)
          have A255 := A251.keep K253 (ninS ne_ad227_ad233 nin0)
          refine own_aload X252 (pc' := 223) at_221 rfl rfl rfl ?_
          refine own_iconst X252 (v := (2 : Int32)) (pc' := 224) at_223 rfl (by decide) ?_
          refine own_iconst X252 (v := (3 : Int32)) (pc' := 225) at_224 rfl (by decide) ?_
          refine own_callS X252 (W := 0) (argsL := [(.ref ad233), (.int (2 : Int32)), (.int (3 : Int32))]) (rest := []) (S' := []) (pc' := 228) (rm1_4_23 l Z a0 hw n0 ad233 h252 X252.size (own_mn p0 p1) (own_mx p0 p1) p2 p3 A253 ge_ad233) (hw _ (List.mem_of_getElem? (i := 1) rfl)) (hw _ (List.mem_of_getElem? (i := 2) rfl)) (hw _ (List.mem_of_getElem? (i := 3) rfl)) (hw _ (List.mem_of_getElem? (i := 4) rfl)) (by decide) (by decide) (by decide) rfl rfl (by decide) (by decide) (lenOf pd_0 rfl) rfl (by first | decide | exact Nat.le_of_eq rfl) rfl at_225 rfl rfl ?_
          intro T256 h256 X256 qq256
          obtain ⟨A257, K257⟩ := qq256
          have A258 := A254.keep K257 (ninS ne_ad4_ad233 nin0)
          have A259 := A255.keep K257 (ninS ne_ad227_ad233 nin0)
          refine own_aload X256 (pc' := 230) at_228 rfl rfl rfl ?_
          refine own_iconst X256 (v := (0 : Int32)) (pc' := 231) at_230 rfl (by decide) ?_
          refine own_iconst X256 (v := (2 : Int32)) (pc' := 232) at_231 rfl (by decide) ?_
          refine own_callS X256 (W := 0) (argsL := [(.ref ad233), (.int (0 : Int32)), (.int (2 : Int32))]) (rest := []) (S' := []) (pc' := 235) (rm1_4_02 l Z a0 hw n0 ad233 h256 X256.size (own_mn p0 p1) (own_mx p0 p1) (own_mn p2 p3) (own_mx p2 p3) A257 ge_ad233) (hw _ (List.mem_of_getElem? (i := 1) rfl)) (hw _ (List.mem_of_getElem? (i := 2) rfl)) (hw _ (List.mem_of_getElem? (i := 3) rfl)) (hw _ (List.mem_of_getElem? (i := 4) rfl)) (by decide) (by decide) (by decide) rfl rfl (by decide) (by decide) (lenOf pd_0 rfl) rfl (by first | decide | exact Nat.le_of_eq rfl) rfl at_232 rfl rfl ?_
          intro T260 h260 X260 qq260
          obtain ⟨A261, K261⟩ := qq260
          have A262 := A258.keep K261 (ninS ne_ad4_ad233 nin0)
          have A263 := A259.keep K261 (ninS ne_ad227_ad233 nin0)
          refine own_aload X260 (pc' := 237) at_235 rfl rfl rfl ?_
          refine own_iconst X260 (v := (1 : Int32)) (pc' := 238) at_237 rfl (by decide) ?_
          refine own_iconst X260 (v := (3 : Int32)) (pc' := 239) at_238 rfl (by decide) ?_
          refine own_callS X260 (W := 0) (argsL := [(.ref ad233), (.int (1 : Int32)), (.int (3 : Int32))]) (rest := []) (S' := []) (pc' := 242) (rm1_4_13 l Z a0 hw n0 ad233 h260 X260.size (own_mn (own_mn p0 p1) (own_mn p2 p3)) (own_mx p0 p1) (own_mx (own_mn p0 p1) (own_mn p2 p3)) (own_mx p2 p3) A261 ge_ad233) (hw _ (List.mem_of_getElem? (i := 1) rfl)) (hw _ (List.mem_of_getElem? (i := 2) rfl)) (hw _ (List.mem_of_getElem? (i := 3) rfl)) (hw _ (List.mem_of_getElem? (i := 4) rfl)) (by decide) (by decide) (by decide) rfl rfl (by decide) (by decide) (lenOf pd_0 rfl) rfl (by first | decide | exact Nat.le_of_eq rfl) rfl at_239 rfl rfl ?_
          intro T264 h264 X264 qq264
          obtain ⟨A265, K265⟩ := qq264
          have A266 := A262.keep K265 (ninS ne_ad4_ad233 nin0)
          have A267 := A263.keep K265 (ninS ne_ad227_ad233 nin0)
          refine own_aload X264 (pc' := 244) at_242 rfl rfl rfl ?_
          refine own_iconst X264 (v := (1 : Int32)) (pc' := 245) at_244 rfl (by decide) ?_
          refine own_iconst X264 (v := (2 : Int32)) (pc' := 246) at_245 rfl (by decide) ?_
          refine own_callS X264 (W := 0) (argsL := [(.ref ad233), (.int (1 : Int32)), (.int (2 : Int32))]) (rest := []) (S' := []) (pc' := 249) (rm1_4_12 l Z a0 hw n0 ad233 h264 X264.size (own_mn (own_mn p0 p1) (own_mn p2 p3)) (own_mn (own_mx p0 p1) (own_mx p2 p3)) (own_mx (own_mn p0 p1) (own_mn p2 p3)) (own_mx (own_mx p0 p1) (own_mx p2 p3)) A265 ge_ad233) (hw _ (List.mem_of_getElem? (i := 1) rfl)) (hw _ (List.mem_of_getElem? (i := 2) rfl)) (hw _ (List.mem_of_getElem? (i := 3) rfl)) (hw _ (List.mem_of_getElem? (i := 4) rfl)) (by decide) (by decide) (by decide) rfl rfl (by decide) (by decide) (lenOf pd_0 rfl) rfl (by first | decide | exact Nat.le_of_eq rfl) rfl at_246 rfl rfl ?_
          intro T268 h268 X268 qq268
          obtain ⟨A269, K269⟩ := qq268
          have A270 := A266.keep K269 (ninS ne_ad4_ad233 nin0)
          have A271 := A267.keep K269 (ninS ne_ad227_ad233 nin0)
          obtain ⟨hq1, hq2, hq3⟩ := own_s4 p0 p1 p2 p3 _ _ _ _ rfl rfl rfl rfl
          generalize (own_mx (own_mx p0 p1) (own_mx p2 p3)) = u3 at *
          generalize (own_mx (own_mn (own_mx p0 p1) (own_mx p2 p3)) (own_mx (own_mn p0 p1) (own_mn p2 p3))) = u2 at *
          generalize (own_mn (own_mn (own_mx p0 p1) (own_mx p2 p3)) (own_mx (own_mn p0 p1) (own_mn p2 p3))) = u1 at *
          generalize (own_mn (own_mn p0 p1) (own_mn p2 p3)) = u0 at *
          refine own_new X268 (pc' := 252) (hw _ (List.mem_of_getElem? (i := 8) rfl)) (hw _ (List.mem_of_getElem? (i := 9) rfl)) (hw _ (List.mem_of_getElem? (i := 10) rfl)) at_249 rfl (by decide) (by decide) ?_
          intro T272 h272 ad272 X272 ge_ad272 g_ad272 E272 Ex272 D272
          have ne_ad4_ad272 : ad4 ≠ ad272 := Nat.ne_of_lt (Nat.lt_of_lt_of_le A270.lt (Nat.le_of_eq g_ad272.symm))
          have A273 := A270.ext E272
          have ne_ad227_ad272 : ad227 ≠ ad272 := Nat.ne_of_lt (Nat.lt_of_lt_of_le A271.lt (Nat.le_of_eq g_ad272.symm))
          have A274 := A271.ext E272
          have ne_ad233_ad272 : ad233 ≠ ad272 := Nat.ne_of_lt (Nat.lt_of_lt_of_le A269.lt (Nat.le_of_eq g_ad272.symm))
          have A275 := A269.ext E272
          have F272_documents : Fld Z h272 ad272 "com/example/quern/quern/index/DeletionsFile$Walk" "documents" "[I" .null := D272 (Or.inr (hw _ (List.mem_of_getElem? (i := 18) rfl))) (ty := (.array .int)) (by decide)
          have F272_next : Fld Z h272 ad272 "com/example/quern/quern/index/DeletionsFile$Walk" "next" "I" (.int (0 : Int32)) := D272 (Or.inl (hw _ (List.mem_of_getElem? (i := 25) rfl))) (ty := .int) (by decide)
          refine own_dup X272 (pc' := 253) at_252 rfl rfl ?_
          refine own_aload X272 (pc' := 255) at_253 rfl rfl rfl ?_
          refine own_callI X272 (W := 1) (a := ad272) (argsL := [(.ref ad227)]) (rest := [(.ref ad272)]) (S' := [(.ref ad272)]) (pc' := 258) (rm3 l Z a0 hw n0 ad272 ad227 h272 X272.size Ex272 F272_documents F272_next ge_ad272) rfl (hw _ (List.mem_of_getElem? (i := 11) rfl)) (hw _ (List.mem_of_getElem? (i := 12) rfl)) (hw _ (List.mem_of_getElem? (i := 10) rfl)) (hw _ (List.mem_of_getElem? (i := 13) rfl)) (by decide) (by decide) (by decide) rfl rfl (by decide) (by decide) (lenOf pd_2 rfl) rfl (by first | decide | exact Nat.le_of_eq rfl) rfl at_255 rfl rfl ?_
          intro T276 h276 X276 qq276
          obtain ⟨⟨Ex277, F277_d, F277_n⟩, K277⟩ := qq276
          have A278 := A273.keep K277 (ninS ne_ad4_ad272 nin0)
          have A279 := A274.keep K277 (ninS ne_ad227_ad272 nin0)
          have A280 := A275.keep K277 (ninS ne_ad233_ad272 nin0)
          have Ex281 := Ex272.keep K277
          refine own_astore X276 (pc' := 260) (Ls' := #[.val (.int x0), .val (.int x1), .val (.int x2), .val (.int sel), .val (.int pp), .val (.int rr), .val (.ref ad4), .val (.int (2 : Int32)), .val (.ref ad227), .val (.ref ad233), .val (.ref ad272), .unset, .unset, .unset, .unset]) at_258 rfl rfl rfl ?_
          refine own_aload X276 (pc' := 262) at_260 rfl rfl rfl ?_
          refine own_aload X276 (pc' := 264) at_262 rfl rfl rfl ?_
          refine own_iconst X276 (v := (0 : Int32)) (pc' := 265) at_264 rfl (by decide) ?_
          refine own_iaload X276 (v := u0) (pc' := 266) A280 rfl rfl at_265 rfl ?_
          refine own_callV X276 (W := 0) (a := ad272) (argsL := [(.int u0)]) (rest := []) (S' := [(.int (own_hd [s0, s1] u0))]) (pc' := 269) (rm5_20 l Z a0 hw n0 ad272 u0 h276 X276.size ad227 s0 s1 ⟨Ex277, F277_d, F277_n⟩ A279 ge_ad272 ne_ad227_ad272) Ex277 (hw _ (List.mem_of_getElem? (i := 19) rfl)) (hw _ (List.mem_of_getElem? (i := 20) rfl)) (hw _ (List.mem_of_getElem? (i := 22) rfl)) (hw _ (List.mem_of_getElem? (i := 21) rfl)) (hw _ (List.mem_of_getElem? (i := 10) rfl)) (hw _ (List.mem_of_getElem? (i := 23) rfl)) (by decide) (by decide) (by decide) rfl rfl (by decide) (by decide) (lenOf pd_3 rfl) rfl (by first | decide | exact Nat.le_of_eq rfl) rfl at_266 rfl rfl ?_
          intro T282 h282 X282 qq282
          obtain ⟨⟨Ex283, F283_d, F283_n⟩, K283⟩ := qq282
          have A284 := A278.keep K283 (ninS ne_ad4_ad272 nin0)
          have A285 := A279.keep K283 (ninS ne_ad227_ad272 nin0)
          have A286 := A280.keep K283 (ninS ne_ad233_ad272 nin0)
          have Ex287 := Ex277.keep K283
          refine own_istore X282 (pc' := 271) (Ls' := #[.val (.int x0), .val (.int x1), .val (.int x2), .val (.int sel), .val (.int pp), .val (.int rr), .val (.ref ad4), .val (.int (2 : Int32)), .val (.ref ad227), .val (.ref ad233), .val (.ref ad272), .val (.int (own_hd [s0, s1] u0)), .unset, .unset, .unset]) at_269 rfl rfl ?_
          rcases own_nc_2_0 s0 s1 u0 with e283_0 | ⟨e283_1, f283_1_0⟩ | ⟨e283_2, f283_2_0, f283_2_1⟩
          · rw [e283_0] at F283_n
            refine own_aload X282 (pc' := 273) at_271 rfl rfl rfl ?_
            refine own_aload X282 (pc' := 275) at_273 rfl rfl rfl ?_
            refine own_iconst X282 (v := (1 : Int32)) (pc' := 276) at_275 rfl (by decide) ?_
            refine own_iaload X282 (v := u1) (pc' := 277) A286 rfl rfl at_276 rfl ?_
            refine own_callV X282 (W := 0) (a := ad272) (argsL := [(.int u1)]) (rest := []) (S' := [(.int (own_hd [s0, s1] u1))]) (pc' := 280) (rm5_20 l Z a0 hw n0 ad272 u1 h282 X282.size ad227 s0 s1 ⟨Ex283, F283_d, F283_n⟩ A285 ge_ad272 ne_ad227_ad272) Ex283 (hw _ (List.mem_of_getElem? (i := 19) rfl)) (hw _ (List.mem_of_getElem? (i := 20) rfl)) (hw _ (List.mem_of_getElem? (i := 22) rfl)) (hw _ (List.mem_of_getElem? (i := 21) rfl)) (hw _ (List.mem_of_getElem? (i := 10) rfl)) (hw _ (List.mem_of_getElem? (i := 23) rfl)) (by decide) (by decide) (by decide) rfl rfl (by decide) (by decide) (lenOf pd_3 rfl) rfl (by first | decide | exact Nat.le_of_eq rfl) rfl at_277 rfl rfl ?_
            intro T288 h288 X288 qq288
            obtain ⟨⟨Ex289, F289_d, F289_n⟩, K289⟩ := qq288
            have A290 := A284.keep K289 (ninS ne_ad4_ad272 nin0)
            have A291 := A285.keep K289 (ninS ne_ad227_ad272 nin0)
            have A292 := A286.keep K289 (ninS ne_ad233_ad272 nin0)
            have Ex293 := Ex283.keep K289
            refine own_istore X288 (pc' := 282) (Ls' := #[.val (.int x0), .val (.int x1), .val (.int x2), .val (.int sel), .val (.int pp), .val (.int rr), .val (.ref ad4), .val (.int (2 : Int32)), .val (.ref ad227), .val (.ref ad233), .val (.ref ad272), .val (.int (own_hd [s0, s1] u0)), .val (.int (own_hd [s0, s1] u1)), .unset, .unset]) at_280 rfl rfl ?_
            rcases own_nc_2_0 s0 s1 u1 with e289_0 | ⟨e289_1, f289_1_0⟩ | ⟨e289_2, f289_2_0, f289_2_1⟩
            · rw [e289_0] at F289_n
              refine own_aload X288 (pc' := 284) at_282 rfl rfl rfl ?_
              refine own_aload X288 (pc' := 286) at_284 rfl rfl rfl ?_
              refine own_iconst X288 (v := (2 : Int32)) (pc' := 287) at_286 rfl (by decide) ?_
              refine own_iaload X288 (v := u2) (pc' := 288) A292 rfl rfl at_287 rfl ?_
              refine own_callV X288 (W := 0) (a := ad272) (argsL := [(.int u2)]) (rest := []) (S' := [(.int (own_hd [s0, s1] u2))]) (pc' := 291) (rm5_20 l Z a0 hw n0 ad272 u2 h288 X288.size ad227 s0 s1 ⟨Ex289, F289_d, F289_n⟩ A291 ge_ad272 ne_ad227_ad272) Ex289 (hw _ (List.mem_of_getElem? (i := 19) rfl)) (hw _ (List.mem_of_getElem? (i := 20) rfl)) (hw _ (List.mem_of_getElem? (i := 22) rfl)) (hw _ (List.mem_of_getElem? (i := 21) rfl)) (hw _ (List.mem_of_getElem? (i := 10) rfl)) (hw _ (List.mem_of_getElem? (i := 23) rfl)) (by decide) (by decide) (by decide) rfl rfl (by decide) (by decide) (lenOf pd_3 rfl) rfl (by first | decide | exact Nat.le_of_eq rfl) rfl at_288 rfl rfl ?_
              intro T294 h294 X294 qq294
              obtain ⟨⟨Ex295, F295_d, F295_n⟩, K295⟩ := qq294
              have A296 := A290.keep K295 (ninS ne_ad4_ad272 nin0)
              have A297 := A291.keep K295 (ninS ne_ad227_ad272 nin0)
              have A298 := A292.keep K295 (ninS ne_ad233_ad272 nin0)
              have Ex299 := Ex289.keep K295
              refine own_istore X294 (pc' := 293) (Ls' := #[.val (.int x0), .val (.int x1), .val (.int x2), .val (.int sel), .val (.int pp), .val (.int rr), .val (.ref ad4), .val (.int (2 : Int32)), .val (.ref ad227), .val (.ref ad233), .val (.ref ad272), .val (.int (own_hd [s0, s1] u0)), .val (.int (own_hd [s0, s1] u1)), .val (.int (own_hd [s0, s1] u2)), .unset]) at_291 rfl rfl ?_
              rcases own_nc_2_0 s0 s1 u2 with e295_0 | ⟨e295_1, f295_1_0⟩ | ⟨e295_2, f295_2_0, f295_2_1⟩
              · rw [e295_0] at F295_n
                refine own_aload X294 (pc' := 295) at_293 rfl rfl rfl ?_
                refine own_aload X294 (pc' := 297) at_295 rfl rfl rfl ?_
                refine own_iconst X294 (v := (3 : Int32)) (pc' := 298) at_297 rfl (by decide) ?_
                refine own_iaload X294 (v := u3) (pc' := 299) A298 rfl rfl at_298 rfl ?_
                refine own_callV X294 (W := 0) (a := ad272) (argsL := [(.int u3)]) (rest := []) (S' := [(.int (own_hd [s0, s1] u3))]) (pc' := 302) (rm5_20 l Z a0 hw n0 ad272 u3 h294 X294.size ad227 s0 s1 ⟨Ex295, F295_d, F295_n⟩ A297 ge_ad272 ne_ad227_ad272) Ex295 (hw _ (List.mem_of_getElem? (i := 19) rfl)) (hw _ (List.mem_of_getElem? (i := 20) rfl)) (hw _ (List.mem_of_getElem? (i := 22) rfl)) (hw _ (List.mem_of_getElem? (i := 21) rfl)) (hw _ (List.mem_of_getElem? (i := 10) rfl)) (hw _ (List.mem_of_getElem? (i := 23) rfl)) (by decide) (by decide) (by decide) rfl rfl (by decide) (by decide) (lenOf pd_3 rfl) rfl (by first | decide | exact Nat.le_of_eq rfl) rfl at_299 rfl rfl ?_
                intro T300 h300 X300 qq300
                obtain ⟨⟨Ex301, F301_d, F301_n⟩, K301⟩ := qq300
                have A302 := A296.keep K301 (ninS ne_ad4_ad272 nin0)
                have A303 := A297.keep K301 (ninS ne_ad227_ad272 nin0)
                have A304 := A298.keep K301 (ninS ne_ad233_ad272 nin0)
                have Ex305 := Ex295.keep K301
                refine own_istore X300 (pc' := 304) (Ls' := #[.val (.int x0), .val (.int x1), .val (.int x2), .val (.int sel), .val (.int pp), .val (.int rr), .val (.ref ad4), .val (.int (2 : Int32)), .val (.ref ad227), .val (.ref ad233), .val (.ref ad272), .val (.int (own_hd [s0, s1] u0)), .val (.int (own_hd [s0, s1] u1)), .val (.int (own_hd [s0, s1] u2)), .val (.int (own_hd [s0, s1] u3))]) at_302 rfl rfl ?_
                rcases own_nc_2_0 s0 s1 u3 with e301_0 | ⟨e301_1, f301_1_0⟩ | ⟨e301_2, f301_2_0, f301_2_1⟩
                · rw [e301_0] at F301_n
                  refine own_iload X300 (pc' := 306) at_304 rfl rfl ?_
                  refine own_aload X300 (pc' := 308) at_306 rfl rfl rfl ?_
                  refine own_iload X300 (pc' := 310) at_308 rfl rfl ?_
                  refine own_aload X300 (pc' := 312) at_310 rfl rfl rfl ?_
                  refine own_iconst X300 (v := (0 : Int32)) (pc' := 313) at_312 rfl (by decide) ?_
                  refine own_iaload X300 (v := u0) (pc' := 314) A304 rfl rfl at_313 rfl ?_
                  refine own_callS X300 (W := 1) (argsL := [(.ref ad4), (.int (2 : Int32)), (.int u0)]) (rest := [(.int (own_hd [s0, s1] u0))]) (S' := [(.int (own_mb [s0, s1] u0)), (.int (own_hd [s0, s1] u0))]) (pc' := 317) (rm6_2 l Z a0 hw n0 ad4 u0 h300 X300.size s0 s1 s2 A302) (hw _ (List.mem_of_getElem? (i := 26) rfl)) (hw _ (List.mem_of_getElem? (i := 27) rfl)) (hw _ (List.mem_of_getElem? (i := 3) rfl)) (hw _ (List.mem_of_getElem? (i := 28) rfl)) (by decide) (by decide) (by decide) rfl rfl (by decide) (by decide) (lenOf pd_4 rfl) rfl (by first | decide | exact Nat.le_of_eq rfl) rfl at_314 rfl rfl ?_
                  intro T306 h306 X306 qq306
                  rw [show h306 = h300 from qq306] at X306
                  refine own_icmp_ne X306 (pct := 372) (pc' := 320) at_317 rfl (by decide) (by decide) (fun hc => absurd hc (fun q => q (own_hm_2_0 s0 s1 s2 u0 hs1 hs2 ))) (fun _ => ?_)
                  refine own_iload X306 (pc' := 322) at_320 rfl rfl ?_
                  refine own_aload X306 (pc' := 324) at_322 rfl rfl rfl ?_
                  refine own_iload X306 (pc' := 326) at_324 rfl rfl ?_
                  refine own_aload X306 (pc' := 328) at_326 rfl rfl rfl ?_
                  refine own_iconst X306 (v := (1 : Int32)) (pc' := 329) at_328 rfl (by decide) ?_
                  refine own_iaload X306 (v := u1) (pc' := 330) A304 rfl rfl at_329 rfl ?_
                  refine own_callS X306 (W := 1) (argsL := [(.ref ad4), (.int (2 : Int32)), (.int u1)]) (rest := [(.int (own_hd [s0, s1] u1))]) (S' := [(.int (own_mb [s0, s1] u1)), (.int (own_hd [s0, s1] u1))]) (pc' := 333) (rm6_2 l Z a0 hw n0 ad4 u1 h300 X306.size s0 s1 s2 A302) (hw _ (List.mem_of_getElem? (i := 26) rfl)) (hw _ (List.mem_of_getElem? (i := 27) rfl)) (hw _ (List.mem_of_getElem? (i := 3) rfl)) (hw _ (List.mem_of_getElem? (i := 28) rfl)) (by decide) (by decide) (by decide) rfl rfl (by decide) (by decide) (lenOf pd_4 rfl) rfl (by first | decide | exact Nat.le_of_eq rfl) rfl at_330 rfl rfl ?_
                  intro T307 h307 X307 qq307
                  rw [show h307 = h300 from qq307] at X307
                  refine own_icmp_ne X307 (pct := 372) (pc' := 336) at_333 rfl (by decide) (by decide) (fun hc => absurd hc (fun q => q (own_hm_2_0 s0 s1 s2 u1 hs1 hs2 ))) (fun _ => ?_)
                  refine own_iload X307 (pc' := 338) at_336 rfl rfl ?_
                  refine own_aload X307 (pc' := 340) at_338 rfl rfl rfl ?_
                  refine own_iload X307 (pc' := 342) at_340 rfl rfl ?_
                  refine own_aload X307 (pc' := 344) at_342 rfl rfl rfl ?_
                  refine own_iconst X307 (v := (2 : Int32)) (pc' := 345) at_344 rfl (by decide) ?_
                  refine own_iaload X307 (v := u2) (pc' := 346) A304 rfl rfl at_345 rfl ?_
                  refine own_callS X307 (W := 1) (argsL := [(.ref ad4), (.int (2 : Int32)), (.int u2)]) (rest := [(.int (own_hd [s0, s1] u2))]) (S' := [(.int (own_mb [s0, s1] u2)), (.int (own_hd [s0, s1] u2))]) (pc' := 349) (rm6_2 l Z a0 hw n0 ad4 u2 h300 X307.size s0 s1 s2 A302) (hw _ (List.mem_of_getElem? (i := 26) rfl)) (hw _ (List.mem_of_getElem? (i := 27) rfl)) (hw _ (List.mem_of_getElem? (i := 3) rfl)) (hw _ (List.mem_of_getElem? (i := 28) rfl)) (by decide) (by decide) (by decide) rfl rfl (by decide) (by decide) (lenOf pd_4 rfl) rfl (by first | decide | exact Nat.le_of_eq rfl) rfl at_346 rfl rfl ?_
                  intro T308 h308 X308 qq308
                  rw [show h308 = h300 from qq308] at X308
                  refine own_icmp_ne X308 (pct := 372) (pc' := 352) at_349 rfl (by decide) (by decide) (fun hc => absurd hc (fun q => q (own_hm_2_0 s0 s1 s2 u2 hs1 hs2 ))) (fun _ => ?_)
                  refine own_iload X308 (pc' := 354) at_352 rfl rfl ?_
                  refine own_aload X308 (pc' := 356) at_354 rfl rfl rfl ?_
                  refine own_iload X308 (pc' := 358) at_356 rfl rfl ?_
                  refine own_aload X308 (pc' := 360) at_358 rfl rfl rfl ?_
                  refine own_iconst X308 (v := (3 : Int32)) (pc' := 361) at_360 rfl (by decide) ?_
                  refine own_iaload X308 (v := u3) (pc' := 362) A304 rfl rfl at_361 rfl ?_
                  refine own_callS X308 (W := 1) (argsL := [(.ref ad4), (.int (2 : Int32)), (.int u3)]) (rest := [(.int (own_hd [s0, s1] u3))]) (S' := [(.int (own_mb [s0, s1] u3)), (.int (own_hd [s0, s1] u3))]) (pc' := 365) (rm6_2 l Z a0 hw n0 ad4 u3 h300 X308.size s0 s1 s2 A302) (hw _ (List.mem_of_getElem? (i := 26) rfl)) (hw _ (List.mem_of_getElem? (i := 27) rfl)) (hw _ (List.mem_of_getElem? (i := 3) rfl)) (hw _ (List.mem_of_getElem? (i := 28) rfl)) (by decide) (by decide) (by decide) rfl rfl (by decide) (by decide) (lenOf pd_4 rfl) rfl (by first | decide | exact Nat.le_of_eq rfl) rfl at_362 rfl rfl ?_
                  intro T309 h309 X309 qq309
                  rw [show h309 = h300 from qq309] at X309
                  refine own_icmp_ne X309 (pct := 372) (pc' := 368) at_365 rfl (by decide) (by decide) (fun hc => absurd hc (fun q => q (own_hm_2_0 s0 s1 s2 u3 hs1 hs2 ))) (fun _ => ?_)
                  refine own_iconst X309 (v := (1 : Int32)) (pc' := 369) at_368 rfl (by decide) ?_
                  refine own_goto X309 (pc' := 373) at_369 (by decide) (by decide) ?_
                  subst hΦ
                  exact own_retZ X309 at_373 (by decide) (by decide) (by decide) rfl trivial
                · rw [e301_1] at F301_n
                  refine own_iload X300 (pc' := 306) at_304 rfl rfl ?_
                  refine own_aload X300 (pc' := 308) at_306 rfl rfl rfl ?_
                  refine own_iload X300 (pc' := 310) at_308 rfl rfl ?_
                  refine own_aload X300 (pc' := 312) at_310 rfl rfl rfl ?_
                  refine own_iconst X300 (v := (0 : Int32)) (pc' := 313) at_312 rfl (by decide) ?_
                  refine own_iaload X300 (v := u0) (pc' := 314) A304 rfl rfl at_313 rfl ?_
                  refine own_callS X300 (W := 1) (argsL := [(.ref ad4), (.int (2 : Int32)), (.int u0)]) (rest := [(.int (own_hd [s0, s1] u0))]) (S' := [(.int (own_mb [s0, s1] u0)), (.int (own_hd [s0, s1] u0))]) (pc' := 317) (rm6_2 l Z a0 hw n0 ad4 u0 h300 X300.size s0 s1 s2 A302) (hw _ (List.mem_of_getElem? (i := 26) rfl)) (hw _ (List.mem_of_getElem? (i := 27) rfl)) (hw _ (List.mem_of_getElem? (i := 3) rfl)) (hw _ (List.mem_of_getElem? (i := 28) rfl)) (by decide) (by decide) (by decide) rfl rfl (by decide) (by decide) (lenOf pd_4 rfl) rfl (by first | decide | exact Nat.le_of_eq rfl) rfl at_314 rfl rfl ?_
                  intro T310 h310 X310 qq310
                  rw [show h310 = h300 from qq310] at X310
                  refine own_icmp_ne X310 (pct := 372) (pc' := 320) at_317 rfl (by decide) (by decide) (fun hc => absurd hc (fun q => q (own_hm_2_0 s0 s1 s2 u0 hs1 hs2 ))) (fun _ => ?_)
                  refine own_iload X310 (pc' := 322) at_320 rfl rfl ?_
                  refine own_aload X310 (pc' := 324) at_322 rfl rfl rfl ?_
                  refine own_iload X310 (pc' := 326) at_324 rfl rfl ?_
                  refine own_aload X310 (pc' := 328) at_326 rfl rfl rfl ?_
                  refine own_iconst X310 (v := (1 : Int32)) (pc' := 329) at_328 rfl (by decide) ?_
                  refine own_iaload X310 (v := u1) (pc' := 330) A304 rfl rfl at_329 rfl ?_
                  refine own_callS X310 (W := 1) (argsL := [(.ref ad4), (.int (2 : Int32)), (.int u1)]) (rest := [(.int (own_hd [s0, s1] u1))]) (S' := [(.int (own_mb [s0, s1] u1)), (.int (own_hd [s0, s1] u1))]) (pc' := 333) (rm6_2 l Z a0 hw n0 ad4 u1 h300 X310.size s0 s1 s2 A302) (hw _ (List.mem_of_getElem? (i := 26) rfl)) (hw _ (List.mem_of_getElem? (i := 27) rfl)) (hw _ (List.mem_of_getElem? (i := 3) rfl)) (hw _ (List.mem_of_getElem? (i := 28) rfl)) (by decide) (by decide) (by decide) rfl rfl (by decide) (by decide) (lenOf pd_4 rfl) rfl (by first | decide | exact Nat.le_of_eq rfl) rfl at_330 rfl rfl ?_
                  intro T311 h311 X311 qq311
                  rw [show h311 = h300 from qq311] at X311
                  refine own_icmp_ne X311 (pct := 372) (pc' := 336) at_333 rfl (by decide) (by decide) (fun hc => absurd hc (fun q => q (own_hm_2_0 s0 s1 s2 u1 hs1 hs2 ))) (fun _ => ?_)
                  refine own_iload X311 (pc' := 338) at_336 rfl rfl ?_
                  refine own_aload X311 (pc' := 340) at_338 rfl rfl rfl ?_
                  refine own_iload X311 (pc' := 342) at_340 rfl rfl ?_
                  refine own_aload X311 (pc' := 344) at_342 rfl rfl rfl ?_
                  refine own_iconst X311 (v := (2 : Int32)) (pc' := 345) at_344 rfl (by decide) ?_
                  refine own_iaload X311 (v := u2) (pc' := 346) A304 rfl rfl at_345 rfl ?_
                  refine own_callS X311 (W := 1) (argsL := [(.ref ad4), (.int (2 : Int32)), (.int u2)]) (rest := [(.int (own_hd [s0, s1] u2))]) (S' := [(.int (own_mb [s0, s1] u2)), (.int (own_hd [s0, s1] u2))]) (pc' := 349) (rm6_2 l Z a0 hw n0 ad4 u2 h300 X311.size s0 s1 s2 A302) (hw _ (List.mem_of_getElem? (i := 26) rfl)) (hw _ (List.mem_of_getElem? (i := 27) rfl)) (hw _ (List.mem_of_getElem? (i := 3) rfl)) (hw _ (List.mem_of_getElem? (i := 28) rfl)) (by decide) (by decide) (by decide) rfl rfl (by decide) (by decide) (lenOf pd_4 rfl) rfl (by first | decide | exact Nat.le_of_eq rfl) rfl at_346 rfl rfl ?_
                  intro T312 h312 X312 qq312
                  rw [show h312 = h300 from qq312] at X312
                  refine own_icmp_ne X312 (pct := 372) (pc' := 352) at_349 rfl (by decide) (by decide) (fun hc => absurd hc (fun q => q (own_hm_2_0 s0 s1 s2 u2 hs1 hs2 ))) (fun _ => ?_)
                  refine own_iload X312 (pc' := 354) at_352 rfl rfl ?_
                  refine own_aload X312 (pc' := 356) at_354 rfl rfl rfl ?_
                  refine own_iload X312 (pc' := 358) at_356 rfl rfl ?_
                  refine own_aload X312 (pc' := 360) at_358 rfl rfl rfl ?_
                  refine own_iconst X312 (v := (3 : Int32)) (pc' := 361) at_360 rfl (by decide) ?_
                  refine own_iaload X312 (v := u3) (pc' := 362) A304 rfl rfl at_361 rfl ?_
                  refine own_callS X312 (W := 1) (argsL := [(.ref ad4), (.int (2 : Int32)), (.int u3)]) (rest := [(.int (own_hd [s0, s1] u3))]) (S' := [(.int (own_mb [s0, s1] u3)), (.int (own_hd [s0, s1] u3))]) (pc' := 365) (rm6_2 l Z a0 hw n0 ad4 u3 h300 X312.size s0 s1 s2 A302) (hw _ (List.mem_of_getElem? (i := 26) rfl)) (hw _ (List.mem_of_getElem? (i := 27) rfl)) (hw _ (List.mem_of_getElem? (i := 3) rfl)) (hw _ (List.mem_of_getElem? (i := 28) rfl)) (by decide) (by decide) (by decide) rfl rfl (by decide) (by decide) (lenOf pd_4 rfl) rfl (by first | decide | exact Nat.le_of_eq rfl) rfl at_362 rfl rfl ?_
                  intro T313 h313 X313 qq313
                  rw [show h313 = h300 from qq313] at X313
                  refine own_icmp_ne X313 (pct := 372) (pc' := 368) at_365 rfl (by decide) (by decide) (fun hc => absurd hc (fun q => q (own_hm_2_0 s0 s1 s2 u3 hs1 hs2 ))) (fun _ => ?_)
                  refine own_iconst X313 (v := (1 : Int32)) (pc' := 369) at_368 rfl (by decide) ?_
                  refine own_goto X313 (pc' := 373) at_369 (by decide) (by decide) ?_
                  subst hΦ
                  exact own_retZ X313 at_373 (by decide) (by decide) (by decide) rfl trivial
                · rw [e301_2] at F301_n
                  refine own_iload X300 (pc' := 306) at_304 rfl rfl ?_
                  refine own_aload X300 (pc' := 308) at_306 rfl rfl rfl ?_
                  refine own_iload X300 (pc' := 310) at_308 rfl rfl ?_
                  refine own_aload X300 (pc' := 312) at_310 rfl rfl rfl ?_
                  refine own_iconst X300 (v := (0 : Int32)) (pc' := 313) at_312 rfl (by decide) ?_
                  refine own_iaload X300 (v := u0) (pc' := 314) A304 rfl rfl at_313 rfl ?_
                  refine own_callS X300 (W := 1) (argsL := [(.ref ad4), (.int (2 : Int32)), (.int u0)]) (rest := [(.int (own_hd [s0, s1] u0))]) (S' := [(.int (own_mb [s0, s1] u0)), (.int (own_hd [s0, s1] u0))]) (pc' := 317) (rm6_2 l Z a0 hw n0 ad4 u0 h300 X300.size s0 s1 s2 A302) (hw _ (List.mem_of_getElem? (i := 26) rfl)) (hw _ (List.mem_of_getElem? (i := 27) rfl)) (hw _ (List.mem_of_getElem? (i := 3) rfl)) (hw _ (List.mem_of_getElem? (i := 28) rfl)) (by decide) (by decide) (by decide) rfl rfl (by decide) (by decide) (lenOf pd_4 rfl) rfl (by first | decide | exact Nat.le_of_eq rfl) rfl at_314 rfl rfl ?_
                  intro T314 h314 X314 qq314
                  rw [show h314 = h300 from qq314] at X314
                  refine own_icmp_ne X314 (pct := 372) (pc' := 320) at_317 rfl (by decide) (by decide) (fun hc => absurd hc (fun q => q (own_hm_2_0 s0 s1 s2 u0 hs1 hs2 ))) (fun _ => ?_)
                  refine own_iload X314 (pc' := 322) at_320 rfl rfl ?_
                  refine own_aload X314 (pc' := 324) at_322 rfl rfl rfl ?_
                  refine own_iload X314 (pc' := 326) at_324 rfl rfl ?_
                  refine own_aload X314 (pc' := 328) at_326 rfl rfl rfl ?_
                  refine own_iconst X314 (v := (1 : Int32)) (pc' := 329) at_328 rfl (by decide) ?_
                  refine own_iaload X314 (v := u1) (pc' := 330) A304 rfl rfl at_329 rfl ?_
                  refine own_callS X314 (W := 1) (argsL := [(.ref ad4), (.int (2 : Int32)), (.int u1)]) (rest := [(.int (own_hd [s0, s1] u1))]) (S' := [(.int (own_mb [s0, s1] u1)), (.int (own_hd [s0, s1] u1))]) (pc' := 333) (rm6_2 l Z a0 hw n0 ad4 u1 h300 X314.size s0 s1 s2 A302) (hw _ (List.mem_of_getElem? (i := 26) rfl)) (hw _ (List.mem_of_getElem? (i := 27) rfl)) (hw _ (List.mem_of_getElem? (i := 3) rfl)) (hw _ (List.mem_of_getElem? (i := 28) rfl)) (by decide) (by decide) (by decide) rfl rfl (by decide) (by decide) (lenOf pd_4 rfl) rfl (by first | decide | exact Nat.le_of_eq rfl) rfl at_330 rfl rfl ?_
                  intro T315 h315 X315 qq315
                  rw [show h315 = h300 from qq315] at X315
                  refine own_icmp_ne X315 (pct := 372) (pc' := 336) at_333 rfl (by decide) (by decide) (fun hc => absurd hc (fun q => q (own_hm_2_0 s0 s1 s2 u1 hs1 hs2 ))) (fun _ => ?_)
                  refine own_iload X315 (pc' := 338) at_336 rfl rfl ?_
                  refine own_aload X315 (pc' := 340) at_338 rfl rfl rfl ?_
                  refine own_iload X315 (pc' := 342) at_340 rfl rfl ?_
                  refine own_aload X315 (pc' := 344) at_342 rfl rfl rfl ?_
                  refine own_iconst X315 (v := (2 : Int32)) (pc' := 345) at_344 rfl (by decide) ?_
                  refine own_iaload X315 (v := u2) (pc' := 346) A304 rfl rfl at_345 rfl ?_
                  refine own_callS X315 (W := 1) (argsL := [(.ref ad4), (.int (2 : Int32)), (.int u2)]) (rest := [(.int (own_hd [s0, s1] u2))]) (S' := [(.int (own_mb [s0, s1] u2)), (.int (own_hd [s0, s1] u2))]) (pc' := 349) (rm6_2 l Z a0 hw n0 ad4 u2 h300 X315.size s0 s1 s2 A302) (hw _ (List.mem_of_getElem? (i := 26) rfl)) (hw _ (List.mem_of_getElem? (i := 27) rfl)) (hw _ (List.mem_of_getElem? (i := 3) rfl)) (hw _ (List.mem_of_getElem? (i := 28) rfl)) (by decide) (by decide) (by decide) rfl rfl (by decide) (by decide) (lenOf pd_4 rfl) rfl (by first | decide | exact Nat.le_of_eq rfl) rfl at_346 rfl rfl ?_
                  intro T316 h316 X316 qq316
                  rw [show h316 = h300 from qq316] at X316
                  refine own_icmp_ne X316 (pct := 372) (pc' := 352) at_349 rfl (by decide) (by decide) (fun hc => absurd hc (fun q => q (own_hm_2_0 s0 s1 s2 u2 hs1 hs2 ))) (fun _ => ?_)
                  refine own_iload X316 (pc' := 354) at_352 rfl rfl ?_
                  refine own_aload X316 (pc' := 356) at_354 rfl rfl rfl ?_
                  refine own_iload X316 (pc' := 358) at_356 rfl rfl ?_
                  refine own_aload X316 (pc' := 360) at_358 rfl rfl rfl ?_
                  refine own_iconst X316 (v := (3 : Int32)) (pc' := 361) at_360 rfl (by decide) ?_
                  refine own_iaload X316 (v := u3) (pc' := 362) A304 rfl rfl at_361 rfl ?_
                  refine own_callS X316 (W := 1) (argsL := [(.ref ad4), (.int (2 : Int32)), (.int u3)]) (rest := [(.int (own_hd [s0, s1] u3))]) (S' := [(.int (own_mb [s0, s1] u3)), (.int (own_hd [s0, s1] u3))]) (pc' := 365) (rm6_2 l Z a0 hw n0 ad4 u3 h300 X316.size s0 s1 s2 A302) (hw _ (List.mem_of_getElem? (i := 26) rfl)) (hw _ (List.mem_of_getElem? (i := 27) rfl)) (hw _ (List.mem_of_getElem? (i := 3) rfl)) (hw _ (List.mem_of_getElem? (i := 28) rfl)) (by decide) (by decide) (by decide) rfl rfl (by decide) (by decide) (lenOf pd_4 rfl) rfl (by first | decide | exact Nat.le_of_eq rfl) rfl at_362 rfl rfl ?_
                  intro T317 h317 X317 qq317
                  rw [show h317 = h300 from qq317] at X317
                  refine own_icmp_ne X317 (pct := 372) (pc' := 368) at_365 rfl (by decide) (by decide) (fun hc => absurd hc (fun q => q (own_hm_2_0 s0 s1 s2 u3 hs1 hs2 ))) (fun _ => ?_)
                  refine own_iconst X317 (v := (1 : Int32)) (pc' := 369) at_368 rfl (by decide) ?_
                  refine own_goto X317 (pc' := 373) at_369 (by decide) (by decide) ?_
                  subst hΦ
                  exact own_retZ X317 at_373 (by decide) (by decide) (by decide) rfl trivial
              · rw [e295_1] at F295_n
                refine own_aload X294 (pc' := 295) at_293 rfl rfl rfl ?_
                refine own_aload X294 (pc' := 297) at_295 rfl rfl rfl ?_
                refine own_iconst X294 (v := (3 : Int32)) (pc' := 298) at_297 rfl (by decide) ?_
                refine own_iaload X294 (v := u3) (pc' := 299) A298 rfl rfl at_298 rfl ?_
                refine own_callV X294 (W := 0) (a := ad272) (argsL := [(.int u3)]) (rest := []) (S' := [(.int (own_hd [s1] u3))]) (pc' := 302) (rm5_21 l Z a0 hw n0 ad272 u3 h294 X294.size ad227 s0 s1 ⟨Ex295, F295_d, F295_n⟩ A297 ge_ad272 ne_ad227_ad272) Ex295 (hw _ (List.mem_of_getElem? (i := 19) rfl)) (hw _ (List.mem_of_getElem? (i := 20) rfl)) (hw _ (List.mem_of_getElem? (i := 22) rfl)) (hw _ (List.mem_of_getElem? (i := 21) rfl)) (hw _ (List.mem_of_getElem? (i := 10) rfl)) (hw _ (List.mem_of_getElem? (i := 23) rfl)) (by decide) (by decide) (by decide) rfl rfl (by decide) (by decide) (lenOf pd_3 rfl) rfl (by first | decide | exact Nat.le_of_eq rfl) rfl at_299 rfl rfl ?_
                intro T318 h318 X318 qq318
                obtain ⟨⟨Ex319, F319_d, F319_n⟩, K319⟩ := qq318
                have A320 := A296.keep K319 (ninS ne_ad4_ad272 nin0)
                have A321 := A297.keep K319 (ninS ne_ad227_ad272 nin0)
                have A322 := A298.keep K319 (ninS ne_ad233_ad272 nin0)
                have Ex323 := Ex295.keep K319
                refine own_istore X318 (pc' := 304) (Ls' := #[.val (.int x0), .val (.int x1), .val (.int x2), .val (.int sel), .val (.int pp), .val (.int rr), .val (.ref ad4), .val (.int (2 : Int32)), .val (.ref ad227), .val (.ref ad233), .val (.ref ad272), .val (.int (own_hd [s0, s1] u0)), .val (.int (own_hd [s0, s1] u1)), .val (.int (own_hd [s0, s1] u2)), .val (.int (own_hd [s1] u3))]) at_302 rfl rfl ?_
                rcases own_nc_2_1 s1 u3 with e319_0 | ⟨e319_1, f319_1_0⟩
                · rw [e319_0] at F319_n
                  refine own_iload X318 (pc' := 306) at_304 rfl rfl ?_
                  refine own_aload X318 (pc' := 308) at_306 rfl rfl rfl ?_
                  refine own_iload X318 (pc' := 310) at_308 rfl rfl ?_
                  refine own_aload X318 (pc' := 312) at_310 rfl rfl rfl ?_
                  refine own_iconst X318 (v := (0 : Int32)) (pc' := 313) at_312 rfl (by decide) ?_
                  refine own_iaload X318 (v := u0) (pc' := 314) A322 rfl rfl at_313 rfl ?_
                  refine own_callS X318 (W := 1) (argsL := [(.ref ad4), (.int (2 : Int32)), (.int u0)]) (rest := [(.int (own_hd [s0, s1] u0))]) (S' := [(.int (own_mb [s0, s1] u0)), (.int (own_hd [s0, s1] u0))]) (pc' := 317) (rm6_2 l Z a0 hw n0 ad4 u0 h318 X318.size s0 s1 s2 A320) (hw _ (List.mem_of_getElem? (i := 26) rfl)) (hw _ (List.mem_of_getElem? (i := 27) rfl)) (hw _ (List.mem_of_getElem? (i := 3) rfl)) (hw _ (List.mem_of_getElem? (i := 28) rfl)) (by decide) (by decide) (by decide) rfl rfl (by decide) (by decide) (lenOf pd_4 rfl) rfl (by first | decide | exact Nat.le_of_eq rfl) rfl at_314 rfl rfl ?_
                  intro T324 h324 X324 qq324
                  rw [show h324 = h318 from qq324] at X324
                  refine own_icmp_ne X324 (pct := 372) (pc' := 320) at_317 rfl (by decide) (by decide) (fun hc => absurd hc (fun q => q (own_hm_2_0 s0 s1 s2 u0 hs1 hs2 ))) (fun _ => ?_)
                  refine own_iload X324 (pc' := 322) at_320 rfl rfl ?_
                  refine own_aload X324 (pc' := 324) at_322 rfl rfl rfl ?_
                  refine own_iload X324 (pc' := 326) at_324 rfl rfl ?_
                  refine own_aload X324 (pc' := 328) at_326 rfl rfl rfl ?_
                  refine own_iconst X324 (v := (1 : Int32)) (pc' := 329) at_328 rfl (by decide) ?_
                  refine own_iaload X324 (v := u1) (pc' := 330) A322 rfl rfl at_329 rfl ?_
                  refine own_callS X324 (W := 1) (argsL := [(.ref ad4), (.int (2 : Int32)), (.int u1)]) (rest := [(.int (own_hd [s0, s1] u1))]) (S' := [(.int (own_mb [s0, s1] u1)), (.int (own_hd [s0, s1] u1))]) (pc' := 333) (rm6_2 l Z a0 hw n0 ad4 u1 h318 X324.size s0 s1 s2 A320) (hw _ (List.mem_of_getElem? (i := 26) rfl)) (hw _ (List.mem_of_getElem? (i := 27) rfl)) (hw _ (List.mem_of_getElem? (i := 3) rfl)) (hw _ (List.mem_of_getElem? (i := 28) rfl)) (by decide) (by decide) (by decide) rfl rfl (by decide) (by decide) (lenOf pd_4 rfl) rfl (by first | decide | exact Nat.le_of_eq rfl) rfl at_330 rfl rfl ?_
                  intro T325 h325 X325 qq325
                  rw [show h325 = h318 from qq325] at X325
                  refine own_icmp_ne X325 (pct := 372) (pc' := 336) at_333 rfl (by decide) (by decide) (fun hc => absurd hc (fun q => q (own_hm_2_0 s0 s1 s2 u1 hs1 hs2 ))) (fun _ => ?_)
                  refine own_iload X325 (pc' := 338) at_336 rfl rfl ?_
                  refine own_aload X325 (pc' := 340) at_338 rfl rfl rfl ?_
                  refine own_iload X325 (pc' := 342) at_340 rfl rfl ?_
                  refine own_aload X325 (pc' := 344) at_342 rfl rfl rfl ?_
                  refine own_iconst X325 (v := (2 : Int32)) (pc' := 345) at_344 rfl (by decide) ?_
                  refine own_iaload X325 (v := u2) (pc' := 346) A322 rfl rfl at_345 rfl ?_
                  refine own_callS X325 (W := 1) (argsL := [(.ref ad4), (.int (2 : Int32)), (.int u2)]) (rest := [(.int (own_hd [s0, s1] u2))]) (S' := [(.int (own_mb [s0, s1] u2)), (.int (own_hd [s0, s1] u2))]) (pc' := 349) (rm6_2 l Z a0 hw n0 ad4 u2 h318 X325.size s0 s1 s2 A320) (hw _ (List.mem_of_getElem? (i := 26) rfl)) (hw _ (List.mem_of_getElem? (i := 27) rfl)) (hw _ (List.mem_of_getElem? (i := 3) rfl)) (hw _ (List.mem_of_getElem? (i := 28) rfl)) (by decide) (by decide) (by decide) rfl rfl (by decide) (by decide) (lenOf pd_4 rfl) rfl (by first | decide | exact Nat.le_of_eq rfl) rfl at_346 rfl rfl ?_
                  intro T326 h326 X326 qq326
                  rw [show h326 = h318 from qq326] at X326
                  refine own_icmp_ne X326 (pct := 372) (pc' := 352) at_349 rfl (by decide) (by decide) (fun hc => absurd hc (fun q => q (own_hm_2_0 s0 s1 s2 u2 hs1 hs2 ))) (fun _ => ?_)
                  refine own_iload X326 (pc' := 354) at_352 rfl rfl ?_
                  refine own_aload X326 (pc' := 356) at_354 rfl rfl rfl ?_
                  refine own_iload X326 (pc' := 358) at_356 rfl rfl ?_
                  refine own_aload X326 (pc' := 360) at_358 rfl rfl rfl ?_
                  refine own_iconst X326 (v := (3 : Int32)) (pc' := 361) at_360 rfl (by decide) ?_
                  refine own_iaload X326 (v := u3) (pc' := 362) A322 rfl rfl at_361 rfl ?_
                  refine own_callS X326 (W := 1) (argsL := [(.ref ad4), (.int (2 : Int32)), (.int u3)]) (rest := [(.int (own_hd [s1] u3))]) (S' := [(.int (own_mb [s0, s1] u3)), (.int (own_hd [s1] u3))]) (pc' := 365) (rm6_2 l Z a0 hw n0 ad4 u3 h318 X326.size s0 s1 s2 A320) (hw _ (List.mem_of_getElem? (i := 26) rfl)) (hw _ (List.mem_of_getElem? (i := 27) rfl)) (hw _ (List.mem_of_getElem? (i := 3) rfl)) (hw _ (List.mem_of_getElem? (i := 28) rfl)) (by decide) (by decide) (by decide) rfl rfl (by decide) (by decide) (lenOf pd_4 rfl) rfl (by first | decide | exact Nat.le_of_eq rfl) rfl at_362 rfl rfl ?_
                  intro T327 h327 X327 qq327
                  rw [show h327 = h318 from qq327] at X327
                  refine own_icmp_ne X327 (pct := 372) (pc' := 368) at_365 rfl (by decide) (by decide) (fun hc => absurd hc (fun q => q (own_hm_2_1 s0 s1 s2 u3 hs1 hs2 (by omega)))) (fun _ => ?_)
                  refine own_iconst X327 (v := (1 : Int32)) (pc' := 369) at_368 rfl (by decide) ?_
                  refine own_goto X327 (pc' := 373) at_369 (by decide) (by decide) ?_
                  subst hΦ
                  exact own_retZ X327 at_373 (by decide) (by decide) (by decide) rfl trivial
                · rw [e319_1] at F319_n
                  refine own_iload X318 (pc' := 306) at_304 rfl rfl ?_
                  refine own_aload X318 (pc' := 308) at_306 rfl rfl rfl ?_
                  refine own_iload X318 (pc' := 310) at_308 rfl rfl ?_
                  refine own_aload X318 (pc' := 312) at_310 rfl rfl rfl ?_
                  refine own_iconst X318 (v := (0 : Int32)) (pc' := 313) at_312 rfl (by decide) ?_
                  refine own_iaload X318 (v := u0) (pc' := 314) A322 rfl rfl at_313 rfl ?_
                  refine own_callS X318 (W := 1) (argsL := [(.ref ad4), (.int (2 : Int32)), (.int u0)]) (rest := [(.int (own_hd [s0, s1] u0))]) (S' := [(.int (own_mb [s0, s1] u0)), (.int (own_hd [s0, s1] u0))]) (pc' := 317) (rm6_2 l Z a0 hw n0 ad4 u0 h318 X318.size s0 s1 s2 A320) (hw _ (List.mem_of_getElem? (i := 26) rfl)) (hw _ (List.mem_of_getElem? (i := 27) rfl)) (hw _ (List.mem_of_getElem? (i := 3) rfl)) (hw _ (List.mem_of_getElem? (i := 28) rfl)) (by decide) (by decide) (by decide) rfl rfl (by decide) (by decide) (lenOf pd_4 rfl) rfl (by first | decide | exact Nat.le_of_eq rfl) rfl at_314 rfl rfl ?_
                  intro T328 h328 X328 qq328
                  rw [show h328 = h318 from qq328] at X328
                  refine own_icmp_ne X328 (pct := 372) (pc' := 320) at_317 rfl (by decide) (by decide) (fun hc => absurd hc (fun q => q (own_hm_2_0 s0 s1 s2 u0 hs1 hs2 ))) (fun _ => ?_)
                  refine own_iload X328 (pc' := 322) at_320 rfl rfl ?_
                  refine own_aload X328 (pc' := 324) at_322 rfl rfl rfl ?_
                  refine own_iload X328 (pc' := 326) at_324 rfl rfl ?_
                  refine own_aload X328 (pc' := 328) at_326 rfl rfl rfl ?_
                  refine own_iconst X328 (v := (1 : Int32)) (pc' := 329) at_328 rfl (by decide) ?_
                  refine own_iaload X328 (v := u1) (pc' := 330) A322 rfl rfl at_329 rfl ?_
                  refine own_callS X328 (W := 1) (argsL := [(.ref ad4), (.int (2 : Int32)), (.int u1)]) (rest := [(.int (own_hd [s0, s1] u1))]) (S' := [(.int (own_mb [s0, s1] u1)), (.int (own_hd [s0, s1] u1))]) (pc' := 333) (rm6_2 l Z a0 hw n0 ad4 u1 h318 X328.size s0 s1 s2 A320) (hw _ (List.mem_of_getElem? (i := 26) rfl)) (hw _ (List.mem_of_getElem? (i := 27) rfl)) (hw _ (List.mem_of_getElem? (i := 3) rfl)) (hw _ (List.mem_of_getElem? (i := 28) rfl)) (by decide) (by decide) (by decide) rfl rfl (by decide) (by decide) (lenOf pd_4 rfl) rfl (by first | decide | exact Nat.le_of_eq rfl) rfl at_330 rfl rfl ?_
                  intro T329 h329 X329 qq329
                  rw [show h329 = h318 from qq329] at X329
                  refine own_icmp_ne X329 (pct := 372) (pc' := 336) at_333 rfl (by decide) (by decide) (fun hc => absurd hc (fun q => q (own_hm_2_0 s0 s1 s2 u1 hs1 hs2 ))) (fun _ => ?_)
                  refine own_iload X329 (pc' := 338) at_336 rfl rfl ?_
                  refine own_aload X329 (pc' := 340) at_338 rfl rfl rfl ?_
                  refine own_iload X329 (pc' := 342) at_340 rfl rfl ?_
                  refine own_aload X329 (pc' := 344) at_342 rfl rfl rfl ?_
                  refine own_iconst X329 (v := (2 : Int32)) (pc' := 345) at_344 rfl (by decide) ?_
                  refine own_iaload X329 (v := u2) (pc' := 346) A322 rfl rfl at_345 rfl ?_
                  refine own_callS X329 (W := 1) (argsL := [(.ref ad4), (.int (2 : Int32)), (.int u2)]) (rest := [(.int (own_hd [s0, s1] u2))]) (S' := [(.int (own_mb [s0, s1] u2)), (.int (own_hd [s0, s1] u2))]) (pc' := 349) (rm6_2 l Z a0 hw n0 ad4 u2 h318 X329.size s0 s1 s2 A320) (hw _ (List.mem_of_getElem? (i := 26) rfl)) (hw _ (List.mem_of_getElem? (i := 27) rfl)) (hw _ (List.mem_of_getElem? (i := 3) rfl)) (hw _ (List.mem_of_getElem? (i := 28) rfl)) (by decide) (by decide) (by decide) rfl rfl (by decide) (by decide) (lenOf pd_4 rfl) rfl (by first | decide | exact Nat.le_of_eq rfl) rfl at_346 rfl rfl ?_
                  intro T330 h330 X330 qq330
                  rw [show h330 = h318 from qq330] at X330
                  refine own_icmp_ne X330 (pct := 372) (pc' := 352) at_349 rfl (by decide) (by decide) (fun hc => absurd hc (fun q => q (own_hm_2_0 s0 s1 s2 u2 hs1 hs2 ))) (fun _ => ?_)
                  refine own_iload X330 (pc' := 354) at_352 rfl rfl ?_
                  refine own_aload X330 (pc' := 356) at_354 rfl rfl rfl ?_
                  refine own_iload X330 (pc' := 358) at_356 rfl rfl ?_
                  refine own_aload X330 (pc' := 360) at_358 rfl rfl rfl ?_
                  refine own_iconst X330 (v := (3 : Int32)) (pc' := 361) at_360 rfl (by decide) ?_
                  refine own_iaload X330 (v := u3) (pc' := 362) A322 rfl rfl at_361 rfl ?_
                  refine own_callS X330 (W := 1) (argsL := [(.ref ad4), (.int (2 : Int32)), (.int u3)]) (rest := [(.int (own_hd [s1] u3))]) (S' := [(.int (own_mb [s0, s1] u3)), (.int (own_hd [s1] u3))]) (pc' := 365) (rm6_2 l Z a0 hw n0 ad4 u3 h318 X330.size s0 s1 s2 A320) (hw _ (List.mem_of_getElem? (i := 26) rfl)) (hw _ (List.mem_of_getElem? (i := 27) rfl)) (hw _ (List.mem_of_getElem? (i := 3) rfl)) (hw _ (List.mem_of_getElem? (i := 28) rfl)) (by decide) (by decide) (by decide) rfl rfl (by decide) (by decide) (lenOf pd_4 rfl) rfl (by first | decide | exact Nat.le_of_eq rfl) rfl at_362 rfl rfl ?_
                  intro T331 h331 X331 qq331
                  rw [show h331 = h318 from qq331] at X331
                  refine own_icmp_ne X331 (pct := 372) (pc' := 368) at_365 rfl (by decide) (by decide) (fun hc => absurd hc (fun q => q (own_hm_2_1 s0 s1 s2 u3 hs1 hs2 (by omega)))) (fun _ => ?_)
                  refine own_iconst X331 (v := (1 : Int32)) (pc' := 369) at_368 rfl (by decide) ?_
                  refine own_goto X331 (pc' := 373) at_369 (by decide) (by decide) ?_
                  subst hΦ
                  exact own_retZ X331 at_373 (by decide) (by decide) (by decide) rfl trivial
              · rw [e295_2] at F295_n
                refine own_aload X294 (pc' := 295) at_293 rfl rfl rfl ?_
                refine own_aload X294 (pc' := 297) at_295 rfl rfl rfl ?_
                refine own_iconst X294 (v := (3 : Int32)) (pc' := 298) at_297 rfl (by decide) ?_
                refine own_iaload X294 (v := u3) (pc' := 299) A298 rfl rfl at_298 rfl ?_
                refine own_callV X294 (W := 0) (a := ad272) (argsL := [(.int u3)]) (rest := []) (S' := [(.int (own_hd [] u3))]) (pc' := 302) (rm5_22 l Z a0 hw n0 ad272 u3 h294 X294.size ad227 s0 s1 ⟨Ex295, F295_d, F295_n⟩ A297 ge_ad272 ne_ad227_ad272) Ex295 (hw _ (List.mem_of_getElem? (i := 19) rfl)) (hw _ (List.mem_of_getElem? (i := 20) rfl)) (hw _ (List.mem_of_getElem? (i := 22) rfl)) (hw _ (List.mem_of_getElem? (i := 21) rfl)) (hw _ (List.mem_of_getElem? (i := 10) rfl)) (hw _ (List.mem_of_getElem? (i := 23) rfl)) (by decide) (by decide) (by decide) rfl rfl (by decide) (by decide) (lenOf pd_3 rfl) rfl (by first | decide | exact Nat.le_of_eq rfl) rfl at_299 rfl rfl ?_
                intro T332 h332 X332 qq332
                obtain ⟨⟨Ex333, F333_d, F333_n⟩, K333⟩ := qq332
                have A334 := A296.keep K333 (ninS ne_ad4_ad272 nin0)
                have A335 := A297.keep K333 (ninS ne_ad227_ad272 nin0)
                have A336 := A298.keep K333 (ninS ne_ad233_ad272 nin0)
                have Ex337 := Ex295.keep K333
                refine own_istore X332 (pc' := 304) (Ls' := #[.val (.int x0), .val (.int x1), .val (.int x2), .val (.int sel), .val (.int pp), .val (.int rr), .val (.ref ad4), .val (.int (2 : Int32)), .val (.ref ad227), .val (.ref ad233), .val (.ref ad272), .val (.int (own_hd [s0, s1] u0)), .val (.int (own_hd [s0, s1] u1)), .val (.int (own_hd [s0, s1] u2)), .val (.int (own_hd [] u3))]) at_302 rfl rfl ?_
                have e333_0 := own_nc_2_2 0 u3
                rw [e333_0] at F333_n
                refine own_iload X332 (pc' := 306) at_304 rfl rfl ?_
                refine own_aload X332 (pc' := 308) at_306 rfl rfl rfl ?_
                refine own_iload X332 (pc' := 310) at_308 rfl rfl ?_
                refine own_aload X332 (pc' := 312) at_310 rfl rfl rfl ?_
                refine own_iconst X332 (v := (0 : Int32)) (pc' := 313) at_312 rfl (by decide) ?_
                refine own_iaload X332 (v := u0) (pc' := 314) A336 rfl rfl at_313 rfl ?_
                refine own_callS X332 (W := 1) (argsL := [(.ref ad4), (.int (2 : Int32)), (.int u0)]) (rest := [(.int (own_hd [s0, s1] u0))]) (S' := [(.int (own_mb [s0, s1] u0)), (.int (own_hd [s0, s1] u0))]) (pc' := 317) (rm6_2 l Z a0 hw n0 ad4 u0 h332 X332.size s0 s1 s2 A334) (hw _ (List.mem_of_getElem? (i := 26) rfl)) (hw _ (List.mem_of_getElem? (i := 27) rfl)) (hw _ (List.mem_of_getElem? (i := 3) rfl)) (hw _ (List.mem_of_getElem? (i := 28) rfl)) (by decide) (by decide) (by decide) rfl rfl (by decide) (by decide) (lenOf pd_4 rfl) rfl (by first | decide | exact Nat.le_of_eq rfl) rfl at_314 rfl rfl ?_
                intro T338 h338 X338 qq338
                rw [show h338 = h332 from qq338] at X338
                refine own_icmp_ne X338 (pct := 372) (pc' := 320) at_317 rfl (by decide) (by decide) (fun hc => absurd hc (fun q => q (own_hm_2_0 s0 s1 s2 u0 hs1 hs2 ))) (fun _ => ?_)
                refine own_iload X338 (pc' := 322) at_320 rfl rfl ?_
                refine own_aload X338 (pc' := 324) at_322 rfl rfl rfl ?_
                refine own_iload X338 (pc' := 326) at_324 rfl rfl ?_
                refine own_aload X338 (pc' := 328) at_326 rfl rfl rfl ?_
                refine own_iconst X338 (v := (1 : Int32)) (pc' := 329) at_328 rfl (by decide) ?_
                refine own_iaload X338 (v := u1) (pc' := 330) A336 rfl rfl at_329 rfl ?_
                refine own_callS X338 (W := 1) (argsL := [(.ref ad4), (.int (2 : Int32)), (.int u1)]) (rest := [(.int (own_hd [s0, s1] u1))]) (S' := [(.int (own_mb [s0, s1] u1)), (.int (own_hd [s0, s1] u1))]) (pc' := 333) (rm6_2 l Z a0 hw n0 ad4 u1 h332 X338.size s0 s1 s2 A334) (hw _ (List.mem_of_getElem? (i := 26) rfl)) (hw _ (List.mem_of_getElem? (i := 27) rfl)) (hw _ (List.mem_of_getElem? (i := 3) rfl)) (hw _ (List.mem_of_getElem? (i := 28) rfl)) (by decide) (by decide) (by decide) rfl rfl (by decide) (by decide) (lenOf pd_4 rfl) rfl (by first | decide | exact Nat.le_of_eq rfl) rfl at_330 rfl rfl ?_
                intro T339 h339 X339 qq339
                rw [show h339 = h332 from qq339] at X339
                refine own_icmp_ne X339 (pct := 372) (pc' := 336) at_333 rfl (by decide) (by decide) (fun hc => absurd hc (fun q => q (own_hm_2_0 s0 s1 s2 u1 hs1 hs2 ))) (fun _ => ?_)
                refine own_iload X339 (pc' := 338) at_336 rfl rfl ?_
                refine own_aload X339 (pc' := 340) at_338 rfl rfl rfl ?_
                refine own_iload X339 (pc' := 342) at_340 rfl rfl ?_
                refine own_aload X339 (pc' := 344) at_342 rfl rfl rfl ?_
                refine own_iconst X339 (v := (2 : Int32)) (pc' := 345) at_344 rfl (by decide) ?_
                refine own_iaload X339 (v := u2) (pc' := 346) A336 rfl rfl at_345 rfl ?_
                refine own_callS X339 (W := 1) (argsL := [(.ref ad4), (.int (2 : Int32)), (.int u2)]) (rest := [(.int (own_hd [s0, s1] u2))]) (S' := [(.int (own_mb [s0, s1] u2)), (.int (own_hd [s0, s1] u2))]) (pc' := 349) (rm6_2 l Z a0 hw n0 ad4 u2 h332 X339.size s0 s1 s2 A334) (hw _ (List.mem_of_getElem? (i := 26) rfl)) (hw _ (List.mem_of_getElem? (i := 27) rfl)) (hw _ (List.mem_of_getElem? (i := 3) rfl)) (hw _ (List.mem_of_getElem? (i := 28) rfl)) (by decide) (by decide) (by decide) rfl rfl (by decide) (by decide) (lenOf pd_4 rfl) rfl (by first | decide | exact Nat.le_of_eq rfl) rfl at_346 rfl rfl ?_
                intro T340 h340 X340 qq340
                rw [show h340 = h332 from qq340] at X340
                refine own_icmp_ne X340 (pct := 372) (pc' := 352) at_349 rfl (by decide) (by decide) (fun hc => absurd hc (fun q => q (own_hm_2_0 s0 s1 s2 u2 hs1 hs2 ))) (fun _ => ?_)
                refine own_iload X340 (pc' := 354) at_352 rfl rfl ?_
                refine own_aload X340 (pc' := 356) at_354 rfl rfl rfl ?_
                refine own_iload X340 (pc' := 358) at_356 rfl rfl ?_
                refine own_aload X340 (pc' := 360) at_358 rfl rfl rfl ?_
                refine own_iconst X340 (v := (3 : Int32)) (pc' := 361) at_360 rfl (by decide) ?_
                refine own_iaload X340 (v := u3) (pc' := 362) A336 rfl rfl at_361 rfl ?_
                refine own_callS X340 (W := 1) (argsL := [(.ref ad4), (.int (2 : Int32)), (.int u3)]) (rest := [(.int (own_hd [] u3))]) (S' := [(.int (own_mb [s0, s1] u3)), (.int (own_hd [] u3))]) (pc' := 365) (rm6_2 l Z a0 hw n0 ad4 u3 h332 X340.size s0 s1 s2 A334) (hw _ (List.mem_of_getElem? (i := 26) rfl)) (hw _ (List.mem_of_getElem? (i := 27) rfl)) (hw _ (List.mem_of_getElem? (i := 3) rfl)) (hw _ (List.mem_of_getElem? (i := 28) rfl)) (by decide) (by decide) (by decide) rfl rfl (by decide) (by decide) (lenOf pd_4 rfl) rfl (by first | decide | exact Nat.le_of_eq rfl) rfl at_362 rfl rfl ?_
                intro T341 h341 X341 qq341
                rw [show h341 = h332 from qq341] at X341
                refine own_icmp_ne X341 (pct := 372) (pc' := 368) at_365 rfl (by decide) (by decide) (fun hc => absurd hc (fun q => q (own_hm_2_2 s0 s1 s2 u3 hs1 hs2 (by omega) (by omega)))) (fun _ => ?_)
                refine own_iconst X341 (v := (1 : Int32)) (pc' := 369) at_368 rfl (by decide) ?_
                refine own_goto X341 (pc' := 373) at_369 (by decide) (by decide) ?_
                subst hΦ
                exact own_retZ X341 at_373 (by decide) (by decide) (by decide) rfl trivial
            · rw [e289_1] at F289_n
              refine own_aload X288 (pc' := 284) at_282 rfl rfl rfl ?_
              refine own_aload X288 (pc' := 286) at_284 rfl rfl rfl ?_
              refine own_iconst X288 (v := (2 : Int32)) (pc' := 287) at_286 rfl (by decide) ?_
              refine own_iaload X288 (v := u2) (pc' := 288) A292 rfl rfl at_287 rfl ?_
              refine own_callV X288 (W := 0) (a := ad272) (argsL := [(.int u2)]) (rest := []) (S' := [(.int (own_hd [s1] u2))]) (pc' := 291) (rm5_21 l Z a0 hw n0 ad272 u2 h288 X288.size ad227 s0 s1 ⟨Ex289, F289_d, F289_n⟩ A291 ge_ad272 ne_ad227_ad272) Ex289 (hw _ (List.mem_of_getElem? (i := 19) rfl)) (hw _ (List.mem_of_getElem? (i := 20) rfl)) (hw _ (List.mem_of_getElem? (i := 22) rfl)) (hw _ (List.mem_of_getElem? (i := 21) rfl)) (hw _ (List.mem_of_getElem? (i := 10) rfl)) (hw _ (List.mem_of_getElem? (i := 23) rfl)) (by decide) (by decide) (by decide) rfl rfl (by decide) (by decide) (lenOf pd_3 rfl) rfl (by first | decide | exact Nat.le_of_eq rfl) rfl at_288 rfl rfl ?_
              intro T342 h342 X342 qq342
              obtain ⟨⟨Ex343, F343_d, F343_n⟩, K343⟩ := qq342
              have A344 := A290.keep K343 (ninS ne_ad4_ad272 nin0)
              have A345 := A291.keep K343 (ninS ne_ad227_ad272 nin0)
              have A346 := A292.keep K343 (ninS ne_ad233_ad272 nin0)
              have Ex347 := Ex289.keep K343
              refine own_istore X342 (pc' := 293) (Ls' := #[.val (.int x0), .val (.int x1), .val (.int x2), .val (.int sel), .val (.int pp), .val (.int rr), .val (.ref ad4), .val (.int (2 : Int32)), .val (.ref ad227), .val (.ref ad233), .val (.ref ad272), .val (.int (own_hd [s0, s1] u0)), .val (.int (own_hd [s0, s1] u1)), .val (.int (own_hd [s1] u2)), .unset]) at_291 rfl rfl ?_
              rcases own_nc_2_1 s1 u2 with e343_0 | ⟨e343_1, f343_1_0⟩
              · rw [e343_0] at F343_n
                refine own_aload X342 (pc' := 295) at_293 rfl rfl rfl ?_
                refine own_aload X342 (pc' := 297) at_295 rfl rfl rfl ?_
                refine own_iconst X342 (v := (3 : Int32)) (pc' := 298) at_297 rfl (by decide) ?_
                refine own_iaload X342 (v := u3) (pc' := 299) A346 rfl rfl at_298 rfl ?_
                refine own_callV X342 (W := 0) (a := ad272) (argsL := [(.int u3)]) (rest := []) (S' := [(.int (own_hd [s1] u3))]) (pc' := 302) (rm5_21 l Z a0 hw n0 ad272 u3 h342 X342.size ad227 s0 s1 ⟨Ex343, F343_d, F343_n⟩ A345 ge_ad272 ne_ad227_ad272) Ex343 (hw _ (List.mem_of_getElem? (i := 19) rfl)) (hw _ (List.mem_of_getElem? (i := 20) rfl)) (hw _ (List.mem_of_getElem? (i := 22) rfl)) (hw _ (List.mem_of_getElem? (i := 21) rfl)) (hw _ (List.mem_of_getElem? (i := 10) rfl)) (hw _ (List.mem_of_getElem? (i := 23) rfl)) (by decide) (by decide) (by decide) rfl rfl (by decide) (by decide) (lenOf pd_3 rfl) rfl (by first | decide | exact Nat.le_of_eq rfl) rfl at_299 rfl rfl ?_
                intro T348 h348 X348 qq348
                obtain ⟨⟨Ex349, F349_d, F349_n⟩, K349⟩ := qq348
                have A350 := A344.keep K349 (ninS ne_ad4_ad272 nin0)
                have A351 := A345.keep K349 (ninS ne_ad227_ad272 nin0)
                have A352 := A346.keep K349 (ninS ne_ad233_ad272 nin0)
                have Ex353 := Ex343.keep K349
                refine own_istore X348 (pc' := 304) (Ls' := #[.val (.int x0), .val (.int x1), .val (.int x2), .val (.int sel), .val (.int pp), .val (.int rr), .val (.ref ad4), .val (.int (2 : Int32)), .val (.ref ad227), .val (.ref ad233), .val (.ref ad272), .val (.int (own_hd [s0, s1] u0)), .val (.int (own_hd [s0, s1] u1)), .val (.int (own_hd [s1] u2)), .val (.int (own_hd [s1] u3))]) at_302 rfl rfl ?_
                rcases own_nc_2_1 s1 u3 with e349_0 | ⟨e349_1, f349_1_0⟩
                · rw [e349_0] at F349_n
                  refine own_iload X348 (pc' := 306) at_304 rfl rfl ?_
                  refine own_aload X348 (pc' := 308) at_306 rfl rfl rfl ?_
                  refine own_iload X348 (pc' := 310) at_308 rfl rfl ?_
                  refine own_aload X348 (pc' := 312) at_310 rfl rfl rfl ?_
                  refine own_iconst X348 (v := (0 : Int32)) (pc' := 313) at_312 rfl (by decide) ?_
                  refine own_iaload X348 (v := u0) (pc' := 314) A352 rfl rfl at_313 rfl ?_
                  refine own_callS X348 (W := 1) (argsL := [(.ref ad4), (.int (2 : Int32)), (.int u0)]) (rest := [(.int (own_hd [s0, s1] u0))]) (S' := [(.int (own_mb [s0, s1] u0)), (.int (own_hd [s0, s1] u0))]) (pc' := 317) (rm6_2 l Z a0 hw n0 ad4 u0 h348 X348.size s0 s1 s2 A350) (hw _ (List.mem_of_getElem? (i := 26) rfl)) (hw _ (List.mem_of_getElem? (i := 27) rfl)) (hw _ (List.mem_of_getElem? (i := 3) rfl)) (hw _ (List.mem_of_getElem? (i := 28) rfl)) (by decide) (by decide) (by decide) rfl rfl (by decide) (by decide) (lenOf pd_4 rfl) rfl (by first | decide | exact Nat.le_of_eq rfl) rfl at_314 rfl rfl ?_
                  intro T354 h354 X354 qq354
                  rw [show h354 = h348 from qq354] at X354
                  refine own_icmp_ne X354 (pct := 372) (pc' := 320) at_317 rfl (by decide) (by decide) (fun hc => absurd hc (fun q => q (own_hm_2_0 s0 s1 s2 u0 hs1 hs2 ))) (fun _ => ?_)
                  refine own_iload X354 (pc' := 322) at_320 rfl rfl ?_
                  refine own_aload X354 (pc' := 324) at_322 rfl rfl rfl ?_
                  refine own_iload X354 (pc' := 326) at_324 rfl rfl ?_
                  refine own_aload X354 (pc' := 328) at_326 rfl rfl rfl ?_
                  refine own_iconst X354 (v := (1 : Int32)) (pc' := 329) at_328 rfl (by decide) ?_
                  refine own_iaload X354 (v := u1) (pc' := 330) A352 rfl rfl at_329 rfl ?_
                  refine own_callS X354 (W := 1) (argsL := [(.ref ad4), (.int (2 : Int32)), (.int u1)]) (rest := [(.int (own_hd [s0, s1] u1))]) (S' := [(.int (own_mb [s0, s1] u1)), (.int (own_hd [s0, s1] u1))]) (pc' := 333) (rm6_2 l Z a0 hw n0 ad4 u1 h348 X354.size s0 s1 s2 A350) (hw _ (List.mem_of_getElem? (i := 26) rfl)) (hw _ (List.mem_of_getElem? (i := 27) rfl)) (hw _ (List.mem_of_getElem? (i := 3) rfl)) (hw _ (List.mem_of_getElem? (i := 28) rfl)) (by decide) (by decide) (by decide) rfl rfl (by decide) (by decide) (lenOf pd_4 rfl) rfl (by first | decide | exact Nat.le_of_eq rfl) rfl at_330 rfl rfl ?_
                  intro T355 h355 X355 qq355
                  rw [show h355 = h348 from qq355] at X355
                  refine own_icmp_ne X355 (pct := 372) (pc' := 336) at_333 rfl (by decide) (by decide) (fun hc => absurd hc (fun q => q (own_hm_2_0 s0 s1 s2 u1 hs1 hs2 ))) (fun _ => ?_)
                  refine own_iload X355 (pc' := 338) at_336 rfl rfl ?_
                  refine own_aload X355 (pc' := 340) at_338 rfl rfl rfl ?_
                  refine own_iload X355 (pc' := 342) at_340 rfl rfl ?_
                  refine own_aload X355 (pc' := 344) at_342 rfl rfl rfl ?_
                  refine own_iconst X355 (v := (2 : Int32)) (pc' := 345) at_344 rfl (by decide) ?_
                  refine own_iaload X355 (v := u2) (pc' := 346) A352 rfl rfl at_345 rfl ?_
                  refine own_callS X355 (W := 1) (argsL := [(.ref ad4), (.int (2 : Int32)), (.int u2)]) (rest := [(.int (own_hd [s1] u2))]) (S' := [(.int (own_mb [s0, s1] u2)), (.int (own_hd [s1] u2))]) (pc' := 349) (rm6_2 l Z a0 hw n0 ad4 u2 h348 X355.size s0 s1 s2 A350) (hw _ (List.mem_of_getElem? (i := 26) rfl)) (hw _ (List.mem_of_getElem? (i := 27) rfl)) (hw _ (List.mem_of_getElem? (i := 3) rfl)) (hw _ (List.mem_of_getElem? (i := 28) rfl)) (by decide) (by decide) (by decide) rfl rfl (by decide) (by decide) (lenOf pd_4 rfl) rfl (by first | decide | exact Nat.le_of_eq rfl) rfl at_346 rfl rfl ?_
                  intro T356 h356 X356 qq356
                  rw [show h356 = h348 from qq356] at X356
                  refine own_icmp_ne X356 (pct := 372) (pc' := 352) at_349 rfl (by decide) (by decide) (fun hc => absurd hc (fun q => q (own_hm_2_1 s0 s1 s2 u2 hs1 hs2 (by omega)))) (fun _ => ?_)
                  refine own_iload X356 (pc' := 354) at_352 rfl rfl ?_
                  refine own_aload X356 (pc' := 356) at_354 rfl rfl rfl ?_
                  refine own_iload X356 (pc' := 358) at_356 rfl rfl ?_
                  refine own_aload X356 (pc' := 360) at_358 rfl rfl rfl ?_
                  refine own_iconst X356 (v := (3 : Int32)) (pc' := 361) at_360 rfl (by decide) ?_
                  refine own_iaload X356 (v := u3) (pc' := 362) A352 rfl rfl at_361 rfl ?_
                  refine own_callS X356 (W := 1) (argsL := [(.ref ad4), (.int (2 : Int32)), (.int u3)]) (rest := [(.int (own_hd [s1] u3))]) (S' := [(.int (own_mb [s0, s1] u3)), (.int (own_hd [s1] u3))]) (pc' := 365) (rm6_2 l Z a0 hw n0 ad4 u3 h348 X356.size s0 s1 s2 A350) (hw _ (List.mem_of_getElem? (i := 26) rfl)) (hw _ (List.mem_of_getElem? (i := 27) rfl)) (hw _ (List.mem_of_getElem? (i := 3) rfl)) (hw _ (List.mem_of_getElem? (i := 28) rfl)) (by decide) (by decide) (by decide) rfl rfl (by decide) (by decide) (lenOf pd_4 rfl) rfl (by first | decide | exact Nat.le_of_eq rfl) rfl at_362 rfl rfl ?_
                  intro T357 h357 X357 qq357
                  rw [show h357 = h348 from qq357] at X357
                  refine own_icmp_ne X357 (pct := 372) (pc' := 368) at_365 rfl (by decide) (by decide) (fun hc => absurd hc (fun q => q (own_hm_2_1 s0 s1 s2 u3 hs1 hs2 (by omega)))) (fun _ => ?_)
                  refine own_iconst X357 (v := (1 : Int32)) (pc' := 369) at_368 rfl (by decide) ?_
                  refine own_goto X357 (pc' := 373) at_369 (by decide) (by decide) ?_
                  subst hΦ
                  exact own_retZ X357 at_373 (by decide) (by decide) (by decide) rfl trivial
                · rw [e349_1] at F349_n
                  refine own_iload X348 (pc' := 306) at_304 rfl rfl ?_
                  refine own_aload X348 (pc' := 308) at_306 rfl rfl rfl ?_
                  refine own_iload X348 (pc' := 310) at_308 rfl rfl ?_
                  refine own_aload X348 (pc' := 312) at_310 rfl rfl rfl ?_
                  refine own_iconst X348 (v := (0 : Int32)) (pc' := 313) at_312 rfl (by decide) ?_
                  refine own_iaload X348 (v := u0) (pc' := 314) A352 rfl rfl at_313 rfl ?_
                  refine own_callS X348 (W := 1) (argsL := [(.ref ad4), (.int (2 : Int32)), (.int u0)]) (rest := [(.int (own_hd [s0, s1] u0))]) (S' := [(.int (own_mb [s0, s1] u0)), (.int (own_hd [s0, s1] u0))]) (pc' := 317) (rm6_2 l Z a0 hw n0 ad4 u0 h348 X348.size s0 s1 s2 A350) (hw _ (List.mem_of_getElem? (i := 26) rfl)) (hw _ (List.mem_of_getElem? (i := 27) rfl)) (hw _ (List.mem_of_getElem? (i := 3) rfl)) (hw _ (List.mem_of_getElem? (i := 28) rfl)) (by decide) (by decide) (by decide) rfl rfl (by decide) (by decide) (lenOf pd_4 rfl) rfl (by first | decide | exact Nat.le_of_eq rfl) rfl at_314 rfl rfl ?_
                  intro T358 h358 X358 qq358
                  rw [show h358 = h348 from qq358] at X358
                  refine own_icmp_ne X358 (pct := 372) (pc' := 320) at_317 rfl (by decide) (by decide) (fun hc => absurd hc (fun q => q (own_hm_2_0 s0 s1 s2 u0 hs1 hs2 ))) (fun _ => ?_)
                  refine own_iload X358 (pc' := 322) at_320 rfl rfl ?_
                  refine own_aload X358 (pc' := 324) at_322 rfl rfl rfl ?_
                  refine own_iload X358 (pc' := 326) at_324 rfl rfl ?_
                  refine own_aload X358 (pc' := 328) at_326 rfl rfl rfl ?_
                  refine own_iconst X358 (v := (1 : Int32)) (pc' := 329) at_328 rfl (by decide) ?_
                  refine own_iaload X358 (v := u1) (pc' := 330) A352 rfl rfl at_329 rfl ?_
                  refine own_callS X358 (W := 1) (argsL := [(.ref ad4), (.int (2 : Int32)), (.int u1)]) (rest := [(.int (own_hd [s0, s1] u1))]) (S' := [(.int (own_mb [s0, s1] u1)), (.int (own_hd [s0, s1] u1))]) (pc' := 333) (rm6_2 l Z a0 hw n0 ad4 u1 h348 X358.size s0 s1 s2 A350) (hw _ (List.mem_of_getElem? (i := 26) rfl)) (hw _ (List.mem_of_getElem? (i := 27) rfl)) (hw _ (List.mem_of_getElem? (i := 3) rfl)) (hw _ (List.mem_of_getElem? (i := 28) rfl)) (by decide) (by decide) (by decide) rfl rfl (by decide) (by decide) (lenOf pd_4 rfl) rfl (by first | decide | exact Nat.le_of_eq rfl) rfl at_330 rfl rfl ?_
                  intro T359 h359 X359 qq359
                  rw [show h359 = h348 from qq359] at X359
                  refine own_icmp_ne X359 (pct := 372) (pc' := 336) at_333 rfl (by decide) (by decide) (fun hc => absurd hc (fun q => q (own_hm_2_0 s0 s1 s2 u1 hs1 hs2 ))) (fun _ => ?_)
                  refine own_iload X359 (pc' := 338) at_336 rfl rfl ?_
                  refine own_aload X359 (pc' := 340) at_338 rfl rfl rfl ?_
                  refine own_iload X359 (pc' := 342) at_340 rfl rfl ?_
                  refine own_aload X359 (pc' := 344) at_342 rfl rfl rfl ?_
                  refine own_iconst X359 (v := (2 : Int32)) (pc' := 345) at_344 rfl (by decide) ?_
                  refine own_iaload X359 (v := u2) (pc' := 346) A352 rfl rfl at_345 rfl ?_
                  refine own_callS X359 (W := 1) (argsL := [(.ref ad4), (.int (2 : Int32)), (.int u2)]) (rest := [(.int (own_hd [s1] u2))]) (S' := [(.int (own_mb [s0, s1] u2)), (.int (own_hd [s1] u2))]) (pc' := 349) (rm6_2 l Z a0 hw n0 ad4 u2 h348 X359.size s0 s1 s2 A350) (hw _ (List.mem_of_getElem? (i := 26) rfl)) (hw _ (List.mem_of_getElem? (i := 27) rfl)) (hw _ (List.mem_of_getElem? (i := 3) rfl)) (hw _ (List.mem_of_getElem? (i := 28) rfl)) (by decide) (by decide) (by decide) rfl rfl (by decide) (by decide) (lenOf pd_4 rfl) rfl (by first | decide | exact Nat.le_of_eq rfl) rfl at_346 rfl rfl ?_
                  intro T360 h360 X360 qq360
                  rw [show h360 = h348 from qq360] at X360
                  refine own_icmp_ne X360 (pct := 372) (pc' := 352) at_349 rfl (by decide) (by decide) (fun hc => absurd hc (fun q => q (own_hm_2_1 s0 s1 s2 u2 hs1 hs2 (by omega)))) (fun _ => ?_)
                  refine own_iload X360 (pc' := 354) at_352 rfl rfl ?_
                  refine own_aload X360 (pc' := 356) at_354 rfl rfl rfl ?_
                  refine own_iload X360 (pc' := 358) at_356 rfl rfl ?_
                  refine own_aload X360 (pc' := 360) at_358 rfl rfl rfl ?_
                  refine own_iconst X360 (v := (3 : Int32)) (pc' := 361) at_360 rfl (by decide) ?_
                  refine own_iaload X360 (v := u3) (pc' := 362) A352 rfl rfl at_361 rfl ?_
                  refine own_callS X360 (W := 1) (argsL := [(.ref ad4), (.int (2 : Int32)), (.int u3)]) (rest := [(.int (own_hd [s1] u3))]) (S' := [(.int (own_mb [s0, s1] u3)), (.int (own_hd [s1] u3))]) (pc' := 365) (rm6_2 l Z a0 hw n0 ad4 u3 h348 X360.size s0 s1 s2 A350) (hw _ (List.mem_of_getElem? (i := 26) rfl)) (hw _ (List.mem_of_getElem? (i := 27) rfl)) (hw _ (List.mem_of_getElem? (i := 3) rfl)) (hw _ (List.mem_of_getElem? (i := 28) rfl)) (by decide) (by decide) (by decide) rfl rfl (by decide) (by decide) (lenOf pd_4 rfl) rfl (by first | decide | exact Nat.le_of_eq rfl) rfl at_362 rfl rfl ?_
                  intro T361 h361 X361 qq361
                  rw [show h361 = h348 from qq361] at X361
                  refine own_icmp_ne X361 (pct := 372) (pc' := 368) at_365 rfl (by decide) (by decide) (fun hc => absurd hc (fun q => q (own_hm_2_1 s0 s1 s2 u3 hs1 hs2 (by omega)))) (fun _ => ?_)
                  refine own_iconst X361 (v := (1 : Int32)) (pc' := 369) at_368 rfl (by decide) ?_
                  refine own_goto X361 (pc' := 373) at_369 (by decide) (by decide) ?_
                  subst hΦ
                  exact own_retZ X361 at_373 (by decide) (by decide) (by decide) rfl trivial
              · rw [e343_1] at F343_n
                refine own_aload X342 (pc' := 295) at_293 rfl rfl rfl ?_
                refine own_aload X342 (pc' := 297) at_295 rfl rfl rfl ?_
                refine own_iconst X342 (v := (3 : Int32)) (pc' := 298) at_297 rfl (by decide) ?_
                refine own_iaload X342 (v := u3) (pc' := 299) A346 rfl rfl at_298 rfl ?_
                refine own_callV X342 (W := 0) (a := ad272) (argsL := [(.int u3)]) (rest := []) (S' := [(.int (own_hd [] u3))]) (pc' := 302) (rm5_22 l Z a0 hw n0 ad272 u3 h342 X342.size ad227 s0 s1 ⟨Ex343, F343_d, F343_n⟩ A345 ge_ad272 ne_ad227_ad272) Ex343 (hw _ (List.mem_of_getElem? (i := 19) rfl)) (hw _ (List.mem_of_getElem? (i := 20) rfl)) (hw _ (List.mem_of_getElem? (i := 22) rfl)) (hw _ (List.mem_of_getElem? (i := 21) rfl)) (hw _ (List.mem_of_getElem? (i := 10) rfl)) (hw _ (List.mem_of_getElem? (i := 23) rfl)) (by decide) (by decide) (by decide) rfl rfl (by decide) (by decide) (lenOf pd_3 rfl) rfl (by first | decide | exact Nat.le_of_eq rfl) rfl at_299 rfl rfl ?_
                intro T362 h362 X362 qq362
                obtain ⟨⟨Ex363, F363_d, F363_n⟩, K363⟩ := qq362
                have A364 := A344.keep K363 (ninS ne_ad4_ad272 nin0)
                have A365 := A345.keep K363 (ninS ne_ad227_ad272 nin0)
                have A366 := A346.keep K363 (ninS ne_ad233_ad272 nin0)
                have Ex367 := Ex343.keep K363
                refine own_istore X362 (pc' := 304) (Ls' := #[.val (.int x0), .val (.int x1), .val (.int x2), .val (.int sel), .val (.int pp), .val (.int rr), .val (.ref ad4), .val (.int (2 : Int32)), .val (.ref ad227), .val (.ref ad233), .val (.ref ad272), .val (.int (own_hd [s0, s1] u0)), .val (.int (own_hd [s0, s1] u1)), .val (.int (own_hd [s1] u2)), .val (.int (own_hd [] u3))]) at_302 rfl rfl ?_
                have e363_0 := own_nc_2_2 0 u3
                rw [e363_0] at F363_n
                refine own_iload X362 (pc' := 306) at_304 rfl rfl ?_
                refine own_aload X362 (pc' := 308) at_306 rfl rfl rfl ?_
                refine own_iload X362 (pc' := 310) at_308 rfl rfl ?_
                refine own_aload X362 (pc' := 312) at_310 rfl rfl rfl ?_
                refine own_iconst X362 (v := (0 : Int32)) (pc' := 313) at_312 rfl (by decide) ?_
                refine own_iaload X362 (v := u0) (pc' := 314) A366 rfl rfl at_313 rfl ?_
                refine own_callS X362 (W := 1) (argsL := [(.ref ad4), (.int (2 : Int32)), (.int u0)]) (rest := [(.int (own_hd [s0, s1] u0))]) (S' := [(.int (own_mb [s0, s1] u0)), (.int (own_hd [s0, s1] u0))]) (pc' := 317) (rm6_2 l Z a0 hw n0 ad4 u0 h362 X362.size s0 s1 s2 A364) (hw _ (List.mem_of_getElem? (i := 26) rfl)) (hw _ (List.mem_of_getElem? (i := 27) rfl)) (hw _ (List.mem_of_getElem? (i := 3) rfl)) (hw _ (List.mem_of_getElem? (i := 28) rfl)) (by decide) (by decide) (by decide) rfl rfl (by decide) (by decide) (lenOf pd_4 rfl) rfl (by first | decide | exact Nat.le_of_eq rfl) rfl at_314 rfl rfl ?_
                intro T368 h368 X368 qq368
                rw [show h368 = h362 from qq368] at X368
                refine own_icmp_ne X368 (pct := 372) (pc' := 320) at_317 rfl (by decide) (by decide) (fun hc => absurd hc (fun q => q (own_hm_2_0 s0 s1 s2 u0 hs1 hs2 ))) (fun _ => ?_)
                refine own_iload X368 (pc' := 322) at_320 rfl rfl ?_
                refine own_aload X368 (pc' := 324) at_322 rfl rfl rfl ?_
                refine own_iload X368 (pc' := 326) at_324 rfl rfl ?_
                refine own_aload X368 (pc' := 328) at_326 rfl rfl rfl ?_
                refine own_iconst X368 (v := (1 : Int32)) (pc' := 329) at_328 rfl (by decide) ?_
                refine own_iaload X368 (v := u1) (pc' := 330) A366 rfl rfl at_329 rfl ?_
                refine own_callS X368 (W := 1) (argsL := [(.ref ad4), (.int (2 : Int32)), (.int u1)]) (rest := [(.int (own_hd [s0, s1] u1))]) (S' := [(.int (own_mb [s0, s1] u1)), (.int (own_hd [s0, s1] u1))]) (pc' := 333) (rm6_2 l Z a0 hw n0 ad4 u1 h362 X368.size s0 s1 s2 A364) (hw _ (List.mem_of_getElem? (i := 26) rfl)) (hw _ (List.mem_of_getElem? (i := 27) rfl)) (hw _ (List.mem_of_getElem? (i := 3) rfl)) (hw _ (List.mem_of_getElem? (i := 28) rfl)) (by decide) (by decide) (by decide) rfl rfl (by decide) (by decide) (lenOf pd_4 rfl) rfl (by first | decide | exact Nat.le_of_eq rfl) rfl at_330 rfl rfl ?_
                intro T369 h369 X369 qq369
                rw [show h369 = h362 from qq369] at X369
                refine own_icmp_ne X369 (pct := 372) (pc' := 336) at_333 rfl (by decide) (by decide) (fun hc => absurd hc (fun q => q (own_hm_2_0 s0 s1 s2 u1 hs1 hs2 ))) (fun _ => ?_)
                refine own_iload X369 (pc' := 338) at_336 rfl rfl ?_
                refine own_aload X369 (pc' := 340) at_338 rfl rfl rfl ?_
                refine own_iload X369 (pc' := 342) at_340 rfl rfl ?_
                refine own_aload X369 (pc' := 344) at_342 rfl rfl rfl ?_
                refine own_iconst X369 (v := (2 : Int32)) (pc' := 345) at_344 rfl (by decide) ?_
                refine own_iaload X369 (v := u2) (pc' := 346) A366 rfl rfl at_345 rfl ?_
                refine own_callS X369 (W := 1) (argsL := [(.ref ad4), (.int (2 : Int32)), (.int u2)]) (rest := [(.int (own_hd [s1] u2))]) (S' := [(.int (own_mb [s0, s1] u2)), (.int (own_hd [s1] u2))]) (pc' := 349) (rm6_2 l Z a0 hw n0 ad4 u2 h362 X369.size s0 s1 s2 A364) (hw _ (List.mem_of_getElem? (i := 26) rfl)) (hw _ (List.mem_of_getElem? (i := 27) rfl)) (hw _ (List.mem_of_getElem? (i := 3) rfl)) (hw _ (List.mem_of_getElem? (i := 28) rfl)) (by decide) (by decide) (by decide) rfl rfl (by decide) (by decide) (lenOf pd_4 rfl) rfl (by first | decide | exact Nat.le_of_eq rfl) rfl at_346 rfl rfl ?_
                intro T370 h370 X370 qq370
                rw [show h370 = h362 from qq370] at X370
                refine own_icmp_ne X370 (pct := 372) (pc' := 352) at_349 rfl (by decide) (by decide) (fun hc => absurd hc (fun q => q (own_hm_2_1 s0 s1 s2 u2 hs1 hs2 (by omega)))) (fun _ => ?_)
                refine own_iload X370 (pc' := 354) at_352 rfl rfl ?_
                refine own_aload X370 (pc' := 356) at_354 rfl rfl rfl ?_
                refine own_iload X370 (pc' := 358) at_356 rfl rfl ?_
                refine own_aload X370 (pc' := 360) at_358 rfl rfl rfl ?_
                refine own_iconst X370 (v := (3 : Int32)) (pc' := 361) at_360 rfl (by decide) ?_
                refine own_iaload X370 (v := u3) (pc' := 362) A366 rfl rfl at_361 rfl ?_
                refine own_callS X370 (W := 1) (argsL := [(.ref ad4), (.int (2 : Int32)), (.int u3)]) (rest := [(.int (own_hd [] u3))]) (S' := [(.int (own_mb [s0, s1] u3)), (.int (own_hd [] u3))]) (pc' := 365) (rm6_2 l Z a0 hw n0 ad4 u3 h362 X370.size s0 s1 s2 A364) (hw _ (List.mem_of_getElem? (i := 26) rfl)) (hw _ (List.mem_of_getElem? (i := 27) rfl)) (hw _ (List.mem_of_getElem? (i := 3) rfl)) (hw _ (List.mem_of_getElem? (i := 28) rfl)) (by decide) (by decide) (by decide) rfl rfl (by decide) (by decide) (lenOf pd_4 rfl) rfl (by first | decide | exact Nat.le_of_eq rfl) rfl at_362 rfl rfl ?_
                intro T371 h371 X371 qq371
                rw [show h371 = h362 from qq371] at X371
                refine own_icmp_ne X371 (pct := 372) (pc' := 368) at_365 rfl (by decide) (by decide) (fun hc => absurd hc (fun q => q (own_hm_2_2 s0 s1 s2 u3 hs1 hs2 (by omega) (by omega)))) (fun _ => ?_)
                refine own_iconst X371 (v := (1 : Int32)) (pc' := 369) at_368 rfl (by decide) ?_
                refine own_goto X371 (pc' := 373) at_369 (by decide) (by decide) ?_
                subst hΦ
                exact own_retZ X371 at_373 (by decide) (by decide) (by decide) rfl trivial
            · rw [e289_2] at F289_n
              refine own_aload X288 (pc' := 284) at_282 rfl rfl rfl ?_
              refine own_aload X288 (pc' := 286) at_284 rfl rfl rfl ?_
              refine own_iconst X288 (v := (2 : Int32)) (pc' := 287) at_286 rfl (by decide) ?_
              refine own_iaload X288 (v := u2) (pc' := 288) A292 rfl rfl at_287 rfl ?_
              refine own_callV X288 (W := 0) (a := ad272) (argsL := [(.int u2)]) (rest := []) (S' := [(.int (own_hd [] u2))]) (pc' := 291) (rm5_22 l Z a0 hw n0 ad272 u2 h288 X288.size ad227 s0 s1 ⟨Ex289, F289_d, F289_n⟩ A291 ge_ad272 ne_ad227_ad272) Ex289 (hw _ (List.mem_of_getElem? (i := 19) rfl)) (hw _ (List.mem_of_getElem? (i := 20) rfl)) (hw _ (List.mem_of_getElem? (i := 22) rfl)) (hw _ (List.mem_of_getElem? (i := 21) rfl)) (hw _ (List.mem_of_getElem? (i := 10) rfl)) (hw _ (List.mem_of_getElem? (i := 23) rfl)) (by decide) (by decide) (by decide) rfl rfl (by decide) (by decide) (lenOf pd_3 rfl) rfl (by first | decide | exact Nat.le_of_eq rfl) rfl at_288 rfl rfl ?_
              intro T372 h372 X372 qq372
              obtain ⟨⟨Ex373, F373_d, F373_n⟩, K373⟩ := qq372
              have A374 := A290.keep K373 (ninS ne_ad4_ad272 nin0)
              have A375 := A291.keep K373 (ninS ne_ad227_ad272 nin0)
              have A376 := A292.keep K373 (ninS ne_ad233_ad272 nin0)
              have Ex377 := Ex289.keep K373
              refine own_istore X372 (pc' := 293) (Ls' := #[.val (.int x0), .val (.int x1), .val (.int x2), .val (.int sel), .val (.int pp), .val (.int rr), .val (.ref ad4), .val (.int (2 : Int32)), .val (.ref ad227), .val (.ref ad233), .val (.ref ad272), .val (.int (own_hd [s0, s1] u0)), .val (.int (own_hd [s0, s1] u1)), .val (.int (own_hd [] u2)), .unset]) at_291 rfl rfl ?_
              have e373_0 := own_nc_2_2 0 u2
              rw [e373_0] at F373_n
              refine own_aload X372 (pc' := 295) at_293 rfl rfl rfl ?_
              refine own_aload X372 (pc' := 297) at_295 rfl rfl rfl ?_
              refine own_iconst X372 (v := (3 : Int32)) (pc' := 298) at_297 rfl (by decide) ?_
              refine own_iaload X372 (v := u3) (pc' := 299) A376 rfl rfl at_298 rfl ?_
              refine own_callV X372 (W := 0) (a := ad272) (argsL := [(.int u3)]) (rest := []) (S' := [(.int (own_hd [] u3))]) (pc' := 302) (rm5_22 l Z a0 hw n0 ad272 u3 h372 X372.size ad227 s0 s1 ⟨Ex373, F373_d, F373_n⟩ A375 ge_ad272 ne_ad227_ad272) Ex373 (hw _ (List.mem_of_getElem? (i := 19) rfl)) (hw _ (List.mem_of_getElem? (i := 20) rfl)) (hw _ (List.mem_of_getElem? (i := 22) rfl)) (hw _ (List.mem_of_getElem? (i := 21) rfl)) (hw _ (List.mem_of_getElem? (i := 10) rfl)) (hw _ (List.mem_of_getElem? (i := 23) rfl)) (by decide) (by decide) (by decide) rfl rfl (by decide) (by decide) (lenOf pd_3 rfl) rfl (by first | decide | exact Nat.le_of_eq rfl) rfl at_299 rfl rfl ?_
              intro T378 h378 X378 qq378
              obtain ⟨⟨Ex379, F379_d, F379_n⟩, K379⟩ := qq378
              have A380 := A374.keep K379 (ninS ne_ad4_ad272 nin0)
              have A381 := A375.keep K379 (ninS ne_ad227_ad272 nin0)
              have A382 := A376.keep K379 (ninS ne_ad233_ad272 nin0)
              have Ex383 := Ex373.keep K379
              refine own_istore X378 (pc' := 304) (Ls' := #[.val (.int x0), .val (.int x1), .val (.int x2), .val (.int sel), .val (.int pp), .val (.int rr), .val (.ref ad4), .val (.int (2 : Int32)), .val (.ref ad227), .val (.ref ad233), .val (.ref ad272), .val (.int (own_hd [s0, s1] u0)), .val (.int (own_hd [s0, s1] u1)), .val (.int (own_hd [] u2)), .val (.int (own_hd [] u3))]) at_302 rfl rfl ?_
              have e379_0 := own_nc_2_2 0 u3
              rw [e379_0] at F379_n
              refine own_iload X378 (pc' := 306) at_304 rfl rfl ?_
              refine own_aload X378 (pc' := 308) at_306 rfl rfl rfl ?_
              refine own_iload X378 (pc' := 310) at_308 rfl rfl ?_
              refine own_aload X378 (pc' := 312) at_310 rfl rfl rfl ?_
              refine own_iconst X378 (v := (0 : Int32)) (pc' := 313) at_312 rfl (by decide) ?_
              refine own_iaload X378 (v := u0) (pc' := 314) A382 rfl rfl at_313 rfl ?_
              refine own_callS X378 (W := 1) (argsL := [(.ref ad4), (.int (2 : Int32)), (.int u0)]) (rest := [(.int (own_hd [s0, s1] u0))]) (S' := [(.int (own_mb [s0, s1] u0)), (.int (own_hd [s0, s1] u0))]) (pc' := 317) (rm6_2 l Z a0 hw n0 ad4 u0 h378 X378.size s0 s1 s2 A380) (hw _ (List.mem_of_getElem? (i := 26) rfl)) (hw _ (List.mem_of_getElem? (i := 27) rfl)) (hw _ (List.mem_of_getElem? (i := 3) rfl)) (hw _ (List.mem_of_getElem? (i := 28) rfl)) (by decide) (by decide) (by decide) rfl rfl (by decide) (by decide) (lenOf pd_4 rfl) rfl (by first | decide | exact Nat.le_of_eq rfl) rfl at_314 rfl rfl ?_
              intro T384 h384 X384 qq384
              rw [show h384 = h378 from qq384] at X384
              refine own_icmp_ne X384 (pct := 372) (pc' := 320) at_317 rfl (by decide) (by decide) (fun hc => absurd hc (fun q => q (own_hm_2_0 s0 s1 s2 u0 hs1 hs2 ))) (fun _ => ?_)
              refine own_iload X384 (pc' := 322) at_320 rfl rfl ?_
              refine own_aload X384 (pc' := 324) at_322 rfl rfl rfl ?_
              refine own_iload X384 (pc' := 326) at_324 rfl rfl ?_
              refine own_aload X384 (pc' := 328) at_326 rfl rfl rfl ?_
              refine own_iconst X384 (v := (1 : Int32)) (pc' := 329) at_328 rfl (by decide) ?_
              refine own_iaload X384 (v := u1) (pc' := 330) A382 rfl rfl at_329 rfl ?_
              refine own_callS X384 (W := 1) (argsL := [(.ref ad4), (.int (2 : Int32)), (.int u1)]) (rest := [(.int (own_hd [s0, s1] u1))]) (S' := [(.int (own_mb [s0, s1] u1)), (.int (own_hd [s0, s1] u1))]) (pc' := 333) (rm6_2 l Z a0 hw n0 ad4 u1 h378 X384.size s0 s1 s2 A380) (hw _ (List.mem_of_getElem? (i := 26) rfl)) (hw _ (List.mem_of_getElem? (i := 27) rfl)) (hw _ (List.mem_of_getElem? (i := 3) rfl)) (hw _ (List.mem_of_getElem? (i := 28) rfl)) (by decide) (by decide) (by decide) rfl rfl (by decide) (by decide) (lenOf pd_4 rfl) rfl (by first | decide | exact Nat.le_of_eq rfl) rfl at_330 rfl rfl ?_
              intro T385 h385 X385 qq385
              rw [show h385 = h378 from qq385] at X385
              refine own_icmp_ne X385 (pct := 372) (pc' := 336) at_333 rfl (by decide) (by decide) (fun hc => absurd hc (fun q => q (own_hm_2_0 s0 s1 s2 u1 hs1 hs2 ))) (fun _ => ?_)
              refine own_iload X385 (pc' := 338) at_336 rfl rfl ?_
              refine own_aload X385 (pc' := 340) at_338 rfl rfl rfl ?_
              refine own_iload X385 (pc' := 342) at_340 rfl rfl ?_
              refine own_aload X385 (pc' := 344) at_342 rfl rfl rfl ?_
              refine own_iconst X385 (v := (2 : Int32)) (pc' := 345) at_344 rfl (by decide) ?_
              refine own_iaload X385 (v := u2) (pc' := 346) A382 rfl rfl at_345 rfl ?_
              refine own_callS X385 (W := 1) (argsL := [(.ref ad4), (.int (2 : Int32)), (.int u2)]) (rest := [(.int (own_hd [] u2))]) (S' := [(.int (own_mb [s0, s1] u2)), (.int (own_hd [] u2))]) (pc' := 349) (rm6_2 l Z a0 hw n0 ad4 u2 h378 X385.size s0 s1 s2 A380) (hw _ (List.mem_of_getElem? (i := 26) rfl)) (hw _ (List.mem_of_getElem? (i := 27) rfl)) (hw _ (List.mem_of_getElem? (i := 3) rfl)) (hw _ (List.mem_of_getElem? (i := 28) rfl)) (by decide) (by decide) (by decide) rfl rfl (by decide) (by decide) (lenOf pd_4 rfl) rfl (by first | decide | exact Nat.le_of_eq rfl) rfl at_346 rfl rfl ?_
              intro T386 h386 X386 qq386
              rw [show h386 = h378 from qq386] at X386
              refine own_icmp_ne X386 (pct := 372) (pc' := 352) at_349 rfl (by decide) (by decide) (fun hc => absurd hc (fun q => q (own_hm_2_2 s0 s1 s2 u2 hs1 hs2 (by omega) (by omega)))) (fun _ => ?_)
              refine own_iload X386 (pc' := 354) at_352 rfl rfl ?_
              refine own_aload X386 (pc' := 356) at_354 rfl rfl rfl ?_
              refine own_iload X386 (pc' := 358) at_356 rfl rfl ?_
              refine own_aload X386 (pc' := 360) at_358 rfl rfl rfl ?_
              refine own_iconst X386 (v := (3 : Int32)) (pc' := 361) at_360 rfl (by decide) ?_
              refine own_iaload X386 (v := u3) (pc' := 362) A382 rfl rfl at_361 rfl ?_
              refine own_callS X386 (W := 1) (argsL := [(.ref ad4), (.int (2 : Int32)), (.int u3)]) (rest := [(.int (own_hd [] u3))]) (S' := [(.int (own_mb [s0, s1] u3)), (.int (own_hd [] u3))]) (pc' := 365) (rm6_2 l Z a0 hw n0 ad4 u3 h378 X386.size s0 s1 s2 A380) (hw _ (List.mem_of_getElem? (i := 26) rfl)) (hw _ (List.mem_of_getElem? (i := 27) rfl)) (hw _ (List.mem_of_getElem? (i := 3) rfl)) (hw _ (List.mem_of_getElem? (i := 28) rfl)) (by decide) (by decide) (by decide) rfl rfl (by decide) (by decide) (lenOf pd_4 rfl) rfl (by first | decide | exact Nat.le_of_eq rfl) rfl at_362 rfl rfl ?_
              intro T387 h387 X387 qq387
              rw [show h387 = h378 from qq387] at X387
              refine own_icmp_ne X387 (pct := 372) (pc' := 368) at_365 rfl (by decide) (by decide) (fun hc => absurd hc (fun q => q (own_hm_2_2 s0 s1 s2 u3 hs1 hs2 (by omega) (by omega)))) (fun _ => ?_)
              refine own_iconst X387 (v := (1 : Int32)) (pc' := 369) at_368 rfl (by decide) ?_
              refine own_goto X387 (pc' := 373) at_369 (by decide) (by decide) ?_
              subst hΦ
              exact own_retZ X387 at_373 (by decide) (by decide) (by decide) rfl trivial
          · rw [e283_1] at F283_n
            refine own_aload X282 (pc' := 273) at_271 rfl rfl rfl ?_
            refine own_aload X282 (pc' := 275) at_273 rfl rfl rfl ?_
            refine own_iconst X282 (v := (1 : Int32)) (pc' := 276) at_275 rfl (by decide) ?_
            refine own_iaload X282 (v := u1) (pc' := 277) A286 rfl rfl at_276 rfl ?_
            refine own_callV X282 (W := 0) (a := ad272) (argsL := [(.int u1)]) (rest := []) (S' := [(.int (own_hd [s1] u1))]) (pc' := 280) (rm5_21 l Z a0 hw n0 ad272 u1 h282 X282.size ad227 s0 s1 ⟨Ex283, F283_d, F283_n⟩ A285 ge_ad272 ne_ad227_ad272) Ex283 (hw _ (List.mem_of_getElem? (i := 19) rfl)) (hw _ (List.mem_of_getElem? (i := 20) rfl)) (hw _ (List.mem_of_getElem? (i := 22) rfl)) (hw _ (List.mem_of_getElem? (i := 21) rfl)) (hw _ (List.mem_of_getElem? (i := 10) rfl)) (hw _ (List.mem_of_getElem? (i := 23) rfl)) (by decide) (by decide) (by decide) rfl rfl (by decide) (by decide) (lenOf pd_3 rfl) rfl (by first | decide | exact Nat.le_of_eq rfl) rfl at_277 rfl rfl ?_
            intro T388 h388 X388 qq388
            obtain ⟨⟨Ex389, F389_d, F389_n⟩, K389⟩ := qq388
            have A390 := A284.keep K389 (ninS ne_ad4_ad272 nin0)
            have A391 := A285.keep K389 (ninS ne_ad227_ad272 nin0)
            have A392 := A286.keep K389 (ninS ne_ad233_ad272 nin0)
            have Ex393 := Ex283.keep K389
            refine own_istore X388 (pc' := 282) (Ls' := #[.val (.int x0), .val (.int x1), .val (.int x2), .val (.int sel), .val (.int pp), .val (.int rr), .val (.ref ad4), .val (.int (2 : Int32)), .val (.ref ad227), .val (.ref ad233), .val (.ref ad272), .val (.int (own_hd [s0, s1] u0)), .val (.int (own_hd [s1] u1)), .unset, .unset]) at_280 rfl rfl ?_
            rcases own_nc_2_1 s1 u1 with e389_0 | ⟨e389_1, f389_1_0⟩
            · rw [e389_0] at F389_n
              refine own_aload X388 (pc' := 284) at_282 rfl rfl rfl ?_
              refine own_aload X388 (pc' := 286) at_284 rfl rfl rfl ?_
              refine own_iconst X388 (v := (2 : Int32)) (pc' := 287) at_286 rfl (by decide) ?_
              refine own_iaload X388 (v := u2) (pc' := 288) A392 rfl rfl at_287 rfl ?_
              refine own_callV X388 (W := 0) (a := ad272) (argsL := [(.int u2)]) (rest := []) (S' := [(.int (own_hd [s1] u2))]) (pc' := 291) (rm5_21 l Z a0 hw n0 ad272 u2 h388 X388.size ad227 s0 s1 ⟨Ex389, F389_d, F389_n⟩ A391 ge_ad272 ne_ad227_ad272) Ex389 (hw _ (List.mem_of_getElem? (i := 19) rfl)) (hw _ (List.mem_of_getElem? (i := 20) rfl)) (hw _ (List.mem_of_getElem? (i := 22) rfl)) (hw _ (List.mem_of_getElem? (i := 21) rfl)) (hw _ (List.mem_of_getElem? (i := 10) rfl)) (hw _ (List.mem_of_getElem? (i := 23) rfl)) (by decide) (by decide) (by decide) rfl rfl (by decide) (by decide) (lenOf pd_3 rfl) rfl (by first | decide | exact Nat.le_of_eq rfl) rfl at_288 rfl rfl ?_
              intro T394 h394 X394 qq394
              obtain ⟨⟨Ex395, F395_d, F395_n⟩, K395⟩ := qq394
              have A396 := A390.keep K395 (ninS ne_ad4_ad272 nin0)
              have A397 := A391.keep K395 (ninS ne_ad227_ad272 nin0)
              have A398 := A392.keep K395 (ninS ne_ad233_ad272 nin0)
              have Ex399 := Ex389.keep K395
              refine own_istore X394 (pc' := 293) (Ls' := #[.val (.int x0), .val (.int x1), .val (.int x2), .val (.int sel), .val (.int pp), .val (.int rr), .val (.ref ad4), .val (.int (2 : Int32)), .val (.ref ad227), .val (.ref ad233), .val (.ref ad272), .val (.int (own_hd [s0, s1] u0)), .val (.int (own_hd [s1] u1)), .val (.int (own_hd [s1] u2)), .unset]) at_291 rfl rfl ?_
              rcases own_nc_2_1 s1 u2 with e395_0 | ⟨e395_1, f395_1_0⟩
              · rw [e395_0] at F395_n
                refine own_aload X394 (pc' := 295) at_293 rfl rfl rfl ?_
                refine own_aload X394 (pc' := 297) at_295 rfl rfl rfl ?_
                refine own_iconst X394 (v := (3 : Int32)) (pc' := 298) at_297 rfl (by decide) ?_
                refine own_iaload X394 (v := u3) (pc' := 299) A398 rfl rfl at_298 rfl ?_
                refine own_callV X394 (W := 0) (a := ad272) (argsL := [(.int u3)]) (rest := []) (S' := [(.int (own_hd [s1] u3))]) (pc' := 302) (rm5_21 l Z a0 hw n0 ad272 u3 h394 X394.size ad227 s0 s1 ⟨Ex395, F395_d, F395_n⟩ A397 ge_ad272 ne_ad227_ad272) Ex395 (hw _ (List.mem_of_getElem? (i := 19) rfl)) (hw _ (List.mem_of_getElem? (i := 20) rfl)) (hw _ (List.mem_of_getElem? (i := 22) rfl)) (hw _ (List.mem_of_getElem? (i := 21) rfl)) (hw _ (List.mem_of_getElem? (i := 10) rfl)) (hw _ (List.mem_of_getElem? (i := 23) rfl)) (by decide) (by decide) (by decide) rfl rfl (by decide) (by decide) (lenOf pd_3 rfl) rfl (by first | decide | exact Nat.le_of_eq rfl) rfl at_299 rfl rfl ?_
                intro T400 h400 X400 qq400
                obtain ⟨⟨Ex401, F401_d, F401_n⟩, K401⟩ := qq400
                have A402 := A396.keep K401 (ninS ne_ad4_ad272 nin0)
                have A403 := A397.keep K401 (ninS ne_ad227_ad272 nin0)
                have A404 := A398.keep K401 (ninS ne_ad233_ad272 nin0)
                have Ex405 := Ex395.keep K401
                refine own_istore X400 (pc' := 304) (Ls' := #[.val (.int x0), .val (.int x1), .val (.int x2), .val (.int sel), .val (.int pp), .val (.int rr), .val (.ref ad4), .val (.int (2 : Int32)), .val (.ref ad227), .val (.ref ad233), .val (.ref ad272), .val (.int (own_hd [s0, s1] u0)), .val (.int (own_hd [s1] u1)), .val (.int (own_hd [s1] u2)), .val (.int (own_hd [s1] u3))]) at_302 rfl rfl ?_
                rcases own_nc_2_1 s1 u3 with e401_0 | ⟨e401_1, f401_1_0⟩
                · rw [e401_0] at F401_n
                  refine own_iload X400 (pc' := 306) at_304 rfl rfl ?_
                  refine own_aload X400 (pc' := 308) at_306 rfl rfl rfl ?_
                  refine own_iload X400 (pc' := 310) at_308 rfl rfl ?_
                  refine own_aload X400 (pc' := 312) at_310 rfl rfl rfl ?_
                  refine own_iconst X400 (v := (0 : Int32)) (pc' := 313) at_312 rfl (by decide) ?_
                  refine own_iaload X400 (v := u0) (pc' := 314) A404 rfl rfl at_313 rfl ?_
                  refine own_callS X400 (W := 1) (argsL := [(.ref ad4), (.int (2 : Int32)), (.int u0)]) (rest := [(.int (own_hd [s0, s1] u0))]) (S' := [(.int (own_mb [s0, s1] u0)), (.int (own_hd [s0, s1] u0))]) (pc' := 317) (rm6_2 l Z a0 hw n0 ad4 u0 h400 X400.size s0 s1 s2 A402) (hw _ (List.mem_of_getElem? (i := 26) rfl)) (hw _ (List.mem_of_getElem? (i := 27) rfl)) (hw _ (List.mem_of_getElem? (i := 3) rfl)) (hw _ (List.mem_of_getElem? (i := 28) rfl)) (by decide) (by decide) (by decide) rfl rfl (by decide) (by decide) (lenOf pd_4 rfl) rfl (by first | decide | exact Nat.le_of_eq rfl) rfl at_314 rfl rfl ?_
                  intro T406 h406 X406 qq406
                  rw [show h406 = h400 from qq406] at X406
                  refine own_icmp_ne X406 (pct := 372) (pc' := 320) at_317 rfl (by decide) (by decide) (fun hc => absurd hc (fun q => q (own_hm_2_0 s0 s1 s2 u0 hs1 hs2 ))) (fun _ => ?_)
                  refine own_iload X406 (pc' := 322) at_320 rfl rfl ?_
                  refine own_aload X406 (pc' := 324) at_322 rfl rfl rfl ?_
                  refine own_iload X406 (pc' := 326) at_324 rfl rfl ?_
                  refine own_aload X406 (pc' := 328) at_326 rfl rfl rfl ?_
                  refine own_iconst X406 (v := (1 : Int32)) (pc' := 329) at_328 rfl (by decide) ?_
                  refine own_iaload X406 (v := u1) (pc' := 330) A404 rfl rfl at_329 rfl ?_
                  refine own_callS X406 (W := 1) (argsL := [(.ref ad4), (.int (2 : Int32)), (.int u1)]) (rest := [(.int (own_hd [s1] u1))]) (S' := [(.int (own_mb [s0, s1] u1)), (.int (own_hd [s1] u1))]) (pc' := 333) (rm6_2 l Z a0 hw n0 ad4 u1 h400 X406.size s0 s1 s2 A402) (hw _ (List.mem_of_getElem? (i := 26) rfl)) (hw _ (List.mem_of_getElem? (i := 27) rfl)) (hw _ (List.mem_of_getElem? (i := 3) rfl)) (hw _ (List.mem_of_getElem? (i := 28) rfl)) (by decide) (by decide) (by decide) rfl rfl (by decide) (by decide) (lenOf pd_4 rfl) rfl (by first | decide | exact Nat.le_of_eq rfl) rfl at_330 rfl rfl ?_
                  intro T407 h407 X407 qq407
                  rw [show h407 = h400 from qq407] at X407
                  refine own_icmp_ne X407 (pct := 372) (pc' := 336) at_333 rfl (by decide) (by decide) (fun hc => absurd hc (fun q => q (own_hm_2_1 s0 s1 s2 u1 hs1 hs2 (by omega)))) (fun _ => ?_)
                  refine own_iload X407 (pc' := 338) at_336 rfl rfl ?_
                  refine own_aload X407 (pc' := 340) at_338 rfl rfl rfl ?_
                  refine own_iload X407 (pc' := 342) at_340 rfl rfl ?_
                  refine own_aload X407 (pc' := 344) at_342 rfl rfl rfl ?_
                  refine own_iconst X407 (v := (2 : Int32)) (pc' := 345) at_344 rfl (by decide) ?_
                  refine own_iaload X407 (v := u2) (pc' := 346) A404 rfl rfl at_345 rfl ?_
                  refine own_callS X407 (W := 1) (argsL := [(.ref ad4), (.int (2 : Int32)), (.int u2)]) (rest := [(.int (own_hd [s1] u2))]) (S' := [(.int (own_mb [s0, s1] u2)), (.int (own_hd [s1] u2))]) (pc' := 349) (rm6_2 l Z a0 hw n0 ad4 u2 h400 X407.size s0 s1 s2 A402) (hw _ (List.mem_of_getElem? (i := 26) rfl)) (hw _ (List.mem_of_getElem? (i := 27) rfl)) (hw _ (List.mem_of_getElem? (i := 3) rfl)) (hw _ (List.mem_of_getElem? (i := 28) rfl)) (by decide) (by decide) (by decide) rfl rfl (by decide) (by decide) (lenOf pd_4 rfl) rfl (by first | decide | exact Nat.le_of_eq rfl) rfl at_346 rfl rfl ?_
                  intro T408 h408 X408 qq408
                  rw [show h408 = h400 from qq408] at X408
                  refine own_icmp_ne X408 (pct := 372) (pc' := 352) at_349 rfl (by decide) (by decide) (fun hc => absurd hc (fun q => q (own_hm_2_1 s0 s1 s2 u2 hs1 hs2 (by omega)))) (fun _ => ?_)
                  refine own_iload X408 (pc' := 354) at_352 rfl rfl ?_
                  refine own_aload X408 (pc' := 356) at_354 rfl rfl rfl ?_
                  refine own_iload X408 (pc' := 358) at_356 rfl rfl ?_
                  refine own_aload X408 (pc' := 360) at_358 rfl rfl rfl ?_
                  refine own_iconst X408 (v := (3 : Int32)) (pc' := 361) at_360 rfl (by decide) ?_
                  refine own_iaload X408 (v := u3) (pc' := 362) A404 rfl rfl at_361 rfl ?_
                  refine own_callS X408 (W := 1) (argsL := [(.ref ad4), (.int (2 : Int32)), (.int u3)]) (rest := [(.int (own_hd [s1] u3))]) (S' := [(.int (own_mb [s0, s1] u3)), (.int (own_hd [s1] u3))]) (pc' := 365) (rm6_2 l Z a0 hw n0 ad4 u3 h400 X408.size s0 s1 s2 A402) (hw _ (List.mem_of_getElem? (i := 26) rfl)) (hw _ (List.mem_of_getElem? (i := 27) rfl)) (hw _ (List.mem_of_getElem? (i := 3) rfl)) (hw _ (List.mem_of_getElem? (i := 28) rfl)) (by decide) (by decide) (by decide) rfl rfl (by decide) (by decide) (lenOf pd_4 rfl) rfl (by first | decide | exact Nat.le_of_eq rfl) rfl at_362 rfl rfl ?_
                  intro T409 h409 X409 qq409
                  rw [show h409 = h400 from qq409] at X409
                  refine own_icmp_ne X409 (pct := 372) (pc' := 368) at_365 rfl (by decide) (by decide) (fun hc => absurd hc (fun q => q (own_hm_2_1 s0 s1 s2 u3 hs1 hs2 (by omega)))) (fun _ => ?_)
                  refine own_iconst X409 (v := (1 : Int32)) (pc' := 369) at_368 rfl (by decide) ?_
                  refine own_goto X409 (pc' := 373) at_369 (by decide) (by decide) ?_
                  subst hΦ
                  exact own_retZ X409 at_373 (by decide) (by decide) (by decide) rfl trivial
                · rw [e401_1] at F401_n
                  refine own_iload X400 (pc' := 306) at_304 rfl rfl ?_
                  refine own_aload X400 (pc' := 308) at_306 rfl rfl rfl ?_
                  refine own_iload X400 (pc' := 310) at_308 rfl rfl ?_
                  refine own_aload X400 (pc' := 312) at_310 rfl rfl rfl ?_
                  refine own_iconst X400 (v := (0 : Int32)) (pc' := 313) at_312 rfl (by decide) ?_
                  refine own_iaload X400 (v := u0) (pc' := 314) A404 rfl rfl at_313 rfl ?_
                  refine own_callS X400 (W := 1) (argsL := [(.ref ad4), (.int (2 : Int32)), (.int u0)]) (rest := [(.int (own_hd [s0, s1] u0))]) (S' := [(.int (own_mb [s0, s1] u0)), (.int (own_hd [s0, s1] u0))]) (pc' := 317) (rm6_2 l Z a0 hw n0 ad4 u0 h400 X400.size s0 s1 s2 A402) (hw _ (List.mem_of_getElem? (i := 26) rfl)) (hw _ (List.mem_of_getElem? (i := 27) rfl)) (hw _ (List.mem_of_getElem? (i := 3) rfl)) (hw _ (List.mem_of_getElem? (i := 28) rfl)) (by decide) (by decide) (by decide) rfl rfl (by decide) (by decide) (lenOf pd_4 rfl) rfl (by first | decide | exact Nat.le_of_eq rfl) rfl at_314 rfl rfl ?_
                  intro T410 h410 X410 qq410
                  rw [show h410 = h400 from qq410] at X410
                  refine own_icmp_ne X410 (pct := 372) (pc' := 320) at_317 rfl (by decide) (by decide) (fun hc => absurd hc (fun q => q (own_hm_2_0 s0 s1 s2 u0 hs1 hs2 ))) (fun _ => ?_)
                  refine own_iload X410 (pc' := 322) at_320 rfl rfl ?_
                  refine own_aload X410 (pc' := 324) at_322 rfl rfl rfl ?_
                  refine own_iload X410 (pc' := 326) at_324 rfl rfl ?_
                  refine own_aload X410 (pc' := 328) at_326 rfl rfl rfl ?_
                  refine own_iconst X410 (v := (1 : Int32)) (pc' := 329) at_328 rfl (by decide) ?_
                  refine own_iaload X410 (v := u1) (pc' := 330) A404 rfl rfl at_329 rfl ?_
                  refine own_callS X410 (W := 1) (argsL := [(.ref ad4), (.int (2 : Int32)), (.int u1)]) (rest := [(.int (own_hd [s1] u1))]) (S' := [(.int (own_mb [s0, s1] u1)), (.int (own_hd [s1] u1))]) (pc' := 333) (rm6_2 l Z a0 hw n0 ad4 u1 h400 X410.size s0 s1 s2 A402) (hw _ (List.mem_of_getElem? (i := 26) rfl)) (hw _ (List.mem_of_getElem? (i := 27) rfl)) (hw _ (List.mem_of_getElem? (i := 3) rfl)) (hw _ (List.mem_of_getElem? (i := 28) rfl)) (by decide) (by decide) (by decide) rfl rfl (by decide) (by decide) (lenOf pd_4 rfl) rfl (by first | decide | exact Nat.le_of_eq rfl) rfl at_330 rfl rfl ?_
                  intro T411 h411 X411 qq411
                  rw [show h411 = h400 from qq411] at X411
                  refine own_icmp_ne X411 (pct := 372) (pc' := 336) at_333 rfl (by decide) (by decide) (fun hc => absurd hc (fun q => q (own_hm_2_1 s0 s1 s2 u1 hs1 hs2 (by omega)))) (fun _ => ?_)
                  refine own_iload X411 (pc' := 338) at_336 rfl rfl ?_
                  refine own_aload X411 (pc' := 340) at_338 rfl rfl rfl ?_
                  refine own_iload X411 (pc' := 342) at_340 rfl rfl ?_
                  refine own_aload X411 (pc' := 344) at_342 rfl rfl rfl ?_
                  refine own_iconst X411 (v := (2 : Int32)) (pc' := 345) at_344 rfl (by decide) ?_
                  refine own_iaload X411 (v := u2) (pc' := 346) A404 rfl rfl at_345 rfl ?_
                  refine own_callS X411 (W := 1) (argsL := [(.ref ad4), (.int (2 : Int32)), (.int u2)]) (rest := [(.int (own_hd [s1] u2))]) (S' := [(.int (own_mb [s0, s1] u2)), (.int (own_hd [s1] u2))]) (pc' := 349) (rm6_2 l Z a0 hw n0 ad4 u2 h400 X411.size s0 s1 s2 A402) (hw _ (List.mem_of_getElem? (i := 26) rfl)) (hw _ (List.mem_of_getElem? (i := 27) rfl)) (hw _ (List.mem_of_getElem? (i := 3) rfl)) (hw _ (List.mem_of_getElem? (i := 28) rfl)) (by decide) (by decide) (by decide) rfl rfl (by decide) (by decide) (lenOf pd_4 rfl) rfl (by first | decide | exact Nat.le_of_eq rfl) rfl at_346 rfl rfl ?_
                  intro T412 h412 X412 qq412
                  rw [show h412 = h400 from qq412] at X412
                  refine own_icmp_ne X412 (pct := 372) (pc' := 352) at_349 rfl (by decide) (by decide) (fun hc => absurd hc (fun q => q (own_hm_2_1 s0 s1 s2 u2 hs1 hs2 (by omega)))) (fun _ => ?_)
                  refine own_iload X412 (pc' := 354) at_352 rfl rfl ?_
                  refine own_aload X412 (pc' := 356) at_354 rfl rfl rfl ?_
                  refine own_iload X412 (pc' := 358) at_356 rfl rfl ?_
                  refine own_aload X412 (pc' := 360) at_358 rfl rfl rfl ?_
                  refine own_iconst X412 (v := (3 : Int32)) (pc' := 361) at_360 rfl (by decide) ?_
                  refine own_iaload X412 (v := u3) (pc' := 362) A404 rfl rfl at_361 rfl ?_
                  refine own_callS X412 (W := 1) (argsL := [(.ref ad4), (.int (2 : Int32)), (.int u3)]) (rest := [(.int (own_hd [s1] u3))]) (S' := [(.int (own_mb [s0, s1] u3)), (.int (own_hd [s1] u3))]) (pc' := 365) (rm6_2 l Z a0 hw n0 ad4 u3 h400 X412.size s0 s1 s2 A402) (hw _ (List.mem_of_getElem? (i := 26) rfl)) (hw _ (List.mem_of_getElem? (i := 27) rfl)) (hw _ (List.mem_of_getElem? (i := 3) rfl)) (hw _ (List.mem_of_getElem? (i := 28) rfl)) (by decide) (by decide) (by decide) rfl rfl (by decide) (by decide) (lenOf pd_4 rfl) rfl (by first | decide | exact Nat.le_of_eq rfl) rfl at_362 rfl rfl ?_
                  intro T413 h413 X413 qq413
                  rw [show h413 = h400 from qq413] at X413
                  refine own_icmp_ne X413 (pct := 372) (pc' := 368) at_365 rfl (by decide) (by decide) (fun hc => absurd hc (fun q => q (own_hm_2_1 s0 s1 s2 u3 hs1 hs2 (by omega)))) (fun _ => ?_)
                  refine own_iconst X413 (v := (1 : Int32)) (pc' := 369) at_368 rfl (by decide) ?_
                  refine own_goto X413 (pc' := 373) at_369 (by decide) (by decide) ?_
                  subst hΦ
                  exact own_retZ X413 at_373 (by decide) (by decide) (by decide) rfl trivial
              · rw [e395_1] at F395_n
                refine own_aload X394 (pc' := 295) at_293 rfl rfl rfl ?_
                refine own_aload X394 (pc' := 297) at_295 rfl rfl rfl ?_
                refine own_iconst X394 (v := (3 : Int32)) (pc' := 298) at_297 rfl (by decide) ?_
                refine own_iaload X394 (v := u3) (pc' := 299) A398 rfl rfl at_298 rfl ?_
                refine own_callV X394 (W := 0) (a := ad272) (argsL := [(.int u3)]) (rest := []) (S' := [(.int (own_hd [] u3))]) (pc' := 302) (rm5_22 l Z a0 hw n0 ad272 u3 h394 X394.size ad227 s0 s1 ⟨Ex395, F395_d, F395_n⟩ A397 ge_ad272 ne_ad227_ad272) Ex395 (hw _ (List.mem_of_getElem? (i := 19) rfl)) (hw _ (List.mem_of_getElem? (i := 20) rfl)) (hw _ (List.mem_of_getElem? (i := 22) rfl)) (hw _ (List.mem_of_getElem? (i := 21) rfl)) (hw _ (List.mem_of_getElem? (i := 10) rfl)) (hw _ (List.mem_of_getElem? (i := 23) rfl)) (by decide) (by decide) (by decide) rfl rfl (by decide) (by decide) (lenOf pd_3 rfl) rfl (by first | decide | exact Nat.le_of_eq rfl) rfl at_299 rfl rfl ?_
                intro T414 h414 X414 qq414
                obtain ⟨⟨Ex415, F415_d, F415_n⟩, K415⟩ := qq414
                have A416 := A396.keep K415 (ninS ne_ad4_ad272 nin0)
                have A417 := A397.keep K415 (ninS ne_ad227_ad272 nin0)
                have A418 := A398.keep K415 (ninS ne_ad233_ad272 nin0)
                have Ex419 := Ex395.keep K415
                refine own_istore X414 (pc' := 304) (Ls' := #[.val (.int x0), .val (.int x1), .val (.int x2), .val (.int sel), .val (.int pp), .val (.int rr), .val (.ref ad4), .val (.int (2 : Int32)), .val (.ref ad227), .val (.ref ad233), .val (.ref ad272), .val (.int (own_hd [s0, s1] u0)), .val (.int (own_hd [s1] u1)), .val (.int (own_hd [s1] u2)), .val (.int (own_hd [] u3))]) at_302 rfl rfl ?_
                have e415_0 := own_nc_2_2 0 u3
                rw [e415_0] at F415_n
                refine own_iload X414 (pc' := 306) at_304 rfl rfl ?_
                refine own_aload X414 (pc' := 308) at_306 rfl rfl rfl ?_
                refine own_iload X414 (pc' := 310) at_308 rfl rfl ?_
                refine own_aload X414 (pc' := 312) at_310 rfl rfl rfl ?_
                refine own_iconst X414 (v := (0 : Int32)) (pc' := 313) at_312 rfl (by decide) ?_
                refine own_iaload X414 (v := u0) (pc' := 314) A418 rfl rfl at_313 rfl ?_
                refine own_callS X414 (W := 1) (argsL := [(.ref ad4), (.int (2 : Int32)), (.int u0)]) (rest := [(.int (own_hd [s0, s1] u0))]) (S' := [(.int (own_mb [s0, s1] u0)), (.int (own_hd [s0, s1] u0))]) (pc' := 317) (rm6_2 l Z a0 hw n0 ad4 u0 h414 X414.size s0 s1 s2 A416) (hw _ (List.mem_of_getElem? (i := 26) rfl)) (hw _ (List.mem_of_getElem? (i := 27) rfl)) (hw _ (List.mem_of_getElem? (i := 3) rfl)) (hw _ (List.mem_of_getElem? (i := 28) rfl)) (by decide) (by decide) (by decide) rfl rfl (by decide) (by decide) (lenOf pd_4 rfl) rfl (by first | decide | exact Nat.le_of_eq rfl) rfl at_314 rfl rfl ?_
                intro T420 h420 X420 qq420
                rw [show h420 = h414 from qq420] at X420
                refine own_icmp_ne X420 (pct := 372) (pc' := 320) at_317 rfl (by decide) (by decide) (fun hc => absurd hc (fun q => q (own_hm_2_0 s0 s1 s2 u0 hs1 hs2 ))) (fun _ => ?_)
                refine own_iload X420 (pc' := 322) at_320 rfl rfl ?_
                refine own_aload X420 (pc' := 324) at_322 rfl rfl rfl ?_
                refine own_iload X420 (pc' := 326) at_324 rfl rfl ?_
                refine own_aload X420 (pc' := 328) at_326 rfl rfl rfl ?_
                refine own_iconst X420 (v := (1 : Int32)) (pc' := 329) at_328 rfl (by decide) ?_
                refine own_iaload X420 (v := u1) (pc' := 330) A418 rfl rfl at_329 rfl ?_
                refine own_callS X420 (W := 1) (argsL := [(.ref ad4), (.int (2 : Int32)), (.int u1)]) (rest := [(.int (own_hd [s1] u1))]) (S' := [(.int (own_mb [s0, s1] u1)), (.int (own_hd [s1] u1))]) (pc' := 333) (rm6_2 l Z a0 hw n0 ad4 u1 h414 X420.size s0 s1 s2 A416) (hw _ (List.mem_of_getElem? (i := 26) rfl)) (hw _ (List.mem_of_getElem? (i := 27) rfl)) (hw _ (List.mem_of_getElem? (i := 3) rfl)) (hw _ (List.mem_of_getElem? (i := 28) rfl)) (by decide) (by decide) (by decide) rfl rfl (by decide) (by decide) (lenOf pd_4 rfl) rfl (by first | decide | exact Nat.le_of_eq rfl) rfl at_330 rfl rfl ?_
                intro T421 h421 X421 qq421
                rw [show h421 = h414 from qq421] at X421
                refine own_icmp_ne X421 (pct := 372) (pc' := 336) at_333 rfl (by decide) (by decide) (fun hc => absurd hc (fun q => q (own_hm_2_1 s0 s1 s2 u1 hs1 hs2 (by omega)))) (fun _ => ?_)
                refine own_iload X421 (pc' := 338) at_336 rfl rfl ?_
                refine own_aload X421 (pc' := 340) at_338 rfl rfl rfl ?_
                refine own_iload X421 (pc' := 342) at_340 rfl rfl ?_
                refine own_aload X421 (pc' := 344) at_342 rfl rfl rfl ?_
                refine own_iconst X421 (v := (2 : Int32)) (pc' := 345) at_344 rfl (by decide) ?_
                refine own_iaload X421 (v := u2) (pc' := 346) A418 rfl rfl at_345 rfl ?_
                refine own_callS X421 (W := 1) (argsL := [(.ref ad4), (.int (2 : Int32)), (.int u2)]) (rest := [(.int (own_hd [s1] u2))]) (S' := [(.int (own_mb [s0, s1] u2)), (.int (own_hd [s1] u2))]) (pc' := 349) (rm6_2 l Z a0 hw n0 ad4 u2 h414 X421.size s0 s1 s2 A416) (hw _ (List.mem_of_getElem? (i := 26) rfl)) (hw _ (List.mem_of_getElem? (i := 27) rfl)) (hw _ (List.mem_of_getElem? (i := 3) rfl)) (hw _ (List.mem_of_getElem? (i := 28) rfl)) (by decide) (by decide) (by decide) rfl rfl (by decide) (by decide) (lenOf pd_4 rfl) rfl (by first | decide | exact Nat.le_of_eq rfl) rfl at_346 rfl rfl ?_
                intro T422 h422 X422 qq422
                rw [show h422 = h414 from qq422] at X422
                refine own_icmp_ne X422 (pct := 372) (pc' := 352) at_349 rfl (by decide) (by decide) (fun hc => absurd hc (fun q => q (own_hm_2_1 s0 s1 s2 u2 hs1 hs2 (by omega)))) (fun _ => ?_)
                refine own_iload X422 (pc' := 354) at_352 rfl rfl ?_
                refine own_aload X422 (pc' := 356) at_354 rfl rfl rfl ?_
                refine own_iload X422 (pc' := 358) at_356 rfl rfl ?_
                refine own_aload X422 (pc' := 360) at_358 rfl rfl rfl ?_
                refine own_iconst X422 (v := (3 : Int32)) (pc' := 361) at_360 rfl (by decide) ?_
                refine own_iaload X422 (v := u3) (pc' := 362) A418 rfl rfl at_361 rfl ?_
                refine own_callS X422 (W := 1) (argsL := [(.ref ad4), (.int (2 : Int32)), (.int u3)]) (rest := [(.int (own_hd [] u3))]) (S' := [(.int (own_mb [s0, s1] u3)), (.int (own_hd [] u3))]) (pc' := 365) (rm6_2 l Z a0 hw n0 ad4 u3 h414 X422.size s0 s1 s2 A416) (hw _ (List.mem_of_getElem? (i := 26) rfl)) (hw _ (List.mem_of_getElem? (i := 27) rfl)) (hw _ (List.mem_of_getElem? (i := 3) rfl)) (hw _ (List.mem_of_getElem? (i := 28) rfl)) (by decide) (by decide) (by decide) rfl rfl (by decide) (by decide) (lenOf pd_4 rfl) rfl (by first | decide | exact Nat.le_of_eq rfl) rfl at_362 rfl rfl ?_
                intro T423 h423 X423 qq423
                rw [show h423 = h414 from qq423] at X423
                refine own_icmp_ne X423 (pct := 372) (pc' := 368) at_365 rfl (by decide) (by decide) (fun hc => absurd hc (fun q => q (own_hm_2_2 s0 s1 s2 u3 hs1 hs2 (by omega) (by omega)))) (fun _ => ?_)
                refine own_iconst X423 (v := (1 : Int32)) (pc' := 369) at_368 rfl (by decide) ?_
                refine own_goto X423 (pc' := 373) at_369 (by decide) (by decide) ?_
                subst hΦ
                exact own_retZ X423 at_373 (by decide) (by decide) (by decide) rfl trivial
            · rw [e389_1] at F389_n
              refine own_aload X388 (pc' := 284) at_282 rfl rfl rfl ?_
              refine own_aload X388 (pc' := 286) at_284 rfl rfl rfl ?_
              refine own_iconst X388 (v := (2 : Int32)) (pc' := 287) at_286 rfl (by decide) ?_
              refine own_iaload X388 (v := u2) (pc' := 288) A392 rfl rfl at_287 rfl ?_
              refine own_callV X388 (W := 0) (a := ad272) (argsL := [(.int u2)]) (rest := []) (S' := [(.int (own_hd [] u2))]) (pc' := 291) (rm5_22 l Z a0 hw n0 ad272 u2 h388 X388.size ad227 s0 s1 ⟨Ex389, F389_d, F389_n⟩ A391 ge_ad272 ne_ad227_ad272) Ex389 (hw _ (List.mem_of_getElem? (i := 19) rfl)) (hw _ (List.mem_of_getElem? (i := 20) rfl)) (hw _ (List.mem_of_getElem? (i := 22) rfl)) (hw _ (List.mem_of_getElem? (i := 21) rfl)) (hw _ (List.mem_of_getElem? (i := 10) rfl)) (hw _ (List.mem_of_getElem? (i := 23) rfl)) (by decide) (by decide) (by decide) rfl rfl (by decide) (by decide) (lenOf pd_3 rfl) rfl (by first | decide | exact Nat.le_of_eq rfl) rfl at_288 rfl rfl ?_
              intro T424 h424 X424 qq424
              obtain ⟨⟨Ex425, F425_d, F425_n⟩, K425⟩ := qq424
              have A426 := A390.keep K425 (ninS ne_ad4_ad272 nin0)
              have A427 := A391.keep K425 (ninS ne_ad227_ad272 nin0)
              have A428 := A392.keep K425 (ninS ne_ad233_ad272 nin0)
              have Ex429 := Ex389.keep K425
              refine own_istore X424 (pc' := 293) (Ls' := #[.val (.int x0), .val (.int x1), .val (.int x2), .val (.int sel), .val (.int pp), .val (.int rr), .val (.ref ad4), .val (.int (2 : Int32)), .val (.ref ad227), .val (.ref ad233), .val (.ref ad272), .val (.int (own_hd [s0, s1] u0)), .val (.int (own_hd [s1] u1)), .val (.int (own_hd [] u2)), .unset]) at_291 rfl rfl ?_
              have e425_0 := own_nc_2_2 0 u2
              rw [e425_0] at F425_n
              refine own_aload X424 (pc' := 295) at_293 rfl rfl rfl ?_
              refine own_aload X424 (pc' := 297) at_295 rfl rfl rfl ?_
              refine own_iconst X424 (v := (3 : Int32)) (pc' := 298) at_297 rfl (by decide) ?_
              refine own_iaload X424 (v := u3) (pc' := 299) A428 rfl rfl at_298 rfl ?_
              refine own_callV X424 (W := 0) (a := ad272) (argsL := [(.int u3)]) (rest := []) (S' := [(.int (own_hd [] u3))]) (pc' := 302) (rm5_22 l Z a0 hw n0 ad272 u3 h424 X424.size ad227 s0 s1 ⟨Ex425, F425_d, F425_n⟩ A427 ge_ad272 ne_ad227_ad272) Ex425 (hw _ (List.mem_of_getElem? (i := 19) rfl)) (hw _ (List.mem_of_getElem? (i := 20) rfl)) (hw _ (List.mem_of_getElem? (i := 22) rfl)) (hw _ (List.mem_of_getElem? (i := 21) rfl)) (hw _ (List.mem_of_getElem? (i := 10) rfl)) (hw _ (List.mem_of_getElem? (i := 23) rfl)) (by decide) (by decide) (by decide) rfl rfl (by decide) (by decide) (lenOf pd_3 rfl) rfl (by first | decide | exact Nat.le_of_eq rfl) rfl at_299 rfl rfl ?_
              intro T430 h430 X430 qq430
              obtain ⟨⟨Ex431, F431_d, F431_n⟩, K431⟩ := qq430
              have A432 := A426.keep K431 (ninS ne_ad4_ad272 nin0)
              have A433 := A427.keep K431 (ninS ne_ad227_ad272 nin0)
              have A434 := A428.keep K431 (ninS ne_ad233_ad272 nin0)
              have Ex435 := Ex425.keep K431
              refine own_istore X430 (pc' := 304) (Ls' := #[.val (.int x0), .val (.int x1), .val (.int x2), .val (.int sel), .val (.int pp), .val (.int rr), .val (.ref ad4), .val (.int (2 : Int32)), .val (.ref ad227), .val (.ref ad233), .val (.ref ad272), .val (.int (own_hd [s0, s1] u0)), .val (.int (own_hd [s1] u1)), .val (.int (own_hd [] u2)), .val (.int (own_hd [] u3))]) at_302 rfl rfl ?_
              have e431_0 := own_nc_2_2 0 u3
              rw [e431_0] at F431_n
              refine own_iload X430 (pc' := 306) at_304 rfl rfl ?_
              refine own_aload X430 (pc' := 308) at_306 rfl rfl rfl ?_
              refine own_iload X430 (pc' := 310) at_308 rfl rfl ?_
              refine own_aload X430 (pc' := 312) at_310 rfl rfl rfl ?_
              refine own_iconst X430 (v := (0 : Int32)) (pc' := 313) at_312 rfl (by decide) ?_
              refine own_iaload X430 (v := u0) (pc' := 314) A434 rfl rfl at_313 rfl ?_
              refine own_callS X430 (W := 1) (argsL := [(.ref ad4), (.int (2 : Int32)), (.int u0)]) (rest := [(.int (own_hd [s0, s1] u0))]) (S' := [(.int (own_mb [s0, s1] u0)), (.int (own_hd [s0, s1] u0))]) (pc' := 317) (rm6_2 l Z a0 hw n0 ad4 u0 h430 X430.size s0 s1 s2 A432) (hw _ (List.mem_of_getElem? (i := 26) rfl)) (hw _ (List.mem_of_getElem? (i := 27) rfl)) (hw _ (List.mem_of_getElem? (i := 3) rfl)) (hw _ (List.mem_of_getElem? (i := 28) rfl)) (by decide) (by decide) (by decide) rfl rfl (by decide) (by decide) (lenOf pd_4 rfl) rfl (by first | decide | exact Nat.le_of_eq rfl) rfl at_314 rfl rfl ?_
              intro T436 h436 X436 qq436
              rw [show h436 = h430 from qq436] at X436
              refine own_icmp_ne X436 (pct := 372) (pc' := 320) at_317 rfl (by decide) (by decide) (fun hc => absurd hc (fun q => q (own_hm_2_0 s0 s1 s2 u0 hs1 hs2 ))) (fun _ => ?_)
              refine own_iload X436 (pc' := 322) at_320 rfl rfl ?_
              refine own_aload X436 (pc' := 324) at_322 rfl rfl rfl ?_
              refine own_iload X436 (pc' := 326) at_324 rfl rfl ?_
              refine own_aload X436 (pc' := 328) at_326 rfl rfl rfl ?_
              refine own_iconst X436 (v := (1 : Int32)) (pc' := 329) at_328 rfl (by decide) ?_
              refine own_iaload X436 (v := u1) (pc' := 330) A434 rfl rfl at_329 rfl ?_
              refine own_callS X436 (W := 1) (argsL := [(.ref ad4), (.int (2 : Int32)), (.int u1)]) (rest := [(.int (own_hd [s1] u1))]) (S' := [(.int (own_mb [s0, s1] u1)), (.int (own_hd [s1] u1))]) (pc' := 333) (rm6_2 l Z a0 hw n0 ad4 u1 h430 X436.size s0 s1 s2 A432) (hw _ (List.mem_of_getElem? (i := 26) rfl)) (hw _ (List.mem_of_getElem? (i := 27) rfl)) (hw _ (List.mem_of_getElem? (i := 3) rfl)) (hw _ (List.mem_of_getElem? (i := 28) rfl)) (by decide) (by decide) (by decide) rfl rfl (by decide) (by decide) (lenOf pd_4 rfl) rfl (by first | decide | exact Nat.le_of_eq rfl) rfl at_330 rfl rfl ?_
              intro T437 h437 X437 qq437
              rw [show h437 = h430 from qq437] at X437
              refine own_icmp_ne X437 (pct := 372) (pc' := 336) at_333 rfl (by decide) (by decide) (fun hc => absurd hc (fun q => q (own_hm_2_1 s0 s1 s2 u1 hs1 hs2 (by omega)))) (fun _ => ?_)
              refine own_iload X437 (pc' := 338) at_336 rfl rfl ?_
              refine own_aload X437 (pc' := 340) at_338 rfl rfl rfl ?_
              refine own_iload X437 (pc' := 342) at_340 rfl rfl ?_
              refine own_aload X437 (pc' := 344) at_342 rfl rfl rfl ?_
              refine own_iconst X437 (v := (2 : Int32)) (pc' := 345) at_344 rfl (by decide) ?_
              refine own_iaload X437 (v := u2) (pc' := 346) A434 rfl rfl at_345 rfl ?_
              refine own_callS X437 (W := 1) (argsL := [(.ref ad4), (.int (2 : Int32)), (.int u2)]) (rest := [(.int (own_hd [] u2))]) (S' := [(.int (own_mb [s0, s1] u2)), (.int (own_hd [] u2))]) (pc' := 349) (rm6_2 l Z a0 hw n0 ad4 u2 h430 X437.size s0 s1 s2 A432) (hw _ (List.mem_of_getElem? (i := 26) rfl)) (hw _ (List.mem_of_getElem? (i := 27) rfl)) (hw _ (List.mem_of_getElem? (i := 3) rfl)) (hw _ (List.mem_of_getElem? (i := 28) rfl)) (by decide) (by decide) (by decide) rfl rfl (by decide) (by decide) (lenOf pd_4 rfl) rfl (by first | decide | exact Nat.le_of_eq rfl) rfl at_346 rfl rfl ?_
              intro T438 h438 X438 qq438
              rw [show h438 = h430 from qq438] at X438
              refine own_icmp_ne X438 (pct := 372) (pc' := 352) at_349 rfl (by decide) (by decide) (fun hc => absurd hc (fun q => q (own_hm_2_2 s0 s1 s2 u2 hs1 hs2 (by omega) (by omega)))) (fun _ => ?_)
              refine own_iload X438 (pc' := 354) at_352 rfl rfl ?_
              refine own_aload X438 (pc' := 356) at_354 rfl rfl rfl ?_
              refine own_iload X438 (pc' := 358) at_356 rfl rfl ?_
              refine own_aload X438 (pc' := 360) at_358 rfl rfl rfl ?_
              refine own_iconst X438 (v := (3 : Int32)) (pc' := 361) at_360 rfl (by decide) ?_
              refine own_iaload X438 (v := u3) (pc' := 362) A434 rfl rfl at_361 rfl ?_
              refine own_callS X438 (W := 1) (argsL := [(.ref ad4), (.int (2 : Int32)), (.int u3)]) (rest := [(.int (own_hd [] u3))]) (S' := [(.int (own_mb [s0, s1] u3)), (.int (own_hd [] u3))]) (pc' := 365) (rm6_2 l Z a0 hw n0 ad4 u3 h430 X438.size s0 s1 s2 A432) (hw _ (List.mem_of_getElem? (i := 26) rfl)) (hw _ (List.mem_of_getElem? (i := 27) rfl)) (hw _ (List.mem_of_getElem? (i := 3) rfl)) (hw _ (List.mem_of_getElem? (i := 28) rfl)) (by decide) (by decide) (by decide) rfl rfl (by decide) (by decide) (lenOf pd_4 rfl) rfl (by first | decide | exact Nat.le_of_eq rfl) rfl at_362 rfl rfl ?_
              intro T439 h439 X439 qq439
              rw [show h439 = h430 from qq439] at X439
              refine own_icmp_ne X439 (pct := 372) (pc' := 368) at_365 rfl (by decide) (by decide) (fun hc => absurd hc (fun q => q (own_hm_2_2 s0 s1 s2 u3 hs1 hs2 (by omega) (by omega)))) (fun _ => ?_)
              refine own_iconst X439 (v := (1 : Int32)) (pc' := 369) at_368 rfl (by decide) ?_
              refine own_goto X439 (pc' := 373) at_369 (by decide) (by decide) ?_
              subst hΦ
              exact own_retZ X439 at_373 (by decide) (by decide) (by decide) rfl trivial
          · rw [e283_2] at F283_n
            refine own_aload X282 (pc' := 273) at_271 rfl rfl rfl ?_
            refine own_aload X282 (pc' := 275) at_273 rfl rfl rfl ?_
            refine own_iconst X282 (v := (1 : Int32)) (pc' := 276) at_275 rfl (by decide) ?_
            refine own_iaload X282 (v := u1) (pc' := 277) A286 rfl rfl at_276 rfl ?_
            refine own_callV X282 (W := 0) (a := ad272) (argsL := [(.int u1)]) (rest := []) (S' := [(.int (own_hd [] u1))]) (pc' := 280) (rm5_22 l Z a0 hw n0 ad272 u1 h282 X282.size ad227 s0 s1 ⟨Ex283, F283_d, F283_n⟩ A285 ge_ad272 ne_ad227_ad272) Ex283 (hw _ (List.mem_of_getElem? (i := 19) rfl)) (hw _ (List.mem_of_getElem? (i := 20) rfl)) (hw _ (List.mem_of_getElem? (i := 22) rfl)) (hw _ (List.mem_of_getElem? (i := 21) rfl)) (hw _ (List.mem_of_getElem? (i := 10) rfl)) (hw _ (List.mem_of_getElem? (i := 23) rfl)) (by decide) (by decide) (by decide) rfl rfl (by decide) (by decide) (lenOf pd_3 rfl) rfl (by first | decide | exact Nat.le_of_eq rfl) rfl at_277 rfl rfl ?_
            intro T440 h440 X440 qq440
            obtain ⟨⟨Ex441, F441_d, F441_n⟩, K441⟩ := qq440
            have A442 := A284.keep K441 (ninS ne_ad4_ad272 nin0)
            have A443 := A285.keep K441 (ninS ne_ad227_ad272 nin0)
            have A444 := A286.keep K441 (ninS ne_ad233_ad272 nin0)
            have Ex445 := Ex283.keep K441
            refine own_istore X440 (pc' := 282) (Ls' := #[.val (.int x0), .val (.int x1), .val (.int x2), .val (.int sel), .val (.int pp), .val (.int rr), .val (.ref ad4), .val (.int (2 : Int32)), .val (.ref ad227), .val (.ref ad233), .val (.ref ad272), .val (.int (own_hd [s0, s1] u0)), .val (.int (own_hd [] u1)), .unset, .unset]) at_280 rfl rfl ?_
            have e441_0 := own_nc_2_2 0 u1
            rw [e441_0] at F441_n
            refine own_aload X440 (pc' := 284) at_282 rfl rfl rfl ?_
            refine own_aload X440 (pc' := 286) at_284 rfl rfl rfl ?_
            refine own_iconst X440 (v := (2 : Int32)) (pc' := 287) at_286 rfl (by decide) ?_
            refine own_iaload X440 (v := u2) (pc' := 288) A444 rfl rfl at_287 rfl ?_
            refine own_callV X440 (W := 0) (a := ad272) (argsL := [(.int u2)]) (rest := []) (S' := [(.int (own_hd [] u2))]) (pc' := 291) (rm5_22 l Z a0 hw n0 ad272 u2 h440 X440.size ad227 s0 s1 ⟨Ex441, F441_d, F441_n⟩ A443 ge_ad272 ne_ad227_ad272) Ex441 (hw _ (List.mem_of_getElem? (i := 19) rfl)) (hw _ (List.mem_of_getElem? (i := 20) rfl)) (hw _ (List.mem_of_getElem? (i := 22) rfl)) (hw _ (List.mem_of_getElem? (i := 21) rfl)) (hw _ (List.mem_of_getElem? (i := 10) rfl)) (hw _ (List.mem_of_getElem? (i := 23) rfl)) (by decide) (by decide) (by decide) rfl rfl (by decide) (by decide) (lenOf pd_3 rfl) rfl (by first | decide | exact Nat.le_of_eq rfl) rfl at_288 rfl rfl ?_
            intro T446 h446 X446 qq446
            obtain ⟨⟨Ex447, F447_d, F447_n⟩, K447⟩ := qq446
            have A448 := A442.keep K447 (ninS ne_ad4_ad272 nin0)
            have A449 := A443.keep K447 (ninS ne_ad227_ad272 nin0)
            have A450 := A444.keep K447 (ninS ne_ad233_ad272 nin0)
            have Ex451 := Ex441.keep K447
            refine own_istore X446 (pc' := 293) (Ls' := #[.val (.int x0), .val (.int x1), .val (.int x2), .val (.int sel), .val (.int pp), .val (.int rr), .val (.ref ad4), .val (.int (2 : Int32)), .val (.ref ad227), .val (.ref ad233), .val (.ref ad272), .val (.int (own_hd [s0, s1] u0)), .val (.int (own_hd [] u1)), .val (.int (own_hd [] u2)), .unset]) at_291 rfl rfl ?_
            have e447_0 := own_nc_2_2 0 u2
            rw [e447_0] at F447_n
            refine own_aload X446 (pc' := 295) at_293 rfl rfl rfl ?_
            refine own_aload X446 (pc' := 297) at_295 rfl rfl rfl ?_
            refine own_iconst X446 (v := (3 : Int32)) (pc' := 298) at_297 rfl (by decide) ?_
            refine own_iaload X446 (v := u3) (pc' := 299) A450 rfl rfl at_298 rfl ?_
            refine own_callV X446 (W := 0) (a := ad272) (argsL := [(.int u3)]) (rest := []) (S' := [(.int (own_hd [] u3))]) (pc' := 302) (rm5_22 l Z a0 hw n0 ad272 u3 h446 X446.size ad227 s0 s1 ⟨Ex447, F447_d, F447_n⟩ A449 ge_ad272 ne_ad227_ad272) Ex447 (hw _ (List.mem_of_getElem? (i := 19) rfl)) (hw _ (List.mem_of_getElem? (i := 20) rfl)) (hw _ (List.mem_of_getElem? (i := 22) rfl)) (hw _ (List.mem_of_getElem? (i := 21) rfl)) (hw _ (List.mem_of_getElem? (i := 10) rfl)) (hw _ (List.mem_of_getElem? (i := 23) rfl)) (by decide) (by decide) (by decide) rfl rfl (by decide) (by decide) (lenOf pd_3 rfl) rfl (by first | decide | exact Nat.le_of_eq rfl) rfl at_299 rfl rfl ?_
            intro T452 h452 X452 qq452
            obtain ⟨⟨Ex453, F453_d, F453_n⟩, K453⟩ := qq452
            have A454 := A448.keep K453 (ninS ne_ad4_ad272 nin0)
            have A455 := A449.keep K453 (ninS ne_ad227_ad272 nin0)
            have A456 := A450.keep K453 (ninS ne_ad233_ad272 nin0)
            have Ex457 := Ex447.keep K453
            refine own_istore X452 (pc' := 304) (Ls' := #[.val (.int x0), .val (.int x1), .val (.int x2), .val (.int sel), .val (.int pp), .val (.int rr), .val (.ref ad4), .val (.int (2 : Int32)), .val (.ref ad227), .val (.ref ad233), .val (.ref ad272), .val (.int (own_hd [s0, s1] u0)), .val (.int (own_hd [] u1)), .val (.int (own_hd [] u2)), .val (.int (own_hd [] u3))]) at_302 rfl rfl ?_
            have e453_0 := own_nc_2_2 0 u3
            rw [e453_0] at F453_n
            refine own_iload X452 (pc' := 306) at_304 rfl rfl ?_
            refine own_aload X452 (pc' := 308) at_306 rfl rfl rfl ?_
            refine own_iload X452 (pc' := 310) at_308 rfl rfl ?_
            refine own_aload X452 (pc' := 312) at_310 rfl rfl rfl ?_
            refine own_iconst X452 (v := (0 : Int32)) (pc' := 313) at_312 rfl (by decide) ?_
            refine own_iaload X452 (v := u0) (pc' := 314) A456 rfl rfl at_313 rfl ?_
            refine own_callS X452 (W := 1) (argsL := [(.ref ad4), (.int (2 : Int32)), (.int u0)]) (rest := [(.int (own_hd [s0, s1] u0))]) (S' := [(.int (own_mb [s0, s1] u0)), (.int (own_hd [s0, s1] u0))]) (pc' := 317) (rm6_2 l Z a0 hw n0 ad4 u0 h452 X452.size s0 s1 s2 A454) (hw _ (List.mem_of_getElem? (i := 26) rfl)) (hw _ (List.mem_of_getElem? (i := 27) rfl)) (hw _ (List.mem_of_getElem? (i := 3) rfl)) (hw _ (List.mem_of_getElem? (i := 28) rfl)) (by decide) (by decide) (by decide) rfl rfl (by decide) (by decide) (lenOf pd_4 rfl) rfl (by first | decide | exact Nat.le_of_eq rfl) rfl at_314 rfl rfl ?_
            intro T458 h458 X458 qq458
            rw [show h458 = h452 from qq458] at X458
            refine own_icmp_ne X458 (pct := 372) (pc' := 320) at_317 rfl (by decide) (by decide) (fun hc => absurd hc (fun q => q (own_hm_2_0 s0 s1 s2 u0 hs1 hs2 ))) (fun _ => ?_)
            refine own_iload X458 (pc' := 322) at_320 rfl rfl ?_
            refine own_aload X458 (pc' := 324) at_322 rfl rfl rfl ?_
            refine own_iload X458 (pc' := 326) at_324 rfl rfl ?_
            refine own_aload X458 (pc' := 328) at_326 rfl rfl rfl ?_
            refine own_iconst X458 (v := (1 : Int32)) (pc' := 329) at_328 rfl (by decide) ?_
            refine own_iaload X458 (v := u1) (pc' := 330) A456 rfl rfl at_329 rfl ?_
            refine own_callS X458 (W := 1) (argsL := [(.ref ad4), (.int (2 : Int32)), (.int u1)]) (rest := [(.int (own_hd [] u1))]) (S' := [(.int (own_mb [s0, s1] u1)), (.int (own_hd [] u1))]) (pc' := 333) (rm6_2 l Z a0 hw n0 ad4 u1 h452 X458.size s0 s1 s2 A454) (hw _ (List.mem_of_getElem? (i := 26) rfl)) (hw _ (List.mem_of_getElem? (i := 27) rfl)) (hw _ (List.mem_of_getElem? (i := 3) rfl)) (hw _ (List.mem_of_getElem? (i := 28) rfl)) (by decide) (by decide) (by decide) rfl rfl (by decide) (by decide) (lenOf pd_4 rfl) rfl (by first | decide | exact Nat.le_of_eq rfl) rfl at_330 rfl rfl ?_
            intro T459 h459 X459 qq459
            rw [show h459 = h452 from qq459] at X459
            refine own_icmp_ne X459 (pct := 372) (pc' := 336) at_333 rfl (by decide) (by decide) (fun hc => absurd hc (fun q => q (own_hm_2_2 s0 s1 s2 u1 hs1 hs2 (by omega) (by omega)))) (fun _ => ?_)
            refine own_iload X459 (pc' := 338) at_336 rfl rfl ?_
            refine own_aload X459 (pc' := 340) at_338 rfl rfl rfl ?_
            refine own_iload X459 (pc' := 342) at_340 rfl rfl ?_
            refine own_aload X459 (pc' := 344) at_342 rfl rfl rfl ?_
            refine own_iconst X459 (v := (2 : Int32)) (pc' := 345) at_344 rfl (by decide) ?_
            refine own_iaload X459 (v := u2) (pc' := 346) A456 rfl rfl at_345 rfl ?_
            refine own_callS X459 (W := 1) (argsL := [(.ref ad4), (.int (2 : Int32)), (.int u2)]) (rest := [(.int (own_hd [] u2))]) (S' := [(.int (own_mb [s0, s1] u2)), (.int (own_hd [] u2))]) (pc' := 349) (rm6_2 l Z a0 hw n0 ad4 u2 h452 X459.size s0 s1 s2 A454) (hw _ (List.mem_of_getElem? (i := 26) rfl)) (hw _ (List.mem_of_getElem? (i := 27) rfl)) (hw _ (List.mem_of_getElem? (i := 3) rfl)) (hw _ (List.mem_of_getElem? (i := 28) rfl)) (by decide) (by decide) (by decide) rfl rfl (by decide) (by decide) (lenOf pd_4 rfl) rfl (by first | decide | exact Nat.le_of_eq rfl) rfl at_346 rfl rfl ?_
            intro T460 h460 X460 qq460
            rw [show h460 = h452 from qq460] at X460
            refine own_icmp_ne X460 (pct := 372) (pc' := 352) at_349 rfl (by decide) (by decide) (fun hc => absurd hc (fun q => q (own_hm_2_2 s0 s1 s2 u2 hs1 hs2 (by omega) (by omega)))) (fun _ => ?_)
            refine own_iload X460 (pc' := 354) at_352 rfl rfl ?_
            refine own_aload X460 (pc' := 356) at_354 rfl rfl rfl ?_
            refine own_iload X460 (pc' := 358) at_356 rfl rfl ?_
            refine own_aload X460 (pc' := 360) at_358 rfl rfl rfl ?_
            refine own_iconst X460 (v := (3 : Int32)) (pc' := 361) at_360 rfl (by decide) ?_
            refine own_iaload X460 (v := u3) (pc' := 362) A456 rfl rfl at_361 rfl ?_
            refine own_callS X460 (W := 1) (argsL := [(.ref ad4), (.int (2 : Int32)), (.int u3)]) (rest := [(.int (own_hd [] u3))]) (S' := [(.int (own_mb [s0, s1] u3)), (.int (own_hd [] u3))]) (pc' := 365) (rm6_2 l Z a0 hw n0 ad4 u3 h452 X460.size s0 s1 s2 A454) (hw _ (List.mem_of_getElem? (i := 26) rfl)) (hw _ (List.mem_of_getElem? (i := 27) rfl)) (hw _ (List.mem_of_getElem? (i := 3) rfl)) (hw _ (List.mem_of_getElem? (i := 28) rfl)) (by decide) (by decide) (by decide) rfl rfl (by decide) (by decide) (lenOf pd_4 rfl) rfl (by first | decide | exact Nat.le_of_eq rfl) rfl at_362 rfl rfl ?_
            intro T461 h461 X461 qq461
            rw [show h461 = h452 from qq461] at X461
            refine own_icmp_ne X461 (pct := 372) (pc' := 368) at_365 rfl (by decide) (by decide) (fun hc => absurd hc (fun q => q (own_hm_2_2 s0 s1 s2 u3 hs1 hs2 (by omega) (by omega)))) (fun _ => ?_)
            refine own_iconst X461 (v := (1 : Int32)) (pc' := 369) at_368 rfl (by decide) ?_
            refine own_goto X461 (pc' := 373) at_369 (by decide) (by decide) ?_
            subst hΦ
            exact own_retZ X461 at_373 (by decide) (by decide) (by decide) rfl trivial
        · refine own_iload X12 (pc' := 62) at_60 rfl rfl ?_
          refine own_if_ne X12 (pct := 73) (pc' := 65) at_62 rfl (by decide) (by decide) (fun _ => ?_) (fun hc => absurd hc (by decide))
          refine own_iload X12 (pc' := 75) at_73 rfl rfl ?_
          refine own_iconst X12 (v := (1 : Int32)) (pc' := 76) at_75 rfl (by decide) ?_
          refine own_icmp_ne X12 (pct := 94) (pc' := 79) at_76 rfl (by decide) (by decide) (fun _ => ?_) (fun hc => absurd hc (by decide))
          refine own_iload X12 (pc' := 96) at_94 rfl rfl ?_
          refine own_iconst X12 (v := (2 : Int32)) (pc' := 97) at_96 rfl (by decide) ?_
          refine own_icmp_ne X12 (pct := 122) (pc' := 100) at_97 rfl (by decide) (by decide) (fun _ => ?_) (fun hc => absurd hc (by decide))
          refine own_iconst X12 (v := (3 : Int32)) (pc' := 123) at_122 rfl (by decide) ?_
          refine own_newarr X12 (len := 3) (vs := [0, 0, 0]) (pc' := 125) (hw _ (List.mem_of_getElem? (i := 0) rfl)) rfl (by decide) (by decide) rfl (by decide) at_123 rfl (by decide) (by decide) ?_
          intro T462 h462 ad462 X462 ge_ad462 g_ad462 E462 A462
          have ne_ad4_ad462 : ad4 ≠ ad462 := Nat.ne_of_lt (Nat.lt_of_lt_of_le A13.lt (Nat.le_of_eq g_ad462.symm))
          have A463 := A13.ext E462
          refine own_dup X462 (pc' := 126) at_125 rfl rfl ?_
          refine own_iconst X462 (v := (0 : Int32)) (pc' := 127) at_126 rfl (by decide) ?_
          refine own_aload X462 (pc' := 129) at_127 rfl rfl rfl ?_
          refine own_iconst X462 (v := (0 : Int32)) (pc' := 130) at_129 rfl (by decide) ?_
          refine own_iaload X462 (v := s0) (pc' := 131) A463 rfl rfl at_130 rfl ?_
          refine own_iastore X462 (vs' := [s0, (0 : Int32), (0 : Int32)]) (pc' := 132) A462 ge_ad462 rfl rfl at_131 rfl ?_
          intro T464 h464 X464 A464 W464
          have A465 := A463.other W464 ne_ad4_ad462
          refine own_dup X464 (pc' := 133) at_132 rfl rfl ?_
          refine own_iconst X464 (v := (1 : Int32)) (pc' := 134) at_133 rfl (by decide) ?_
          refine own_aload X464 (pc' := 136) at_134 rfl rfl rfl ?_
          refine own_iconst X464 (v := (1 : Int32)) (pc' := 137) at_136 rfl (by decide) ?_
          refine own_iaload X464 (v := s1) (pc' := 138) A465 rfl rfl at_137 rfl ?_
          refine own_iastore X464 (vs' := [s0, s1, (0 : Int32)]) (pc' := 139) A464 ge_ad462 rfl rfl at_138 rfl ?_
          intro T466 h466 X466 A466 W466
          have A467 := A465.other W466 ne_ad4_ad462
          refine own_dup X466 (pc' := 140) at_139 rfl rfl ?_
          refine own_iconst X466 (v := (2 : Int32)) (pc' := 141) at_140 rfl (by decide) ?_
          refine own_aload X466 (pc' := 143) at_141 rfl rfl rfl ?_
          refine own_iconst X466 (v := (2 : Int32)) (pc' := 144) at_143 rfl (by decide) ?_
          refine own_iaload X466 (v := s2) (pc' := 145) A467 rfl rfl at_144 rfl ?_
          refine own_iastore X466 (vs' := [s0, s1, s2]) (pc' := 146) A466 ge_ad462 rfl rfl at_145 rfl ?_
          intro T468 h468 X468 A468 W468
          have A469 := A467.other W468 ne_ad4_ad462
          refine own_astore X468 (pc' := 148) (Ls' := #[.val (.int x0), .val (.int x1), .val (.int x2), .val (.int sel), .val (.int pp), .val (.int rr), .val (.ref ad4), .val (.int (3 : Int32)), .val (.ref ad462), .unset, .unset, .unset, .unset, .unset, .unset]) at_146 rfl rfl rfl ?_
          refine own_iconst X468 (v := (4 : Int32)) (pc' := 149) at_148 rfl (by decide) ?_
          refine own_newarr X468 (len := 4) (vs := [0, 0, 0, 0]) (pc' := 151) (hw _ (List.mem_of_getElem? (i := 0) rfl)) rfl (by decide) (by decide) rfl (by decide) at_149 rfl (by decide) (by decide) ?_
          intro T470 h470 ad470 X470 ge_ad470 g_ad470 E470 A470
          have ne_ad4_ad470 : ad4 ≠ ad470 := Nat.ne_of_lt (Nat.lt_of_lt_of_le A469.lt (Nat.le_of_eq g_ad470.symm))
          have A471 := A469.ext E470
          have ne_ad462_ad470 : ad462 ≠ ad470 := Nat.ne_of_lt (Nat.lt_of_lt_of_le A468.lt (Nat.le_of_eq g_ad470.symm))
          have A472 := A468.ext E470
          refine own_dup X470 (pc' := 152) at_151 rfl rfl ?_
          refine own_iconst X470 (v := (0 : Int32)) (pc' := 153) at_152 rfl (by decide) ?_
          refine own_aload X470 (pc' := 155) at_153 rfl rfl rfl ?_
          refine own_iloadN X470 (pc' := 156) at_155 rfl rfl ?_
          refine own_iconst X470 (v := (2 : Int32)) (pc' := 157) at_156 rfl (by decide) ?_
          refine own_iushr X470 (r := ((sel.toUInt32 >>> ((2 : Int32) &&& 31).toUInt32).toInt32)) (pc' := 158) at_157 rfl rfl ?_
          refine own_iload X470 (pc' := 160) at_158 rfl rfl ?_
          refine own_callS X470 (W := 3) (argsL := [(.ref ad4), (.int ((sel.toUInt32 >>> ((2 : Int32) &&& 31).toUInt32).toInt32)), (.int pp)]) (rest := [(.int (0 : Int32)), (.ref ad470), (.ref ad470)]) (S' := [(.int (own_pk s0 s1 s2 ((sel.toUInt32 >>> ((2 : Int32) &&& 31).toUInt32).toInt32) pp)), (.int (0 : Int32)), (.ref ad470), (.ref ad470)]) (pc' := 163) (rm2 l Z a0 hw n0 ad4 ((sel.toUInt32 >>> ((2 : Int32) &&& 31).toUInt32).toInt32) pp h470 X470.size s0 s1 s2 A471) (hw _ (List.mem_of_getElem? (i := 5) rfl)) (hw _ (List.mem_of_getElem? (i := 6) rfl)) (hw _ (List.mem_of_getElem? (i := 3) rfl)) (hw _ (List.mem_of_getElem? (i := 7) rfl)) (by decide) (by decide) (by decide) rfl rfl (by decide) (by decide) (lenOf pd_1 rfl) rfl (by first | decide | exact Nat.le_of_eq rfl) rfl at_160 rfl rfl ?_
          intro T473 h473 X473 qq473
          rw [show h473 = h470 from qq473] at X473
          refine own_iastore X473 (vs' := [(own_pk s0 s1 s2 ((sel.toUInt32 >>> ((2 : Int32) &&& 31).toUInt32).toInt32) pp), (0 : Int32), (0 : Int32), (0 : Int32)]) (pc' := 164) A470 ge_ad470 rfl rfl at_163 rfl ?_
          intro T474 h474 X474 A474 W474
          have A475 := A471.other W474 ne_ad4_ad470
          have A476 := A472.other W474 ne_ad462_ad470
          refine own_dup X474 (pc' := 165) at_164 rfl rfl ?_
          refine own_iconst X474 (v := (1 : Int32)) (pc' := 166) at_165 rfl (by decide) ?_
          refine own_aload X474 (pc' := 168) at_166 rfl rfl rfl ?_
          refine own_iloadN X474 (pc' := 169) at_168 rfl rfl ?_
          refine own_bipush X474 (v := (6 : Int32)) (pc' := 171) at_169 rfl (by decide) ?_
          refine own_iushr X474 (r := ((sel.toUInt32 >>> ((6 : Int32) &&& 31).toUInt32).toInt32)) (pc' := 172) at_171 rfl rfl ?_
          refine own_iload X474 (pc' := 174) at_172 rfl rfl ?_
          refine own_callS X474 (W := 3) (argsL := [(.ref ad4), (.int ((sel.toUInt32 >>> ((6 : Int32) &&& 31).toUInt32).toInt32)), (.int rr)]) (rest := [(.int (1 : Int32)), (.ref ad470), (.ref ad470)]) (S' := [(.int (own_pk s0 s1 s2 ((sel.toUInt32 >>> ((6 : Int32) &&& 31).toUInt32).toInt32) rr)), (.int (1 : Int32)), (.ref ad470), (.ref ad470)]) (pc' := 177) (rm2 l Z a0 hw n0 ad4 ((sel.toUInt32 >>> ((6 : Int32) &&& 31).toUInt32).toInt32) rr h474 X474.size s0 s1 s2 A475) (hw _ (List.mem_of_getElem? (i := 5) rfl)) (hw _ (List.mem_of_getElem? (i := 6) rfl)) (hw _ (List.mem_of_getElem? (i := 3) rfl)) (hw _ (List.mem_of_getElem? (i := 7) rfl)) (by decide) (by decide) (by decide) rfl rfl (by decide) (by decide) (lenOf pd_1 rfl) rfl (by first | decide | exact Nat.le_of_eq rfl) rfl at_174 rfl rfl ?_
          intro T477 h477 X477 qq477
          rw [show h477 = h474 from qq477] at X477
          refine own_iastore X477 (vs' := [(own_pk s0 s1 s2 ((sel.toUInt32 >>> ((2 : Int32) &&& 31).toUInt32).toInt32) pp), (own_pk s0 s1 s2 ((sel.toUInt32 >>> ((6 : Int32) &&& 31).toUInt32).toInt32) rr), (0 : Int32), (0 : Int32)]) (pc' := 178) A474 ge_ad470 rfl rfl at_177 rfl ?_
          intro T478 h478 X478 A478 W478
          have A479 := A475.other W478 ne_ad4_ad470
          have A480 := A476.other W478 ne_ad462_ad470
          refine own_dup X478 (pc' := 179) at_178 rfl rfl ?_
          refine own_iconst X478 (v := (2 : Int32)) (pc' := 180) at_179 rfl (by decide) ?_
          refine own_aload X478 (pc' := 182) at_180 rfl rfl rfl ?_
          refine own_iloadN X478 (pc' := 183) at_182 rfl rfl ?_
          refine own_bipush X478 (v := (10 : Int32)) (pc' := 185) at_183 rfl (by decide) ?_
          refine own_iushr X478 (r := ((sel.toUInt32 >>> ((10 : Int32) &&& 31).toUInt32).toInt32)) (pc' := 186) at_185 rfl rfl ?_
          refine own_iload X478 (pc' := 188) at_186 rfl rfl ?_
          refine own_iload X478 (pc' := 190) at_188 rfl rfl ?_
          refine own_ixor X478 (r := (pp ^^^ rr)) (pc' := 191) at_190 rfl rfl ?_
          refine own_callS X478 (W := 3) (argsL := [(.ref ad4), (.int ((sel.toUInt32 >>> ((10 : Int32) &&& 31).toUInt32).toInt32)), (.int (pp ^^^ rr))]) (rest := [(.int (2 : Int32)), (.ref ad470), (.ref ad470)]) (S' := [(.int (own_pk s0 s1 s2 ((sel.toUInt32 >>> ((10 : Int32) &&& 31).toUInt32).toInt32) (pp ^^^ rr))), (.int (2 : Int32)), (.ref ad470), (.ref ad470)]) (pc' := 194) (rm2 l Z a0 hw n0 ad4 ((sel.toUInt32 >>> ((10 : Int32) &&& 31).toUInt32).toInt32) (pp ^^^ rr) h478 X478.size s0 s1 s2 A479) (hw _ (List.mem_of_getElem? (i := 5) rfl)) (hw _ (List.mem_of_getElem? (i := 6) rfl)) (hw _ (List.mem_of_getElem? (i := 3) rfl)) (hw _ (List.mem_of_getElem? (i := 7) rfl)) (by decide) (by decide) (by decide) rfl rfl (by decide) (by decide) (lenOf pd_1 rfl) rfl (by first | decide | exact Nat.le_of_eq rfl) rfl at_191 rfl rfl ?_
          intro T481 h481 X481 qq481
          rw [show h481 = h478 from qq481] at X481
          refine own_iastore X481 (vs' := [(own_pk s0 s1 s2 ((sel.toUInt32 >>> ((2 : Int32) &&& 31).toUInt32).toInt32) pp), (own_pk s0 s1 s2 ((sel.toUInt32 >>> ((6 : Int32) &&& 31).toUInt32).toInt32) rr), (own_pk s0 s1 s2 ((sel.toUInt32 >>> ((10 : Int32) &&& 31).toUInt32).toInt32) (pp ^^^ rr)), (0 : Int32)]) (pc' := 195) A478 ge_ad470 rfl rfl at_194 rfl ?_
          intro T482 h482 X482 A482 W482
          have A483 := A479.other W482 ne_ad4_ad470
          have A484 := A480.other W482 ne_ad462_ad470
          refine own_dup X482 (pc' := 196) at_195 rfl rfl ?_
          refine own_iconst X482 (v := (3 : Int32)) (pc' := 197) at_196 rfl (by decide) ?_
          refine own_aload X482 (pc' := 199) at_197 rfl rfl rfl ?_
          refine own_iloadN X482 (pc' := 200) at_199 rfl rfl ?_
          refine own_bipush X482 (v := (14 : Int32)) (pc' := 202) at_200 rfl (by decide) ?_
          refine own_iushr X482 (r := ((sel.toUInt32 >>> ((14 : Int32) &&& 31).toUInt32).toInt32)) (pc' := 203) at_202 rfl rfl ?_
          refine own_iload X482 (pc' := 205) at_203 rfl rfl ?_
          refine own_iload X482 (pc' := 207) at_205 rfl rfl ?_
          refine own_iadd X482 (r := (pp + rr)) (pc' := 208) at_207 rfl rfl ?_
          refine own_callS X482 (W := 3) (argsL := [(.ref ad4), (.int ((sel.toUInt32 >>> ((14 : Int32) &&& 31).toUInt32).toInt32)), (.int (pp + rr))]) (rest := [(.int (3 : Int32)), (.ref ad470), (.ref ad470)]) (S' := [(.int (own_pk s0 s1 s2 ((sel.toUInt32 >>> ((14 : Int32) &&& 31).toUInt32).toInt32) (pp + rr))), (.int (3 : Int32)), (.ref ad470), (.ref ad470)]) (pc' := 211) (rm2 l Z a0 hw n0 ad4 ((sel.toUInt32 >>> ((14 : Int32) &&& 31).toUInt32).toInt32) (pp + rr) h482 X482.size s0 s1 s2 A483) (hw _ (List.mem_of_getElem? (i := 5) rfl)) (hw _ (List.mem_of_getElem? (i := 6) rfl)) (hw _ (List.mem_of_getElem? (i := 3) rfl)) (hw _ (List.mem_of_getElem? (i := 7) rfl)) (by decide) (by decide) (by decide) rfl rfl (by decide) (by decide) (lenOf pd_1 rfl) rfl (by first | decide | exact Nat.le_of_eq rfl) rfl at_208 rfl rfl ?_
          intro T485 h485 X485 qq485
          rw [show h485 = h482 from qq485] at X485
          refine own_iastore X485 (vs' := [(own_pk s0 s1 s2 ((sel.toUInt32 >>> ((2 : Int32) &&& 31).toUInt32).toInt32) pp), (own_pk s0 s1 s2 ((sel.toUInt32 >>> ((6 : Int32) &&& 31).toUInt32).toInt32) rr), (own_pk s0 s1 s2 ((sel.toUInt32 >>> ((10 : Int32) &&& 31).toUInt32).toInt32) (pp ^^^ rr)), (own_pk s0 s1 s2 ((sel.toUInt32 >>> ((14 : Int32) &&& 31).toUInt32).toInt32) (pp + rr))]) (pc' := 212) A482 ge_ad470 rfl rfl at_211 rfl ?_
          intro T486 h486 X486 A486 W486
          have A487 := A483.other W486 ne_ad4_ad470
          have A488 := A484.other W486 ne_ad462_ad470
          refine own_astore X486 (pc' := 214) (Ls' := #[.val (.int x0), .val (.int x1), .val (.int x2), .val (.int sel), .val (.int pp), .val (.int rr), .val (.ref ad4), .val (.int (3 : Int32)), .val (.ref ad462), .val (.ref ad470), .unset, .unset, .unset, .unset, .unset]) at_212 rfl rfl rfl ?_
          generalize (own_pk s0 s1 s2 ((sel.toUInt32 >>> ((2 : Int32) &&& 31).toUInt32).toInt32) pp) = p0 at *
          generalize (own_pk s0 s1 s2 ((sel.toUInt32 >>> ((6 : Int32) &&& 31).toUInt32).toInt32) rr) = p1 at *
          generalize (own_pk s0 s1 s2 ((sel.toUInt32 >>> ((10 : Int32) &&& 31).toUInt32).toInt32) (pp ^^^ rr)) = p2 at *
          generalize (own_pk s0 s1 s2 ((sel.toUInt32 >>> ((14 : Int32) &&& 31).toUInt32).toInt32) (pp + rr)) = p3 at *
          refine own_aload X486 (pc' := 216) at_214 rfl rfl rfl ?_
          refine own_iconst X486 (v := (0 : Int32)) (pc' := 217) at_216 rfl (by decide) ?_
          refine own_iconst X486 (v := (1 : Int32)) (pc' := 218) at_217 rfl (by decide) ?_
          refine own_callS X486 (W := 0) (argsL := [(.ref ad470), (.int (0 : Int32)), (.int (1 : Int32))]) (rest := []) (S' := []) (pc' := 221) (rm1_4_01 l Z a0 hw n0 ad470 h486 X486.size p0 p1 p2 p3 A486 ge_ad470) (hw _ (List.mem_of_getElem? (i := 1) rfl)) (hw _ (List.mem_of_getElem? (i := 2) rfl)) (hw _ (List.mem_of_getElem? (i := 3) rfl)) (hw _ (List.mem_of_getElem? (i := 4) rfl)) (by decide) (by decide) (by decide) rfl rfl (by decide) (by decide) (lenOf pd_0 rfl) rfl (by first | decide | exact Nat.le_of_eq rfl) rfl at_218 rfl rfl ?_
          intro T489 h489 X489 qq489
          obtain ⟨A490, K490⟩ := qq489
          have A491 := A487.keep K490 (ninS ne_ad4_ad470 nin0)
          have A492 := A488.keep K490 (ninS ne_ad462_ad470 nin0)
          refine own_aload X489 (pc' := 223) at_221 rfl rfl rfl ?_
          refine own_iconst X489 (v := (2 : Int32)) (pc' := 224) at_223 rfl (by decide) ?_
          refine own_iconst X489 (v := (3 : Int32)) (pc' := 225) at_224 rfl (by decide) ?_
          refine own_callS X489 (W := 0) (argsL := [(.ref ad470), (.int (2 : Int32)), (.int (3 : Int32))]) (rest := []) (S' := []) (pc' := 228) (rm1_4_23 l Z a0 hw n0 ad470 h489 X489.size (own_mn p0 p1) (own_mx p0 p1) p2 p3 A490 ge_ad470) (hw _ (List.mem_of_getElem? (i := 1) rfl)) (hw _ (List.mem_of_getElem? (i := 2) rfl)) (hw _ (List.mem_of_getElem? (i := 3) rfl)) (hw _ (List.mem_of_getElem? (i := 4) rfl)) (by decide) (by decide) (by decide) rfl rfl (by decide) (by decide) (lenOf pd_0 rfl) rfl (by first | decide | exact Nat.le_of_eq rfl) rfl at_225 rfl rfl ?_
          intro T493 h493 X493 qq493
          obtain ⟨A494, K494⟩ := qq493
          have A495 := A491.keep K494 (ninS ne_ad4_ad470 nin0)
          have A496 := A492.keep K494 (ninS ne_ad462_ad470 nin0)
          refine own_aload X493 (pc' := 230) at_228 rfl rfl rfl ?_
          refine own_iconst X493 (v := (0 : Int32)) (pc' := 231) at_230 rfl (by decide) ?_
          refine own_iconst X493 (v := (2 : Int32)) (pc' := 232) at_231 rfl (by decide) ?_
          refine own_callS X493 (W := 0) (argsL := [(.ref ad470), (.int (0 : Int32)), (.int (2 : Int32))]) (rest := []) (S' := []) (pc' := 235) (rm1_4_02 l Z a0 hw n0 ad470 h493 X493.size (own_mn p0 p1) (own_mx p0 p1) (own_mn p2 p3) (own_mx p2 p3) A494 ge_ad470) (hw _ (List.mem_of_getElem? (i := 1) rfl)) (hw _ (List.mem_of_getElem? (i := 2) rfl)) (hw _ (List.mem_of_getElem? (i := 3) rfl)) (hw _ (List.mem_of_getElem? (i := 4) rfl)) (by decide) (by decide) (by decide) rfl rfl (by decide) (by decide) (lenOf pd_0 rfl) rfl (by first | decide | exact Nat.le_of_eq rfl) rfl at_232 rfl rfl ?_
          intro T497 h497 X497 qq497
          obtain ⟨A498, K498⟩ := qq497
          have A499 := A495.keep K498 (ninS ne_ad4_ad470 nin0)
          have A500 := A496.keep K498 (ninS ne_ad462_ad470 nin0)
          refine own_aload X497 (pc' := 237) at_235 rfl rfl rfl ?_
          refine own_iconst X497 (v := (1 : Int32)) (pc' := 238) at_237 rfl (by decide) ?_
          refine own_iconst X497 (v := (3 : Int32)) (pc' := 239) at_238 rfl (by decide) ?_
          refine own_callS X497 (W := 0) (argsL := [(.ref ad470), (.int (1 : Int32)), (.int (3 : Int32))]) (rest := []) (S' := []) (pc' := 242) (rm1_4_13 l Z a0 hw n0 ad470 h497 X497.size (own_mn (own_mn p0 p1) (own_mn p2 p3)) (own_mx p0 p1) (own_mx (own_mn p0 p1) (own_mn p2 p3)) (own_mx p2 p3) A498 ge_ad470) (hw _ (List.mem_of_getElem? (i := 1) rfl)) (hw _ (List.mem_of_getElem? (i := 2) rfl)) (hw _ (List.mem_of_getElem? (i := 3) rfl)) (hw _ (List.mem_of_getElem? (i := 4) rfl)) (by decide) (by decide) (by decide) rfl rfl (by decide) (by decide) (lenOf pd_0 rfl) rfl (by first | decide | exact Nat.le_of_eq rfl) rfl at_239 rfl rfl ?_
          intro T501 h501 X501 qq501
          obtain ⟨A502, K502⟩ := qq501
          have A503 := A499.keep K502 (ninS ne_ad4_ad470 nin0)
          have A504 := A500.keep K502 (ninS ne_ad462_ad470 nin0)
          refine own_aload X501 (pc' := 244) at_242 rfl rfl rfl ?_
          refine own_iconst X501 (v := (1 : Int32)) (pc' := 245) at_244 rfl (by decide) ?_
          refine own_iconst X501 (v := (2 : Int32)) (pc' := 246) at_245 rfl (by decide) ?_
          refine own_callS X501 (W := 0) (argsL := [(.ref ad470), (.int (1 : Int32)), (.int (2 : Int32))]) (rest := []) (S' := []) (pc' := 249) (rm1_4_12 l Z a0 hw n0 ad470 h501 X501.size (own_mn (own_mn p0 p1) (own_mn p2 p3)) (own_mn (own_mx p0 p1) (own_mx p2 p3)) (own_mx (own_mn p0 p1) (own_mn p2 p3)) (own_mx (own_mx p0 p1) (own_mx p2 p3)) A502 ge_ad470) (hw _ (List.mem_of_getElem? (i := 1) rfl)) (hw _ (List.mem_of_getElem? (i := 2) rfl)) (hw _ (List.mem_of_getElem? (i := 3) rfl)) (hw _ (List.mem_of_getElem? (i := 4) rfl)) (by decide) (by decide) (by decide) rfl rfl (by decide) (by decide) (lenOf pd_0 rfl) rfl (by first | decide | exact Nat.le_of_eq rfl) rfl at_246 rfl rfl ?_
          intro T505 h505 X505 qq505
          obtain ⟨A506, K506⟩ := qq505
          have A507 := A503.keep K506 (ninS ne_ad4_ad470 nin0)
          have A508 := A504.keep K506 (ninS ne_ad462_ad470 nin0)
          obtain ⟨hq1, hq2, hq3⟩ := own_s4 p0 p1 p2 p3 _ _ _ _ rfl rfl rfl rfl
          generalize (own_mx (own_mx p0 p1) (own_mx p2 p3)) = u3 at *
          generalize (own_mx (own_mn (own_mx p0 p1) (own_mx p2 p3)) (own_mx (own_mn p0 p1) (own_mn p2 p3))) = u2 at *
          generalize (own_mn (own_mn (own_mx p0 p1) (own_mx p2 p3)) (own_mx (own_mn p0 p1) (own_mn p2 p3))) = u1 at *
          generalize (own_mn (own_mn p0 p1) (own_mn p2 p3)) = u0 at *
          refine own_new X505 (pc' := 252) (hw _ (List.mem_of_getElem? (i := 8) rfl)) (hw _ (List.mem_of_getElem? (i := 9) rfl)) (hw _ (List.mem_of_getElem? (i := 10) rfl)) at_249 rfl (by decide) (by decide) ?_
          intro T509 h509 ad509 X509 ge_ad509 g_ad509 E509 Ex509 D509
          have ne_ad4_ad509 : ad4 ≠ ad509 := Nat.ne_of_lt (Nat.lt_of_lt_of_le A507.lt (Nat.le_of_eq g_ad509.symm))
          have A510 := A507.ext E509
          have ne_ad462_ad509 : ad462 ≠ ad509 := Nat.ne_of_lt (Nat.lt_of_lt_of_le A508.lt (Nat.le_of_eq g_ad509.symm))
          have A511 := A508.ext E509
          have ne_ad470_ad509 : ad470 ≠ ad509 := Nat.ne_of_lt (Nat.lt_of_lt_of_le A506.lt (Nat.le_of_eq g_ad509.symm))
          have A512 := A506.ext E509
          have F509_documents : Fld Z h509 ad509 "com/example/quern/quern/index/DeletionsFile$Walk" "documents" "[I" .null := D509 (Or.inr (hw _ (List.mem_of_getElem? (i := 18) rfl))) (ty := (.array .int)) (by decide)
          have F509_next : Fld Z h509 ad509 "com/example/quern/quern/index/DeletionsFile$Walk" "next" "I" (.int (0 : Int32)) := D509 (Or.inl (hw _ (List.mem_of_getElem? (i := 25) rfl))) (ty := .int) (by decide)
          refine own_dup X509 (pc' := 253) at_252 rfl rfl ?_
          refine own_aload X509 (pc' := 255) at_253 rfl rfl rfl ?_
          refine own_callI X509 (W := 1) (a := ad509) (argsL := [(.ref ad462)]) (rest := [(.ref ad509)]) (S' := [(.ref ad509)]) (pc' := 258) (rm3 l Z a0 hw n0 ad509 ad462 h509 X509.size Ex509 F509_documents F509_next ge_ad509) rfl (hw _ (List.mem_of_getElem? (i := 11) rfl)) (hw _ (List.mem_of_getElem? (i := 12) rfl)) (hw _ (List.mem_of_getElem? (i := 10) rfl)) (hw _ (List.mem_of_getElem? (i := 13) rfl)) (by decide) (by decide) (by decide) rfl rfl (by decide) (by decide) (lenOf pd_2 rfl) rfl (by first | decide | exact Nat.le_of_eq rfl) rfl at_255 rfl rfl ?_
          intro T513 h513 X513 qq513
          obtain ⟨⟨Ex514, F514_d, F514_n⟩, K514⟩ := qq513
          have A515 := A510.keep K514 (ninS ne_ad4_ad509 nin0)
          have A516 := A511.keep K514 (ninS ne_ad462_ad509 nin0)
          have A517 := A512.keep K514 (ninS ne_ad470_ad509 nin0)
          have Ex518 := Ex509.keep K514
          refine own_astore X513 (pc' := 260) (Ls' := #[.val (.int x0), .val (.int x1), .val (.int x2), .val (.int sel), .val (.int pp), .val (.int rr), .val (.ref ad4), .val (.int (3 : Int32)), .val (.ref ad462), .val (.ref ad470), .val (.ref ad509), .unset, .unset, .unset, .unset]) at_258 rfl rfl rfl ?_
          refine own_aload X513 (pc' := 262) at_260 rfl rfl rfl ?_
          refine own_aload X513 (pc' := 264) at_262 rfl rfl rfl ?_
          refine own_iconst X513 (v := (0 : Int32)) (pc' := 265) at_264 rfl (by decide) ?_
          refine own_iaload X513 (v := u0) (pc' := 266) A517 rfl rfl at_265 rfl ?_
          refine own_callV X513 (W := 0) (a := ad509) (argsL := [(.int u0)]) (rest := []) (S' := [(.int (own_hd [s0, s1, s2] u0))]) (pc' := 269) (rm5_30 l Z a0 hw n0 ad509 u0 h513 X513.size ad462 s0 s1 s2 ⟨Ex514, F514_d, F514_n⟩ A516 ge_ad509 ne_ad462_ad509) Ex514 (hw _ (List.mem_of_getElem? (i := 19) rfl)) (hw _ (List.mem_of_getElem? (i := 20) rfl)) (hw _ (List.mem_of_getElem? (i := 22) rfl)) (hw _ (List.mem_of_getElem? (i := 21) rfl)) (hw _ (List.mem_of_getElem? (i := 10) rfl)) (hw _ (List.mem_of_getElem? (i := 23) rfl)) (by decide) (by decide) (by decide) rfl rfl (by decide) (by decide) (lenOf pd_3 rfl) rfl (by first | decide | exact Nat.le_of_eq rfl) rfl at_266 rfl rfl ?_
          intro T519 h519 X519 qq519
          obtain ⟨⟨Ex520, F520_d, F520_n⟩, K520⟩ := qq519
          have A521 := A515.keep K520 (ninS ne_ad4_ad509 nin0)
          have A522 := A516.keep K520 (ninS ne_ad462_ad509 nin0)
          have A523 := A517.keep K520 (ninS ne_ad470_ad509 nin0)
          have Ex524 := Ex514.keep K520
          refine own_istore X519 (pc' := 271) (Ls' := #[.val (.int x0), .val (.int x1), .val (.int x2), .val (.int sel), .val (.int pp), .val (.int rr), .val (.ref ad4), .val (.int (3 : Int32)), .val (.ref ad462), .val (.ref ad470), .val (.ref ad509), .val (.int (own_hd [s0, s1, s2] u0)), .unset, .unset, .unset]) at_269 rfl rfl ?_
          rcases own_nc_3_0 s0 s1 s2 u0 with e520_0 | ⟨e520_1, f520_1_0⟩ | ⟨e520_2, f520_2_0, f520_2_1⟩ | ⟨e520_3, f520_3_0, f520_3_1, f520_3_2⟩
          · rw [e520_0] at F520_n
            refine own_aload X519 (pc' := 273) at_271 rfl rfl rfl ?_
            refine own_aload X519 (pc' := 275) at_273 rfl rfl rfl ?_
            refine own_iconst X519 (v := (1 : Int32)) (pc' := 276) at_275 rfl (by decide) ?_
            refine own_iaload X519 (v := u1) (pc' := 277) A523 rfl rfl at_276 rfl ?_
            refine own_callV X519 (W := 0) (a := ad509) (argsL := [(.int u1)]) (rest := []) (S' := [(.int (own_hd [s0, s1, s2] u1))]) (pc' := 280) (rm5_30 l Z a0 hw n0 ad509 u1 h519 X519.size ad462 s0 s1 s2 ⟨Ex520, F520_d, F520_n⟩ A522 ge_ad509 ne_ad462_ad509) Ex520 (hw _ (List.mem_of_getElem? (i := 19) rfl)) (hw _ (List.mem_of_getElem? (i := 20) rfl)) (hw _ (List.mem_of_getElem? (i := 22) rfl)) (hw _ (List.mem_of_getElem? (i := 21) rfl)) (hw _ (List.mem_of_getElem? (i := 10) rfl)) (hw _ (List.mem_of_getElem? (i := 23) rfl)) (by decide) (by decide) (by decide) rfl rfl (by decide) (by decide) (lenOf pd_3 rfl) rfl (by first | decide | exact Nat.le_of_eq rfl) rfl at_277 rfl rfl ?_
            intro T525 h525 X525 qq525
            obtain ⟨⟨Ex526, F526_d, F526_n⟩, K526⟩ := qq525
            have A527 := A521.keep K526 (ninS ne_ad4_ad509 nin0)
            have A528 := A522.keep K526 (ninS ne_ad462_ad509 nin0)
            have A529 := A523.keep K526 (ninS ne_ad470_ad509 nin0)
            have Ex530 := Ex520.keep K526
            refine own_istore X525 (pc' := 282) (Ls' := #[.val (.int x0), .val (.int x1), .val (.int x2), .val (.int sel), .val (.int pp), .val (.int rr), .val (.ref ad4), .val (.int (3 : Int32)), .val (.ref ad462), .val (.ref ad470), .val (.ref ad509), .val (.int (own_hd [s0, s1, s2] u0)), .val (.int (own_hd [s0, s1, s2] u1)), .unset, .unset]) at_280 rfl rfl ?_
            rcases own_nc_3_0 s0 s1 s2 u1 with e526_0 | ⟨e526_1, f526_1_0⟩ | ⟨e526_2, f526_2_0, f526_2_1⟩ | ⟨e526_3, f526_3_0, f526_3_1, f526_3_2⟩
            · rw [e526_0] at F526_n
              refine own_aload X525 (pc' := 284) at_282 rfl rfl rfl ?_
              refine own_aload X525 (pc' := 286) at_284 rfl rfl rfl ?_
              refine own_iconst X525 (v := (2 : Int32)) (pc' := 287) at_286 rfl (by decide) ?_
              refine own_iaload X525 (v := u2) (pc' := 288) A529 rfl rfl at_287 rfl ?_
              refine own_callV X525 (W := 0) (a := ad509) (argsL := [(.int u2)]) (rest := []) (S' := [(.int (own_hd [s0, s1, s2] u2))]) (pc' := 291) (rm5_30 l Z a0 hw n0 ad509 u2 h525 X525.size ad462 s0 s1 s2 ⟨Ex526, F526_d, F526_n⟩ A528 ge_ad509 ne_ad462_ad509) Ex526 (hw _ (List.mem_of_getElem? (i := 19) rfl)) (hw _ (List.mem_of_getElem? (i := 20) rfl)) (hw _ (List.mem_of_getElem? (i := 22) rfl)) (hw _ (List.mem_of_getElem? (i := 21) rfl)) (hw _ (List.mem_of_getElem? (i := 10) rfl)) (hw _ (List.mem_of_getElem? (i := 23) rfl)) (by decide) (by decide) (by decide) rfl rfl (by decide) (by decide) (lenOf pd_3 rfl) rfl (by first | decide | exact Nat.le_of_eq rfl) rfl at_288 rfl rfl ?_
              intro T531 h531 X531 qq531
              obtain ⟨⟨Ex532, F532_d, F532_n⟩, K532⟩ := qq531
              have A533 := A527.keep K532 (ninS ne_ad4_ad509 nin0)
              have A534 := A528.keep K532 (ninS ne_ad462_ad509 nin0)
              have A535 := A529.keep K532 (ninS ne_ad470_ad509 nin0)
              have Ex536 := Ex526.keep K532
              refine own_istore X531 (pc' := 293) (Ls' := #[.val (.int x0), .val (.int x1), .val (.int x2), .val (.int sel), .val (.int pp), .val (.int rr), .val (.ref ad4), .val (.int (3 : Int32)), .val (.ref ad462), .val (.ref ad470), .val (.ref ad509), .val (.int (own_hd [s0, s1, s2] u0)), .val (.int (own_hd [s0, s1, s2] u1)), .val (.int (own_hd [s0, s1, s2] u2)), .unset]) at_291 rfl rfl ?_
              rcases own_nc_3_0 s0 s1 s2 u2 with e532_0 | ⟨e532_1, f532_1_0⟩ | ⟨e532_2, f532_2_0, f532_2_1⟩ | ⟨e532_3, f532_3_0, f532_3_1, f532_3_2⟩
              · rw [e532_0] at F532_n
                refine own_aload X531 (pc' := 295) at_293 rfl rfl rfl ?_
                refine own_aload X531 (pc' := 297) at_295 rfl rfl rfl ?_
                refine own_iconst X531 (v := (3 : Int32)) (pc' := 298) at_297 rfl (by decide) ?_
                refine own_iaload X531 (v := u3) (pc' := 299) A535 rfl rfl at_298 rfl ?_
                refine own_callV X531 (W := 0) (a := ad509) (argsL := [(.int u3)]) (rest := []) (S' := [(.int (own_hd [s0, s1, s2] u3))]) (pc' := 302) (rm5_30 l Z a0 hw n0 ad509 u3 h531 X531.size ad462 s0 s1 s2 ⟨Ex532, F532_d, F532_n⟩ A534 ge_ad509 ne_ad462_ad509) Ex532 (hw _ (List.mem_of_getElem? (i := 19) rfl)) (hw _ (List.mem_of_getElem? (i := 20) rfl)) (hw _ (List.mem_of_getElem? (i := 22) rfl)) (hw _ (List.mem_of_getElem? (i := 21) rfl)) (hw _ (List.mem_of_getElem? (i := 10) rfl)) (hw _ (List.mem_of_getElem? (i := 23) rfl)) (by decide) (by decide) (by decide) rfl rfl (by decide) (by decide) (lenOf pd_3 rfl) rfl (by first | decide | exact Nat.le_of_eq rfl) rfl at_299 rfl rfl ?_
                intro T537 h537 X537 qq537
                obtain ⟨⟨Ex538, F538_d, F538_n⟩, K538⟩ := qq537
                have A539 := A533.keep K538 (ninS ne_ad4_ad509 nin0)
                have A540 := A534.keep K538 (ninS ne_ad462_ad509 nin0)
                have A541 := A535.keep K538 (ninS ne_ad470_ad509 nin0)
                have Ex542 := Ex532.keep K538
                refine own_istore X537 (pc' := 304) (Ls' := #[.val (.int x0), .val (.int x1), .val (.int x2), .val (.int sel), .val (.int pp), .val (.int rr), .val (.ref ad4), .val (.int (3 : Int32)), .val (.ref ad462), .val (.ref ad470), .val (.ref ad509), .val (.int (own_hd [s0, s1, s2] u0)), .val (.int (own_hd [s0, s1, s2] u1)), .val (.int (own_hd [s0, s1, s2] u2)), .val (.int (own_hd [s0, s1, s2] u3))]) at_302 rfl rfl ?_
                rcases own_nc_3_0 s0 s1 s2 u3 with e538_0 | ⟨e538_1, f538_1_0⟩ | ⟨e538_2, f538_2_0, f538_2_1⟩ | ⟨e538_3, f538_3_0, f538_3_1, f538_3_2⟩
                · rw [e538_0] at F538_n
                  refine own_iload X537 (pc' := 306) at_304 rfl rfl ?_
                  refine own_aload X537 (pc' := 308) at_306 rfl rfl rfl ?_
                  refine own_iload X537 (pc' := 310) at_308 rfl rfl ?_
                  refine own_aload X537 (pc' := 312) at_310 rfl rfl rfl ?_
                  refine own_iconst X537 (v := (0 : Int32)) (pc' := 313) at_312 rfl (by decide) ?_
                  refine own_iaload X537 (v := u0) (pc' := 314) A541 rfl rfl at_313 rfl ?_
                  refine own_callS X537 (W := 1) (argsL := [(.ref ad4), (.int (3 : Int32)), (.int u0)]) (rest := [(.int (own_hd [s0, s1, s2] u0))]) (S' := [(.int (own_mb [s0, s1, s2] u0)), (.int (own_hd [s0, s1, s2] u0))]) (pc' := 317) (rm6_3 l Z a0 hw n0 ad4 u0 h537 X537.size s0 s1 s2 A539) (hw _ (List.mem_of_getElem? (i := 26) rfl)) (hw _ (List.mem_of_getElem? (i := 27) rfl)) (hw _ (List.mem_of_getElem? (i := 3) rfl)) (hw _ (List.mem_of_getElem? (i := 28) rfl)) (by decide) (by decide) (by decide) rfl rfl (by decide) (by decide) (lenOf pd_4 rfl) rfl (by first | decide | exact Nat.le_of_eq rfl) rfl at_314 rfl rfl ?_
                  intro T543 h543 X543 qq543
                  rw [show h543 = h537 from qq543] at X543
                  refine own_icmp_ne X543 (pct := 372) (pc' := 320) at_317 rfl (by decide) (by decide) (fun hc => absurd hc (fun q => q (own_hm_3_0 s0 s1 s2 u0 hs1 hs2 ))) (fun _ => ?_)
                  refine own_iload X543 (pc' := 322) at_320 rfl rfl ?_
                  refine own_aload X543 (pc' := 324) at_322 rfl rfl rfl ?_
                  refine own_iload X543 (pc' := 326) at_324 rfl rfl ?_
                  refine own_aload X543 (pc' := 328) at_326 rfl rfl rfl ?_
                  refine own_iconst X543 (v := (1 : Int32)) (pc' := 329) at_328 rfl (by decide) ?_
                  refine own_iaload X543 (v := u1) (pc' := 330) A541 rfl rfl at_329 rfl ?_
                  refine own_callS X543 (W := 1) (argsL := [(.ref ad4), (.int (3 : Int32)), (.int u1)]) (rest := [(.int (own_hd [s0, s1, s2] u1))]) (S' := [(.int (own_mb [s0, s1, s2] u1)), (.int (own_hd [s0, s1, s2] u1))]) (pc' := 333) (rm6_3 l Z a0 hw n0 ad4 u1 h537 X543.size s0 s1 s2 A539) (hw _ (List.mem_of_getElem? (i := 26) rfl)) (hw _ (List.mem_of_getElem? (i := 27) rfl)) (hw _ (List.mem_of_getElem? (i := 3) rfl)) (hw _ (List.mem_of_getElem? (i := 28) rfl)) (by decide) (by decide) (by decide) rfl rfl (by decide) (by decide) (lenOf pd_4 rfl) rfl (by first | decide | exact Nat.le_of_eq rfl) rfl at_330 rfl rfl ?_
                  intro T544 h544 X544 qq544
                  rw [show h544 = h537 from qq544] at X544
                  refine own_icmp_ne X544 (pct := 372) (pc' := 336) at_333 rfl (by decide) (by decide) (fun hc => absurd hc (fun q => q (own_hm_3_0 s0 s1 s2 u1 hs1 hs2 ))) (fun _ => ?_)
                  refine own_iload X544 (pc' := 338) at_336 rfl rfl ?_
                  refine own_aload X544 (pc' := 340) at_338 rfl rfl rfl ?_
                  refine own_iload X544 (pc' := 342) at_340 rfl rfl ?_
                  refine own_aload X544 (pc' := 344) at_342 rfl rfl rfl ?_
                  refine own_iconst X544 (v := (2 : Int32)) (pc' := 345) at_344 rfl (by decide) ?_
                  refine own_iaload X544 (v := u2) (pc' := 346) A541 rfl rfl at_345 rfl ?_
                  refine own_callS X544 (W := 1) (argsL := [(.ref ad4), (.int (3 : Int32)), (.int u2)]) (rest := [(.int (own_hd [s0, s1, s2] u2))]) (S' := [(.int (own_mb [s0, s1, s2] u2)), (.int (own_hd [s0, s1, s2] u2))]) (pc' := 349) (rm6_3 l Z a0 hw n0 ad4 u2 h537 X544.size s0 s1 s2 A539) (hw _ (List.mem_of_getElem? (i := 26) rfl)) (hw _ (List.mem_of_getElem? (i := 27) rfl)) (hw _ (List.mem_of_getElem? (i := 3) rfl)) (hw _ (List.mem_of_getElem? (i := 28) rfl)) (by decide) (by decide) (by decide) rfl rfl (by decide) (by decide) (lenOf pd_4 rfl) rfl (by first | decide | exact Nat.le_of_eq rfl) rfl at_346 rfl rfl ?_
                  intro T545 h545 X545 qq545
                  rw [show h545 = h537 from qq545] at X545
                  refine own_icmp_ne X545 (pct := 372) (pc' := 352) at_349 rfl (by decide) (by decide) (fun hc => absurd hc (fun q => q (own_hm_3_0 s0 s1 s2 u2 hs1 hs2 ))) (fun _ => ?_)
                  refine own_iload X545 (pc' := 354) at_352 rfl rfl ?_
                  refine own_aload X545 (pc' := 356) at_354 rfl rfl rfl ?_
                  refine own_iload X545 (pc' := 358) at_356 rfl rfl ?_
                  refine own_aload X545 (pc' := 360) at_358 rfl rfl rfl ?_
                  refine own_iconst X545 (v := (3 : Int32)) (pc' := 361) at_360 rfl (by decide) ?_
                  refine own_iaload X545 (v := u3) (pc' := 362) A541 rfl rfl at_361 rfl ?_
                  refine own_callS X545 (W := 1) (argsL := [(.ref ad4), (.int (3 : Int32)), (.int u3)]) (rest := [(.int (own_hd [s0, s1, s2] u3))]) (S' := [(.int (own_mb [s0, s1, s2] u3)), (.int (own_hd [s0, s1, s2] u3))]) (pc' := 365) (rm6_3 l Z a0 hw n0 ad4 u3 h537 X545.size s0 s1 s2 A539) (hw _ (List.mem_of_getElem? (i := 26) rfl)) (hw _ (List.mem_of_getElem? (i := 27) rfl)) (hw _ (List.mem_of_getElem? (i := 3) rfl)) (hw _ (List.mem_of_getElem? (i := 28) rfl)) (by decide) (by decide) (by decide) rfl rfl (by decide) (by decide) (lenOf pd_4 rfl) rfl (by first | decide | exact Nat.le_of_eq rfl) rfl at_362 rfl rfl ?_
                  intro T546 h546 X546 qq546
                  rw [show h546 = h537 from qq546] at X546
                  refine own_icmp_ne X546 (pct := 372) (pc' := 368) at_365 rfl (by decide) (by decide) (fun hc => absurd hc (fun q => q (own_hm_3_0 s0 s1 s2 u3 hs1 hs2 ))) (fun _ => ?_)
                  refine own_iconst X546 (v := (1 : Int32)) (pc' := 369) at_368 rfl (by decide) ?_
                  refine own_goto X546 (pc' := 373) at_369 (by decide) (by decide) ?_
                  subst hΦ
                  exact own_retZ X546 at_373 (by decide) (by decide) (by decide) rfl trivial
                · rw [e538_1] at F538_n
                  refine own_iload X537 (pc' := 306) at_304 rfl rfl ?_
                  refine own_aload X537 (pc' := 308) at_306 rfl rfl rfl ?_
                  refine own_iload X537 (pc' := 310) at_308 rfl rfl ?_
                  refine own_aload X537 (pc' := 312) at_310 rfl rfl rfl ?_
                  refine own_iconst X537 (v := (0 : Int32)) (pc' := 313) at_312 rfl (by decide) ?_
                  refine own_iaload X537 (v := u0) (pc' := 314) A541 rfl rfl at_313 rfl ?_
                  refine own_callS X537 (W := 1) (argsL := [(.ref ad4), (.int (3 : Int32)), (.int u0)]) (rest := [(.int (own_hd [s0, s1, s2] u0))]) (S' := [(.int (own_mb [s0, s1, s2] u0)), (.int (own_hd [s0, s1, s2] u0))]) (pc' := 317) (rm6_3 l Z a0 hw n0 ad4 u0 h537 X537.size s0 s1 s2 A539) (hw _ (List.mem_of_getElem? (i := 26) rfl)) (hw _ (List.mem_of_getElem? (i := 27) rfl)) (hw _ (List.mem_of_getElem? (i := 3) rfl)) (hw _ (List.mem_of_getElem? (i := 28) rfl)) (by decide) (by decide) (by decide) rfl rfl (by decide) (by decide) (lenOf pd_4 rfl) rfl (by first | decide | exact Nat.le_of_eq rfl) rfl at_314 rfl rfl ?_
                  intro T547 h547 X547 qq547
                  rw [show h547 = h537 from qq547] at X547
                  refine own_icmp_ne X547 (pct := 372) (pc' := 320) at_317 rfl (by decide) (by decide) (fun hc => absurd hc (fun q => q (own_hm_3_0 s0 s1 s2 u0 hs1 hs2 ))) (fun _ => ?_)
                  refine own_iload X547 (pc' := 322) at_320 rfl rfl ?_
                  refine own_aload X547 (pc' := 324) at_322 rfl rfl rfl ?_
                  refine own_iload X547 (pc' := 326) at_324 rfl rfl ?_
                  refine own_aload X547 (pc' := 328) at_326 rfl rfl rfl ?_
                  refine own_iconst X547 (v := (1 : Int32)) (pc' := 329) at_328 rfl (by decide) ?_
                  refine own_iaload X547 (v := u1) (pc' := 330) A541 rfl rfl at_329 rfl ?_
                  refine own_callS X547 (W := 1) (argsL := [(.ref ad4), (.int (3 : Int32)), (.int u1)]) (rest := [(.int (own_hd [s0, s1, s2] u1))]) (S' := [(.int (own_mb [s0, s1, s2] u1)), (.int (own_hd [s0, s1, s2] u1))]) (pc' := 333) (rm6_3 l Z a0 hw n0 ad4 u1 h537 X547.size s0 s1 s2 A539) (hw _ (List.mem_of_getElem? (i := 26) rfl)) (hw _ (List.mem_of_getElem? (i := 27) rfl)) (hw _ (List.mem_of_getElem? (i := 3) rfl)) (hw _ (List.mem_of_getElem? (i := 28) rfl)) (by decide) (by decide) (by decide) rfl rfl (by decide) (by decide) (lenOf pd_4 rfl) rfl (by first | decide | exact Nat.le_of_eq rfl) rfl at_330 rfl rfl ?_
                  intro T548 h548 X548 qq548
                  rw [show h548 = h537 from qq548] at X548
                  refine own_icmp_ne X548 (pct := 372) (pc' := 336) at_333 rfl (by decide) (by decide) (fun hc => absurd hc (fun q => q (own_hm_3_0 s0 s1 s2 u1 hs1 hs2 ))) (fun _ => ?_)
                  refine own_iload X548 (pc' := 338) at_336 rfl rfl ?_
                  refine own_aload X548 (pc' := 340) at_338 rfl rfl rfl ?_
                  refine own_iload X548 (pc' := 342) at_340 rfl rfl ?_
                  refine own_aload X548 (pc' := 344) at_342 rfl rfl rfl ?_
                  refine own_iconst X548 (v := (2 : Int32)) (pc' := 345) at_344 rfl (by decide) ?_
                  refine own_iaload X548 (v := u2) (pc' := 346) A541 rfl rfl at_345 rfl ?_
                  refine own_callS X548 (W := 1) (argsL := [(.ref ad4), (.int (3 : Int32)), (.int u2)]) (rest := [(.int (own_hd [s0, s1, s2] u2))]) (S' := [(.int (own_mb [s0, s1, s2] u2)), (.int (own_hd [s0, s1, s2] u2))]) (pc' := 349) (rm6_3 l Z a0 hw n0 ad4 u2 h537 X548.size s0 s1 s2 A539) (hw _ (List.mem_of_getElem? (i := 26) rfl)) (hw _ (List.mem_of_getElem? (i := 27) rfl)) (hw _ (List.mem_of_getElem? (i := 3) rfl)) (hw _ (List.mem_of_getElem? (i := 28) rfl)) (by decide) (by decide) (by decide) rfl rfl (by decide) (by decide) (lenOf pd_4 rfl) rfl (by first | decide | exact Nat.le_of_eq rfl) rfl at_346 rfl rfl ?_
                  intro T549 h549 X549 qq549
                  rw [show h549 = h537 from qq549] at X549
                  refine own_icmp_ne X549 (pct := 372) (pc' := 352) at_349 rfl (by decide) (by decide) (fun hc => absurd hc (fun q => q (own_hm_3_0 s0 s1 s2 u2 hs1 hs2 ))) (fun _ => ?_)
                  refine own_iload X549 (pc' := 354) at_352 rfl rfl ?_
                  refine own_aload X549 (pc' := 356) at_354 rfl rfl rfl ?_
                  refine own_iload X549 (pc' := 358) at_356 rfl rfl ?_
                  refine own_aload X549 (pc' := 360) at_358 rfl rfl rfl ?_
                  refine own_iconst X549 (v := (3 : Int32)) (pc' := 361) at_360 rfl (by decide) ?_
                  refine own_iaload X549 (v := u3) (pc' := 362) A541 rfl rfl at_361 rfl ?_
                  refine own_callS X549 (W := 1) (argsL := [(.ref ad4), (.int (3 : Int32)), (.int u3)]) (rest := [(.int (own_hd [s0, s1, s2] u3))]) (S' := [(.int (own_mb [s0, s1, s2] u3)), (.int (own_hd [s0, s1, s2] u3))]) (pc' := 365) (rm6_3 l Z a0 hw n0 ad4 u3 h537 X549.size s0 s1 s2 A539) (hw _ (List.mem_of_getElem? (i := 26) rfl)) (hw _ (List.mem_of_getElem? (i := 27) rfl)) (hw _ (List.mem_of_getElem? (i := 3) rfl)) (hw _ (List.mem_of_getElem? (i := 28) rfl)) (by decide) (by decide) (by decide) rfl rfl (by decide) (by decide) (lenOf pd_4 rfl) rfl (by first | decide | exact Nat.le_of_eq rfl) rfl at_362 rfl rfl ?_
                  intro T550 h550 X550 qq550
                  rw [show h550 = h537 from qq550] at X550
                  refine own_icmp_ne X550 (pct := 372) (pc' := 368) at_365 rfl (by decide) (by decide) (fun hc => absurd hc (fun q => q (own_hm_3_0 s0 s1 s2 u3 hs1 hs2 ))) (fun _ => ?_)
                  refine own_iconst X550 (v := (1 : Int32)) (pc' := 369) at_368 rfl (by decide) ?_
                  refine own_goto X550 (pc' := 373) at_369 (by decide) (by decide) ?_
                  subst hΦ
                  exact own_retZ X550 at_373 (by decide) (by decide) (by decide) rfl trivial
                · rw [e538_2] at F538_n
                  refine own_iload X537 (pc' := 306) at_304 rfl rfl ?_
                  refine own_aload X537 (pc' := 308) at_306 rfl rfl rfl ?_
                  refine own_iload X537 (pc' := 310) at_308 rfl rfl ?_
                  refine own_aload X537 (pc' := 312) at_310 rfl rfl rfl ?_
                  refine own_iconst X537 (v := (0 : Int32)) (pc' := 313) at_312 rfl (by decide) ?_
                  refine own_iaload X537 (v := u0) (pc' := 314) A541 rfl rfl at_313 rfl ?_
                  refine own_callS X537 (W := 1) (argsL := [(.ref ad4), (.int (3 : Int32)), (.int u0)]) (rest := [(.int (own_hd [s0, s1, s2] u0))]) (S' := [(.int (own_mb [s0, s1, s2] u0)), (.int (own_hd [s0, s1, s2] u0))]) (pc' := 317) (rm6_3 l Z a0 hw n0 ad4 u0 h537 X537.size s0 s1 s2 A539) (hw _ (List.mem_of_getElem? (i := 26) rfl)) (hw _ (List.mem_of_getElem? (i := 27) rfl)) (hw _ (List.mem_of_getElem? (i := 3) rfl)) (hw _ (List.mem_of_getElem? (i := 28) rfl)) (by decide) (by decide) (by decide) rfl rfl (by decide) (by decide) (lenOf pd_4 rfl) rfl (by first | decide | exact Nat.le_of_eq rfl) rfl at_314 rfl rfl ?_
                  intro T551 h551 X551 qq551
                  rw [show h551 = h537 from qq551] at X551
                  refine own_icmp_ne X551 (pct := 372) (pc' := 320) at_317 rfl (by decide) (by decide) (fun hc => absurd hc (fun q => q (own_hm_3_0 s0 s1 s2 u0 hs1 hs2 ))) (fun _ => ?_)
                  refine own_iload X551 (pc' := 322) at_320 rfl rfl ?_
                  refine own_aload X551 (pc' := 324) at_322 rfl rfl rfl ?_
                  refine own_iload X551 (pc' := 326) at_324 rfl rfl ?_
                  refine own_aload X551 (pc' := 328) at_326 rfl rfl rfl ?_
                  refine own_iconst X551 (v := (1 : Int32)) (pc' := 329) at_328 rfl (by decide) ?_
                  refine own_iaload X551 (v := u1) (pc' := 330) A541 rfl rfl at_329 rfl ?_
                  refine own_callS X551 (W := 1) (argsL := [(.ref ad4), (.int (3 : Int32)), (.int u1)]) (rest := [(.int (own_hd [s0, s1, s2] u1))]) (S' := [(.int (own_mb [s0, s1, s2] u1)), (.int (own_hd [s0, s1, s2] u1))]) (pc' := 333) (rm6_3 l Z a0 hw n0 ad4 u1 h537 X551.size s0 s1 s2 A539) (hw _ (List.mem_of_getElem? (i := 26) rfl)) (hw _ (List.mem_of_getElem? (i := 27) rfl)) (hw _ (List.mem_of_getElem? (i := 3) rfl)) (hw _ (List.mem_of_getElem? (i := 28) rfl)) (by decide) (by decide) (by decide) rfl rfl (by decide) (by decide) (lenOf pd_4 rfl) rfl (by first | decide | exact Nat.le_of_eq rfl) rfl at_330 rfl rfl ?_
                  intro T552 h552 X552 qq552
                  rw [show h552 = h537 from qq552] at X552
                  refine own_icmp_ne X552 (pct := 372) (pc' := 336) at_333 rfl (by decide) (by decide) (fun hc => absurd hc (fun q => q (own_hm_3_0 s0 s1 s2 u1 hs1 hs2 ))) (fun _ => ?_)
                  refine own_iload X552 (pc' := 338) at_336 rfl rfl ?_
                  refine own_aload X552 (pc' := 340) at_338 rfl rfl rfl ?_
                  refine own_iload X552 (pc' := 342) at_340 rfl rfl ?_
                  refine own_aload X552 (pc' := 344) at_342 rfl rfl rfl ?_
                  refine own_iconst X552 (v := (2 : Int32)) (pc' := 345) at_344 rfl (by decide) ?_
                  refine own_iaload X552 (v := u2) (pc' := 346) A541 rfl rfl at_345 rfl ?_
                  refine own_callS X552 (W := 1) (argsL := [(.ref ad4), (.int (3 : Int32)), (.int u2)]) (rest := [(.int (own_hd [s0, s1, s2] u2))]) (S' := [(.int (own_mb [s0, s1, s2] u2)), (.int (own_hd [s0, s1, s2] u2))]) (pc' := 349) (rm6_3 l Z a0 hw n0 ad4 u2 h537 X552.size s0 s1 s2 A539) (hw _ (List.mem_of_getElem? (i := 26) rfl)) (hw _ (List.mem_of_getElem? (i := 27) rfl)) (hw _ (List.mem_of_getElem? (i := 3) rfl)) (hw _ (List.mem_of_getElem? (i := 28) rfl)) (by decide) (by decide) (by decide) rfl rfl (by decide) (by decide) (lenOf pd_4 rfl) rfl (by first | decide | exact Nat.le_of_eq rfl) rfl at_346 rfl rfl ?_
                  intro T553 h553 X553 qq553
                  rw [show h553 = h537 from qq553] at X553
                  refine own_icmp_ne X553 (pct := 372) (pc' := 352) at_349 rfl (by decide) (by decide) (fun hc => absurd hc (fun q => q (own_hm_3_0 s0 s1 s2 u2 hs1 hs2 ))) (fun _ => ?_)
                  refine own_iload X553 (pc' := 354) at_352 rfl rfl ?_
                  refine own_aload X553 (pc' := 356) at_354 rfl rfl rfl ?_
                  refine own_iload X553 (pc' := 358) at_356 rfl rfl ?_
                  refine own_aload X553 (pc' := 360) at_358 rfl rfl rfl ?_
                  refine own_iconst X553 (v := (3 : Int32)) (pc' := 361) at_360 rfl (by decide) ?_
                  refine own_iaload X553 (v := u3) (pc' := 362) A541 rfl rfl at_361 rfl ?_
                  refine own_callS X553 (W := 1) (argsL := [(.ref ad4), (.int (3 : Int32)), (.int u3)]) (rest := [(.int (own_hd [s0, s1, s2] u3))]) (S' := [(.int (own_mb [s0, s1, s2] u3)), (.int (own_hd [s0, s1, s2] u3))]) (pc' := 365) (rm6_3 l Z a0 hw n0 ad4 u3 h537 X553.size s0 s1 s2 A539) (hw _ (List.mem_of_getElem? (i := 26) rfl)) (hw _ (List.mem_of_getElem? (i := 27) rfl)) (hw _ (List.mem_of_getElem? (i := 3) rfl)) (hw _ (List.mem_of_getElem? (i := 28) rfl)) (by decide) (by decide) (by decide) rfl rfl (by decide) (by decide) (lenOf pd_4 rfl) rfl (by first | decide | exact Nat.le_of_eq rfl) rfl at_362 rfl rfl ?_
                  intro T554 h554 X554 qq554
                  rw [show h554 = h537 from qq554] at X554
                  refine own_icmp_ne X554 (pct := 372) (pc' := 368) at_365 rfl (by decide) (by decide) (fun hc => absurd hc (fun q => q (own_hm_3_0 s0 s1 s2 u3 hs1 hs2 ))) (fun _ => ?_)
                  refine own_iconst X554 (v := (1 : Int32)) (pc' := 369) at_368 rfl (by decide) ?_
                  refine own_goto X554 (pc' := 373) at_369 (by decide) (by decide) ?_
                  subst hΦ
                  exact own_retZ X554 at_373 (by decide) (by decide) (by decide) rfl trivial
                · rw [e538_3] at F538_n
                  refine own_iload X537 (pc' := 306) at_304 rfl rfl ?_
                  refine own_aload X537 (pc' := 308) at_306 rfl rfl rfl ?_
                  refine own_iload X537 (pc' := 310) at_308 rfl rfl ?_
                  refine own_aload X537 (pc' := 312) at_310 rfl rfl rfl ?_
                  refine own_iconst X537 (v := (0 : Int32)) (pc' := 313) at_312 rfl (by decide) ?_
                  refine own_iaload X537 (v := u0) (pc' := 314) A541 rfl rfl at_313 rfl ?_
                  refine own_callS X537 (W := 1) (argsL := [(.ref ad4), (.int (3 : Int32)), (.int u0)]) (rest := [(.int (own_hd [s0, s1, s2] u0))]) (S' := [(.int (own_mb [s0, s1, s2] u0)), (.int (own_hd [s0, s1, s2] u0))]) (pc' := 317) (rm6_3 l Z a0 hw n0 ad4 u0 h537 X537.size s0 s1 s2 A539) (hw _ (List.mem_of_getElem? (i := 26) rfl)) (hw _ (List.mem_of_getElem? (i := 27) rfl)) (hw _ (List.mem_of_getElem? (i := 3) rfl)) (hw _ (List.mem_of_getElem? (i := 28) rfl)) (by decide) (by decide) (by decide) rfl rfl (by decide) (by decide) (lenOf pd_4 rfl) rfl (by first | decide | exact Nat.le_of_eq rfl) rfl at_314 rfl rfl ?_
                  intro T555 h555 X555 qq555
                  rw [show h555 = h537 from qq555] at X555
                  refine own_icmp_ne X555 (pct := 372) (pc' := 320) at_317 rfl (by decide) (by decide) (fun hc => absurd hc (fun q => q (own_hm_3_0 s0 s1 s2 u0 hs1 hs2 ))) (fun _ => ?_)
                  refine own_iload X555 (pc' := 322) at_320 rfl rfl ?_
                  refine own_aload X555 (pc' := 324) at_322 rfl rfl rfl ?_
                  refine own_iload X555 (pc' := 326) at_324 rfl rfl ?_
                  refine own_aload X555 (pc' := 328) at_326 rfl rfl rfl ?_
                  refine own_iconst X555 (v := (1 : Int32)) (pc' := 329) at_328 rfl (by decide) ?_
                  refine own_iaload X555 (v := u1) (pc' := 330) A541 rfl rfl at_329 rfl ?_
                  refine own_callS X555 (W := 1) (argsL := [(.ref ad4), (.int (3 : Int32)), (.int u1)]) (rest := [(.int (own_hd [s0, s1, s2] u1))]) (S' := [(.int (own_mb [s0, s1, s2] u1)), (.int (own_hd [s0, s1, s2] u1))]) (pc' := 333) (rm6_3 l Z a0 hw n0 ad4 u1 h537 X555.size s0 s1 s2 A539) (hw _ (List.mem_of_getElem? (i := 26) rfl)) (hw _ (List.mem_of_getElem? (i := 27) rfl)) (hw _ (List.mem_of_getElem? (i := 3) rfl)) (hw _ (List.mem_of_getElem? (i := 28) rfl)) (by decide) (by decide) (by decide) rfl rfl (by decide) (by decide) (lenOf pd_4 rfl) rfl (by first | decide | exact Nat.le_of_eq rfl) rfl at_330 rfl rfl ?_
                  intro T556 h556 X556 qq556
                  rw [show h556 = h537 from qq556] at X556
                  refine own_icmp_ne X556 (pct := 372) (pc' := 336) at_333 rfl (by decide) (by decide) (fun hc => absurd hc (fun q => q (own_hm_3_0 s0 s1 s2 u1 hs1 hs2 ))) (fun _ => ?_)
                  refine own_iload X556 (pc' := 338) at_336 rfl rfl ?_
                  refine own_aload X556 (pc' := 340) at_338 rfl rfl rfl ?_
                  refine own_iload X556 (pc' := 342) at_340 rfl rfl ?_
                  refine own_aload X556 (pc' := 344) at_342 rfl rfl rfl ?_
                  refine own_iconst X556 (v := (2 : Int32)) (pc' := 345) at_344 rfl (by decide) ?_
                  refine own_iaload X556 (v := u2) (pc' := 346) A541 rfl rfl at_345 rfl ?_
                  refine own_callS X556 (W := 1) (argsL := [(.ref ad4), (.int (3 : Int32)), (.int u2)]) (rest := [(.int (own_hd [s0, s1, s2] u2))]) (S' := [(.int (own_mb [s0, s1, s2] u2)), (.int (own_hd [s0, s1, s2] u2))]) (pc' := 349) (rm6_3 l Z a0 hw n0 ad4 u2 h537 X556.size s0 s1 s2 A539) (hw _ (List.mem_of_getElem? (i := 26) rfl)) (hw _ (List.mem_of_getElem? (i := 27) rfl)) (hw _ (List.mem_of_getElem? (i := 3) rfl)) (hw _ (List.mem_of_getElem? (i := 28) rfl)) (by decide) (by decide) (by decide) rfl rfl (by decide) (by decide) (lenOf pd_4 rfl) rfl (by first | decide | exact Nat.le_of_eq rfl) rfl at_346 rfl rfl ?_
                  intro T557 h557 X557 qq557
                  rw [show h557 = h537 from qq557] at X557
                  refine own_icmp_ne X557 (pct := 372) (pc' := 352) at_349 rfl (by decide) (by decide) (fun hc => absurd hc (fun q => q (own_hm_3_0 s0 s1 s2 u2 hs1 hs2 ))) (fun _ => ?_)
                  refine own_iload X557 (pc' := 354) at_352 rfl rfl ?_
                  refine own_aload X557 (pc' := 356) at_354 rfl rfl rfl ?_
                  refine own_iload X557 (pc' := 358) at_356 rfl rfl ?_
                  refine own_aload X557 (pc' := 360) at_358 rfl rfl rfl ?_
                  refine own_iconst X557 (v := (3 : Int32)) (pc' := 361) at_360 rfl (by decide) ?_
                  refine own_iaload X557 (v := u3) (pc' := 362) A541 rfl rfl at_361 rfl ?_
                  refine own_callS X557 (W := 1) (argsL := [(.ref ad4), (.int (3 : Int32)), (.int u3)]) (rest := [(.int (own_hd [s0, s1, s2] u3))]) (S' := [(.int (own_mb [s0, s1, s2] u3)), (.int (own_hd [s0, s1, s2] u3))]) (pc' := 365) (rm6_3 l Z a0 hw n0 ad4 u3 h537 X557.size s0 s1 s2 A539) (hw _ (List.mem_of_getElem? (i := 26) rfl)) (hw _ (List.mem_of_getElem? (i := 27) rfl)) (hw _ (List.mem_of_getElem? (i := 3) rfl)) (hw _ (List.mem_of_getElem? (i := 28) rfl)) (by decide) (by decide) (by decide) rfl rfl (by decide) (by decide) (lenOf pd_4 rfl) rfl (by first | decide | exact Nat.le_of_eq rfl) rfl at_362 rfl rfl ?_
                  intro T558 h558 X558 qq558
                  rw [show h558 = h537 from qq558] at X558
                  refine own_icmp_ne X558 (pct := 372) (pc' := 368) at_365 rfl (by decide) (by decide) (fun hc => absurd hc (fun q => q (own_hm_3_0 s0 s1 s2 u3 hs1 hs2 ))) (fun _ => ?_)
                  refine own_iconst X558 (v := (1 : Int32)) (pc' := 369) at_368 rfl (by decide) ?_
                  refine own_goto X558 (pc' := 373) at_369 (by decide) (by decide) ?_
                  subst hΦ
                  exact own_retZ X558 at_373 (by decide) (by decide) (by decide) rfl trivial
              · rw [e532_1] at F532_n
                refine own_aload X531 (pc' := 295) at_293 rfl rfl rfl ?_
                refine own_aload X531 (pc' := 297) at_295 rfl rfl rfl ?_
                refine own_iconst X531 (v := (3 : Int32)) (pc' := 298) at_297 rfl (by decide) ?_
                refine own_iaload X531 (v := u3) (pc' := 299) A535 rfl rfl at_298 rfl ?_
                refine own_callV X531 (W := 0) (a := ad509) (argsL := [(.int u3)]) (rest := []) (S' := [(.int (own_hd [s1, s2] u3))]) (pc' := 302) (rm5_31 l Z a0 hw n0 ad509 u3 h531 X531.size ad462 s0 s1 s2 ⟨Ex532, F532_d, F532_n⟩ A534 ge_ad509 ne_ad462_ad509) Ex532 (hw _ (List.mem_of_getElem? (i := 19) rfl)) (hw _ (List.mem_of_getElem? (i := 20) rfl)) (hw _ (List.mem_of_getElem? (i := 22) rfl)) (hw _ (List.mem_of_getElem? (i := 21) rfl)) (hw _ (List.mem_of_getElem? (i := 10) rfl)) (hw _ (List.mem_of_getElem? (i := 23) rfl)) (by decide) (by decide) (by decide) rfl rfl (by decide) (by decide) (lenOf pd_3 rfl) rfl (by first | decide | exact Nat.le_of_eq rfl) rfl at_299 rfl rfl ?_
                intro T559 h559 X559 qq559
                obtain ⟨⟨Ex560, F560_d, F560_n⟩, K560⟩ := qq559
                have A561 := A533.keep K560 (ninS ne_ad4_ad509 nin0)
                have A562 := A534.keep K560 (ninS ne_ad462_ad509 nin0)
                have A563 := A535.keep K560 (ninS ne_ad470_ad509 nin0)
                have Ex564 := Ex532.keep K560
                refine own_istore X559 (pc' := 304) (Ls' := #[.val (.int x0), .val (.int x1), .val (.int x2), .val (.int sel), .val (.int pp), .val (.int rr), .val (.ref ad4), .val (.int (3 : Int32)), .val (.ref ad462), .val (.ref ad470), .val (.ref ad509), .val (.int (own_hd [s0, s1, s2] u0)), .val (.int (own_hd [s0, s1, s2] u1)), .val (.int (own_hd [s0, s1, s2] u2)), .val (.int (own_hd [s1, s2] u3))]) at_302 rfl rfl ?_
                rcases own_nc_3_1 s1 s2 u3 with e560_0 | ⟨e560_1, f560_1_0⟩ | ⟨e560_2, f560_2_0, f560_2_1⟩
                · rw [e560_0] at F560_n
                  refine own_iload X559 (pc' := 306) at_304 rfl rfl ?_
                  refine own_aload X559 (pc' := 308) at_306 rfl rfl rfl ?_
                  refine own_iload X559 (pc' := 310) at_308 rfl rfl ?_
                  refine own_aload X559 (pc' := 312) at_310 rfl rfl rfl ?_
                  refine own_iconst X559 (v := (0 : Int32)) (pc' := 313) at_312 rfl (by decide) ?_
                  refine own_iaload X559 (v := u0) (pc' := 314) A563 rfl rfl at_313 rfl ?_
                  refine own_callS X559 (W := 1) (argsL := [(.ref ad4), (.int (3 : Int32)), (.int u0)]) (rest := [(.int (own_hd [s0, s1, s2] u0))]) (S' := [(.int (own_mb [s0, s1, s2] u0)), (.int (own_hd [s0, s1, s2] u0))]) (pc' := 317) (rm6_3 l Z a0 hw n0 ad4 u0 h559 X559.size s0 s1 s2 A561) (hw _ (List.mem_of_getElem? (i := 26) rfl)) (hw _ (List.mem_of_getElem? (i := 27) rfl)) (hw _ (List.mem_of_getElem? (i := 3) rfl)) (hw _ (List.mem_of_getElem? (i := 28) rfl)) (by decide) (by decide) (by decide) rfl rfl (by decide) (by decide) (lenOf pd_4 rfl) rfl (by first | decide | exact Nat.le_of_eq rfl) rfl at_314 rfl rfl ?_
                  intro T565 h565 X565 qq565
                  rw [show h565 = h559 from qq565] at X565
                  refine own_icmp_ne X565 (pct := 372) (pc' := 320) at_317 rfl (by decide) (by decide) (fun hc => absurd hc (fun q => q (own_hm_3_0 s0 s1 s2 u0 hs1 hs2 ))) (fun _ => ?_)
                  refine own_iload X565 (pc' := 322) at_320 rfl rfl ?_
                  refine own_aload X565 (pc' := 324) at_322 rfl rfl rfl ?_
                  refine own_iload X565 (pc' := 326) at_324 rfl rfl ?_
                  refine own_aload X565 (pc' := 328) at_326 rfl rfl rfl ?_
                  refine own_iconst X565 (v := (1 : Int32)) (pc' := 329) at_328 rfl (by decide) ?_
                  refine own_iaload X565 (v := u1) (pc' := 330) A563 rfl rfl at_329 rfl ?_
                  refine own_callS X565 (W := 1) (argsL := [(.ref ad4), (.int (3 : Int32)), (.int u1)]) (rest := [(.int (own_hd [s0, s1, s2] u1))]) (S' := [(.int (own_mb [s0, s1, s2] u1)), (.int (own_hd [s0, s1, s2] u1))]) (pc' := 333) (rm6_3 l Z a0 hw n0 ad4 u1 h559 X565.size s0 s1 s2 A561) (hw _ (List.mem_of_getElem? (i := 26) rfl)) (hw _ (List.mem_of_getElem? (i := 27) rfl)) (hw _ (List.mem_of_getElem? (i := 3) rfl)) (hw _ (List.mem_of_getElem? (i := 28) rfl)) (by decide) (by decide) (by decide) rfl rfl (by decide) (by decide) (lenOf pd_4 rfl) rfl (by first | decide | exact Nat.le_of_eq rfl) rfl at_330 rfl rfl ?_
                  intro T566 h566 X566 qq566
                  rw [show h566 = h559 from qq566] at X566
                  refine own_icmp_ne X566 (pct := 372) (pc' := 336) at_333 rfl (by decide) (by decide) (fun hc => absurd hc (fun q => q (own_hm_3_0 s0 s1 s2 u1 hs1 hs2 ))) (fun _ => ?_)
                  refine own_iload X566 (pc' := 338) at_336 rfl rfl ?_
                  refine own_aload X566 (pc' := 340) at_338 rfl rfl rfl ?_
                  refine own_iload X566 (pc' := 342) at_340 rfl rfl ?_
                  refine own_aload X566 (pc' := 344) at_342 rfl rfl rfl ?_
                  refine own_iconst X566 (v := (2 : Int32)) (pc' := 345) at_344 rfl (by decide) ?_
                  refine own_iaload X566 (v := u2) (pc' := 346) A563 rfl rfl at_345 rfl ?_
                  refine own_callS X566 (W := 1) (argsL := [(.ref ad4), (.int (3 : Int32)), (.int u2)]) (rest := [(.int (own_hd [s0, s1, s2] u2))]) (S' := [(.int (own_mb [s0, s1, s2] u2)), (.int (own_hd [s0, s1, s2] u2))]) (pc' := 349) (rm6_3 l Z a0 hw n0 ad4 u2 h559 X566.size s0 s1 s2 A561) (hw _ (List.mem_of_getElem? (i := 26) rfl)) (hw _ (List.mem_of_getElem? (i := 27) rfl)) (hw _ (List.mem_of_getElem? (i := 3) rfl)) (hw _ (List.mem_of_getElem? (i := 28) rfl)) (by decide) (by decide) (by decide) rfl rfl (by decide) (by decide) (lenOf pd_4 rfl) rfl (by first | decide | exact Nat.le_of_eq rfl) rfl at_346 rfl rfl ?_
                  intro T567 h567 X567 qq567
                  rw [show h567 = h559 from qq567] at X567
                  refine own_icmp_ne X567 (pct := 372) (pc' := 352) at_349 rfl (by decide) (by decide) (fun hc => absurd hc (fun q => q (own_hm_3_0 s0 s1 s2 u2 hs1 hs2 ))) (fun _ => ?_)
                  refine own_iload X567 (pc' := 354) at_352 rfl rfl ?_
                  refine own_aload X567 (pc' := 356) at_354 rfl rfl rfl ?_
                  refine own_iload X567 (pc' := 358) at_356 rfl rfl ?_
                  refine own_aload X567 (pc' := 360) at_358 rfl rfl rfl ?_
                  refine own_iconst X567 (v := (3 : Int32)) (pc' := 361) at_360 rfl (by decide) ?_
                  refine own_iaload X567 (v := u3) (pc' := 362) A563 rfl rfl at_361 rfl ?_
                  refine own_callS X567 (W := 1) (argsL := [(.ref ad4), (.int (3 : Int32)), (.int u3)]) (rest := [(.int (own_hd [s1, s2] u3))]) (S' := [(.int (own_mb [s0, s1, s2] u3)), (.int (own_hd [s1, s2] u3))]) (pc' := 365) (rm6_3 l Z a0 hw n0 ad4 u3 h559 X567.size s0 s1 s2 A561) (hw _ (List.mem_of_getElem? (i := 26) rfl)) (hw _ (List.mem_of_getElem? (i := 27) rfl)) (hw _ (List.mem_of_getElem? (i := 3) rfl)) (hw _ (List.mem_of_getElem? (i := 28) rfl)) (by decide) (by decide) (by decide) rfl rfl (by decide) (by decide) (lenOf pd_4 rfl) rfl (by first | decide | exact Nat.le_of_eq rfl) rfl at_362 rfl rfl ?_
                  intro T568 h568 X568 qq568
                  rw [show h568 = h559 from qq568] at X568
                  refine own_icmp_ne X568 (pct := 372) (pc' := 368) at_365 rfl (by decide) (by decide) (fun hc => absurd hc (fun q => q (own_hm_3_1 s0 s1 s2 u3 hs1 hs2 (by omega)))) (fun _ => ?_)
                  refine own_iconst X568 (v := (1 : Int32)) (pc' := 369) at_368 rfl (by decide) ?_
                  refine own_goto X568 (pc' := 373) at_369 (by decide) (by decide) ?_
                  subst hΦ
                  exact own_retZ X568 at_373 (by decide) (by decide) (by decide) rfl trivial
                · rw [e560_1] at F560_n
                  refine own_iload X559 (pc' := 306) at_304 rfl rfl ?_
                  refine own_aload X559 (pc' := 308) at_306 rfl rfl rfl ?_
                  refine own_iload X559 (pc' := 310) at_308 rfl rfl ?_
                  refine own_aload X559 (pc' := 312) at_310 rfl rfl rfl ?_
                  refine own_iconst X559 (v := (0 : Int32)) (pc' := 313) at_312 rfl (by decide) ?_
                  refine own_iaload X559 (v := u0) (pc' := 314) A563 rfl rfl at_313 rfl ?_
                  refine own_callS X559 (W := 1) (argsL := [(.ref ad4), (.int (3 : Int32)), (.int u0)]) (rest := [(.int (own_hd [s0, s1, s2] u0))]) (S' := [(.int (own_mb [s0, s1, s2] u0)), (.int (own_hd [s0, s1, s2] u0))]) (pc' := 317) (rm6_3 l Z a0 hw n0 ad4 u0 h559 X559.size s0 s1 s2 A561) (hw _ (List.mem_of_getElem? (i := 26) rfl)) (hw _ (List.mem_of_getElem? (i := 27) rfl)) (hw _ (List.mem_of_getElem? (i := 3) rfl)) (hw _ (List.mem_of_getElem? (i := 28) rfl)) (by decide) (by decide) (by decide) rfl rfl (by decide) (by decide) (lenOf pd_4 rfl) rfl (by first | decide | exact Nat.le_of_eq rfl) rfl at_314 rfl rfl ?_
                  intro T569 h569 X569 qq569
                  rw [show h569 = h559 from qq569] at X569
                  refine own_icmp_ne X569 (pct := 372) (pc' := 320) at_317 rfl (by decide) (by decide) (fun hc => absurd hc (fun q => q (own_hm_3_0 s0 s1 s2 u0 hs1 hs2 ))) (fun _ => ?_)
                  refine own_iload X569 (pc' := 322) at_320 rfl rfl ?_
                  refine own_aload X569 (pc' := 324) at_322 rfl rfl rfl ?_
                  refine own_iload X569 (pc' := 326) at_324 rfl rfl ?_
                  refine own_aload X569 (pc' := 328) at_326 rfl rfl rfl ?_
                  refine own_iconst X569 (v := (1 : Int32)) (pc' := 329) at_328 rfl (by decide) ?_
                  refine own_iaload X569 (v := u1) (pc' := 330) A563 rfl rfl at_329 rfl ?_
                  refine own_callS X569 (W := 1) (argsL := [(.ref ad4), (.int (3 : Int32)), (.int u1)]) (rest := [(.int (own_hd [s0, s1, s2] u1))]) (S' := [(.int (own_mb [s0, s1, s2] u1)), (.int (own_hd [s0, s1, s2] u1))]) (pc' := 333) (rm6_3 l Z a0 hw n0 ad4 u1 h559 X569.size s0 s1 s2 A561) (hw _ (List.mem_of_getElem? (i := 26) rfl)) (hw _ (List.mem_of_getElem? (i := 27) rfl)) (hw _ (List.mem_of_getElem? (i := 3) rfl)) (hw _ (List.mem_of_getElem? (i := 28) rfl)) (by decide) (by decide) (by decide) rfl rfl (by decide) (by decide) (lenOf pd_4 rfl) rfl (by first | decide | exact Nat.le_of_eq rfl) rfl at_330 rfl rfl ?_
                  intro T570 h570 X570 qq570
                  rw [show h570 = h559 from qq570] at X570
                  refine own_icmp_ne X570 (pct := 372) (pc' := 336) at_333 rfl (by decide) (by decide) (fun hc => absurd hc (fun q => q (own_hm_3_0 s0 s1 s2 u1 hs1 hs2 ))) (fun _ => ?_)
                  refine own_iload X570 (pc' := 338) at_336 rfl rfl ?_
                  refine own_aload X570 (pc' := 340) at_338 rfl rfl rfl ?_
                  refine own_iload X570 (pc' := 342) at_340 rfl rfl ?_
                  refine own_aload X570 (pc' := 344) at_342 rfl rfl rfl ?_
                  refine own_iconst X570 (v := (2 : Int32)) (pc' := 345) at_344 rfl (by decide) ?_
                  refine own_iaload X570 (v := u2) (pc' := 346) A563 rfl rfl at_345 rfl ?_
                  refine own_callS X570 (W := 1) (argsL := [(.ref ad4), (.int (3 : Int32)), (.int u2)]) (rest := [(.int (own_hd [s0, s1, s2] u2))]) (S' := [(.int (own_mb [s0, s1, s2] u2)), (.int (own_hd [s0, s1, s2] u2))]) (pc' := 349) (rm6_3 l Z a0 hw n0 ad4 u2 h559 X570.size s0 s1 s2 A561) (hw _ (List.mem_of_getElem? (i := 26) rfl)) (hw _ (List.mem_of_getElem? (i := 27) rfl)) (hw _ (List.mem_of_getElem? (i := 3) rfl)) (hw _ (List.mem_of_getElem? (i := 28) rfl)) (by decide) (by decide) (by decide) rfl rfl (by decide) (by decide) (lenOf pd_4 rfl) rfl (by first | decide | exact Nat.le_of_eq rfl) rfl at_346 rfl rfl ?_
                  intro T571 h571 X571 qq571
                  rw [show h571 = h559 from qq571] at X571
                  refine own_icmp_ne X571 (pct := 372) (pc' := 352) at_349 rfl (by decide) (by decide) (fun hc => absurd hc (fun q => q (own_hm_3_0 s0 s1 s2 u2 hs1 hs2 ))) (fun _ => ?_)
                  refine own_iload X571 (pc' := 354) at_352 rfl rfl ?_
                  refine own_aload X571 (pc' := 356) at_354 rfl rfl rfl ?_
                  refine own_iload X571 (pc' := 358) at_356 rfl rfl ?_
                  refine own_aload X571 (pc' := 360) at_358 rfl rfl rfl ?_
                  refine own_iconst X571 (v := (3 : Int32)) (pc' := 361) at_360 rfl (by decide) ?_
                  refine own_iaload X571 (v := u3) (pc' := 362) A563 rfl rfl at_361 rfl ?_
                  refine own_callS X571 (W := 1) (argsL := [(.ref ad4), (.int (3 : Int32)), (.int u3)]) (rest := [(.int (own_hd [s1, s2] u3))]) (S' := [(.int (own_mb [s0, s1, s2] u3)), (.int (own_hd [s1, s2] u3))]) (pc' := 365) (rm6_3 l Z a0 hw n0 ad4 u3 h559 X571.size s0 s1 s2 A561) (hw _ (List.mem_of_getElem? (i := 26) rfl)) (hw _ (List.mem_of_getElem? (i := 27) rfl)) (hw _ (List.mem_of_getElem? (i := 3) rfl)) (hw _ (List.mem_of_getElem? (i := 28) rfl)) (by decide) (by decide) (by decide) rfl rfl (by decide) (by decide) (lenOf pd_4 rfl) rfl (by first | decide | exact Nat.le_of_eq rfl) rfl at_362 rfl rfl ?_
                  intro T572 h572 X572 qq572
                  rw [show h572 = h559 from qq572] at X572
                  refine own_icmp_ne X572 (pct := 372) (pc' := 368) at_365 rfl (by decide) (by decide) (fun hc => absurd hc (fun q => q (own_hm_3_1 s0 s1 s2 u3 hs1 hs2 (by omega)))) (fun _ => ?_)
                  refine own_iconst X572 (v := (1 : Int32)) (pc' := 369) at_368 rfl (by decide) ?_
                  refine own_goto X572 (pc' := 373) at_369 (by decide) (by decide) ?_
                  subst hΦ
                  exact own_retZ X572 at_373 (by decide) (by decide) (by decide) rfl trivial
                · rw [e560_2] at F560_n
                  refine own_iload X559 (pc' := 306) at_304 rfl rfl ?_
                  refine own_aload X559 (pc' := 308) at_306 rfl rfl rfl ?_
                  refine own_iload X559 (pc' := 310) at_308 rfl rfl ?_
                  refine own_aload X559 (pc' := 312) at_310 rfl rfl rfl ?_
                  refine own_iconst X559 (v := (0 : Int32)) (pc' := 313) at_312 rfl (by decide) ?_
                  refine own_iaload X559 (v := u0) (pc' := 314) A563 rfl rfl at_313 rfl ?_
                  refine own_callS X559 (W := 1) (argsL := [(.ref ad4), (.int (3 : Int32)), (.int u0)]) (rest := [(.int (own_hd [s0, s1, s2] u0))]) (S' := [(.int (own_mb [s0, s1, s2] u0)), (.int (own_hd [s0, s1, s2] u0))]) (pc' := 317) (rm6_3 l Z a0 hw n0 ad4 u0 h559 X559.size s0 s1 s2 A561) (hw _ (List.mem_of_getElem? (i := 26) rfl)) (hw _ (List.mem_of_getElem? (i := 27) rfl)) (hw _ (List.mem_of_getElem? (i := 3) rfl)) (hw _ (List.mem_of_getElem? (i := 28) rfl)) (by decide) (by decide) (by decide) rfl rfl (by decide) (by decide) (lenOf pd_4 rfl) rfl (by first | decide | exact Nat.le_of_eq rfl) rfl at_314 rfl rfl ?_
                  intro T573 h573 X573 qq573
                  rw [show h573 = h559 from qq573] at X573
                  refine own_icmp_ne X573 (pct := 372) (pc' := 320) at_317 rfl (by decide) (by decide) (fun hc => absurd hc (fun q => q (own_hm_3_0 s0 s1 s2 u0 hs1 hs2 ))) (fun _ => ?_)
                  refine own_iload X573 (pc' := 322) at_320 rfl rfl ?_
                  refine own_aload X573 (pc' := 324) at_322 rfl rfl rfl ?_
                  refine own_iload X573 (pc' := 326) at_324 rfl rfl ?_
                  refine own_aload X573 (pc' := 328) at_326 rfl rfl rfl ?_
                  refine own_iconst X573 (v := (1 : Int32)) (pc' := 329) at_328 rfl (by decide) ?_
                  refine own_iaload X573 (v := u1) (pc' := 330) A563 rfl rfl at_329 rfl ?_
                  refine own_callS X573 (W := 1) (argsL := [(.ref ad4), (.int (3 : Int32)), (.int u1)]) (rest := [(.int (own_hd [s0, s1, s2] u1))]) (S' := [(.int (own_mb [s0, s1, s2] u1)), (.int (own_hd [s0, s1, s2] u1))]) (pc' := 333) (rm6_3 l Z a0 hw n0 ad4 u1 h559 X573.size s0 s1 s2 A561) (hw _ (List.mem_of_getElem? (i := 26) rfl)) (hw _ (List.mem_of_getElem? (i := 27) rfl)) (hw _ (List.mem_of_getElem? (i := 3) rfl)) (hw _ (List.mem_of_getElem? (i := 28) rfl)) (by decide) (by decide) (by decide) rfl rfl (by decide) (by decide) (lenOf pd_4 rfl) rfl (by first | decide | exact Nat.le_of_eq rfl) rfl at_330 rfl rfl ?_
                  intro T574 h574 X574 qq574
                  rw [show h574 = h559 from qq574] at X574
                  refine own_icmp_ne X574 (pct := 372) (pc' := 336) at_333 rfl (by decide) (by decide) (fun hc => absurd hc (fun q => q (own_hm_3_0 s0 s1 s2 u1 hs1 hs2 ))) (fun _ => ?_)
                  refine own_iload X574 (pc' := 338) at_336 rfl rfl ?_
                  refine own_aload X574 (pc' := 340) at_338 rfl rfl rfl ?_
                  refine own_iload X574 (pc' := 342) at_340 rfl rfl ?_
                  refine own_aload X574 (pc' := 344) at_342 rfl rfl rfl ?_
                  refine own_iconst X574 (v := (2 : Int32)) (pc' := 345) at_344 rfl (by decide) ?_
                  refine own_iaload X574 (v := u2) (pc' := 346) A563 rfl rfl at_345 rfl ?_
                  refine own_callS X574 (W := 1) (argsL := [(.ref ad4), (.int (3 : Int32)), (.int u2)]) (rest := [(.int (own_hd [s0, s1, s2] u2))]) (S' := [(.int (own_mb [s0, s1, s2] u2)), (.int (own_hd [s0, s1, s2] u2))]) (pc' := 349) (rm6_3 l Z a0 hw n0 ad4 u2 h559 X574.size s0 s1 s2 A561) (hw _ (List.mem_of_getElem? (i := 26) rfl)) (hw _ (List.mem_of_getElem? (i := 27) rfl)) (hw _ (List.mem_of_getElem? (i := 3) rfl)) (hw _ (List.mem_of_getElem? (i := 28) rfl)) (by decide) (by decide) (by decide) rfl rfl (by decide) (by decide) (lenOf pd_4 rfl) rfl (by first | decide | exact Nat.le_of_eq rfl) rfl at_346 rfl rfl ?_
                  intro T575 h575 X575 qq575
                  rw [show h575 = h559 from qq575] at X575
                  refine own_icmp_ne X575 (pct := 372) (pc' := 352) at_349 rfl (by decide) (by decide) (fun hc => absurd hc (fun q => q (own_hm_3_0 s0 s1 s2 u2 hs1 hs2 ))) (fun _ => ?_)
                  refine own_iload X575 (pc' := 354) at_352 rfl rfl ?_
                  refine own_aload X575 (pc' := 356) at_354 rfl rfl rfl ?_
                  refine own_iload X575 (pc' := 358) at_356 rfl rfl ?_
                  refine own_aload X575 (pc' := 360) at_358 rfl rfl rfl ?_
                  refine own_iconst X575 (v := (3 : Int32)) (pc' := 361) at_360 rfl (by decide) ?_
                  refine own_iaload X575 (v := u3) (pc' := 362) A563 rfl rfl at_361 rfl ?_
                  refine own_callS X575 (W := 1) (argsL := [(.ref ad4), (.int (3 : Int32)), (.int u3)]) (rest := [(.int (own_hd [s1, s2] u3))]) (S' := [(.int (own_mb [s0, s1, s2] u3)), (.int (own_hd [s1, s2] u3))]) (pc' := 365) (rm6_3 l Z a0 hw n0 ad4 u3 h559 X575.size s0 s1 s2 A561) (hw _ (List.mem_of_getElem? (i := 26) rfl)) (hw _ (List.mem_of_getElem? (i := 27) rfl)) (hw _ (List.mem_of_getElem? (i := 3) rfl)) (hw _ (List.mem_of_getElem? (i := 28) rfl)) (by decide) (by decide) (by decide) rfl rfl (by decide) (by decide) (lenOf pd_4 rfl) rfl (by first | decide | exact Nat.le_of_eq rfl) rfl at_362 rfl rfl ?_
                  intro T576 h576 X576 qq576
                  rw [show h576 = h559 from qq576] at X576
                  refine own_icmp_ne X576 (pct := 372) (pc' := 368) at_365 rfl (by decide) (by decide) (fun hc => absurd hc (fun q => q (own_hm_3_1 s0 s1 s2 u3 hs1 hs2 (by omega)))) (fun _ => ?_)
                  refine own_iconst X576 (v := (1 : Int32)) (pc' := 369) at_368 rfl (by decide) ?_
                  refine own_goto X576 (pc' := 373) at_369 (by decide) (by decide) ?_
                  subst hΦ
                  exact own_retZ X576 at_373 (by decide) (by decide) (by decide) rfl trivial
              · rw [e532_2] at F532_n
                refine own_aload X531 (pc' := 295) at_293 rfl rfl rfl ?_
                refine own_aload X531 (pc' := 297) at_295 rfl rfl rfl ?_
                refine own_iconst X531 (v := (3 : Int32)) (pc' := 298) at_297 rfl (by decide) ?_
                refine own_iaload X531 (v := u3) (pc' := 299) A535 rfl rfl at_298 rfl ?_
                refine own_callV X531 (W := 0) (a := ad509) (argsL := [(.int u3)]) (rest := []) (S' := [(.int (own_hd [s2] u3))]) (pc' := 302) (rm5_32 l Z a0 hw n0 ad509 u3 h531 X531.size ad462 s0 s1 s2 ⟨Ex532, F532_d, F532_n⟩ A534 ge_ad509 ne_ad462_ad509) Ex532 (hw _ (List.mem_of_getElem? (i := 19) rfl)) (hw _ (List.mem_of_getElem? (i := 20) rfl)) (hw _ (List.mem_of_getElem? (i := 22) rfl)) (hw _ (List.mem_of_getElem? (i := 21) rfl)) (hw _ (List.mem_of_getElem? (i := 10) rfl)) (hw _ (List.mem_of_getElem? (i := 23) rfl)) (by decide) (by decide) (by decide) rfl rfl (by decide) (by decide) (lenOf pd_3 rfl) rfl (by first | decide | exact Nat.le_of_eq rfl) rfl at_299 rfl rfl ?_
                intro T577 h577 X577 qq577
                obtain ⟨⟨Ex578, F578_d, F578_n⟩, K578⟩ := qq577
                have A579 := A533.keep K578 (ninS ne_ad4_ad509 nin0)
                have A580 := A534.keep K578 (ninS ne_ad462_ad509 nin0)
                have A581 := A535.keep K578 (ninS ne_ad470_ad509 nin0)
                have Ex582 := Ex532.keep K578
                refine own_istore X577 (pc' := 304) (Ls' := #[.val (.int x0), .val (.int x1), .val (.int x2), .val (.int sel), .val (.int pp), .val (.int rr), .val (.ref ad4), .val (.int (3 : Int32)), .val (.ref ad462), .val (.ref ad470), .val (.ref ad509), .val (.int (own_hd [s0, s1, s2] u0)), .val (.int (own_hd [s0, s1, s2] u1)), .val (.int (own_hd [s0, s1, s2] u2)), .val (.int (own_hd [s2] u3))]) at_302 rfl rfl ?_
                rcases own_nc_3_2 s2 u3 with e578_0 | ⟨e578_1, f578_1_0⟩
                · rw [e578_0] at F578_n
                  refine own_iload X577 (pc' := 306) at_304 rfl rfl ?_
                  refine own_aload X577 (pc' := 308) at_306 rfl rfl rfl ?_
                  refine own_iload X577 (pc' := 310) at_308 rfl rfl ?_
                  refine own_aload X577 (pc' := 312) at_310 rfl rfl rfl ?_
                  refine own_iconst X577 (v := (0 : Int32)) (pc' := 313) at_312 rfl (by decide) ?_
                  refine own_iaload X577 (v := u0) (pc' := 314) A581 rfl rfl at_313 rfl ?_
                  refine own_callS X577 (W := 1) (argsL := [(.ref ad4), (.int (3 : Int32)), (.int u0)]) (rest := [(.int (own_hd [s0, s1, s2] u0))]) (S' := [(.int (own_mb [s0, s1, s2] u0)), (.int (own_hd [s0, s1, s2] u0))]) (pc' := 317) (rm6_3 l Z a0 hw n0 ad4 u0 h577 X577.size s0 s1 s2 A579) (hw _ (List.mem_of_getElem? (i := 26) rfl)) (hw _ (List.mem_of_getElem? (i := 27) rfl)) (hw _ (List.mem_of_getElem? (i := 3) rfl)) (hw _ (List.mem_of_getElem? (i := 28) rfl)) (by decide) (by decide) (by decide) rfl rfl (by decide) (by decide) (lenOf pd_4 rfl) rfl (by first | decide | exact Nat.le_of_eq rfl) rfl at_314 rfl rfl ?_
                  intro T583 h583 X583 qq583
                  rw [show h583 = h577 from qq583] at X583
                  refine own_icmp_ne X583 (pct := 372) (pc' := 320) at_317 rfl (by decide) (by decide) (fun hc => absurd hc (fun q => q (own_hm_3_0 s0 s1 s2 u0 hs1 hs2 ))) (fun _ => ?_)
                  refine own_iload X583 (pc' := 322) at_320 rfl rfl ?_
                  refine own_aload X583 (pc' := 324) at_322 rfl rfl rfl ?_
                  refine own_iload X583 (pc' := 326) at_324 rfl rfl ?_
                  refine own_aload X583 (pc' := 328) at_326 rfl rfl rfl ?_
                  refine own_iconst X583 (v := (1 : Int32)) (pc' := 329) at_328 rfl (by decide) ?_
                  refine own_iaload X583 (v := u1) (pc' := 330) A581 rfl rfl at_329 rfl ?_
                  refine own_callS X583 (W := 1) (argsL := [(.ref ad4), (.int (3 : Int32)), (.int u1)]) (rest := [(.int (own_hd [s0, s1, s2] u1))]) (S' := [(.int (own_mb [s0, s1, s2] u1)), (.int (own_hd [s0, s1, s2] u1))]) (pc' := 333) (rm6_3 l Z a0 hw n0 ad4 u1 h577 X583.size s0 s1 s2 A579) (hw _ (List.mem_of_getElem? (i := 26) rfl)) (hw _ (List.mem_of_getElem? (i := 27) rfl)) (hw _ (List.mem_of_getElem? (i := 3) rfl)) (hw _ (List.mem_of_getElem? (i := 28) rfl)) (by decide) (by decide) (by decide) rfl rfl (by decide) (by decide) (lenOf pd_4 rfl) rfl (by first | decide | exact Nat.le_of_eq rfl) rfl at_330 rfl rfl ?_
                  intro T584 h584 X584 qq584
                  rw [show h584 = h577 from qq584] at X584
                  refine own_icmp_ne X584 (pct := 372) (pc' := 336) at_333 rfl (by decide) (by decide) (fun hc => absurd hc (fun q => q (own_hm_3_0 s0 s1 s2 u1 hs1 hs2 ))) (fun _ => ?_)
                  refine own_iload X584 (pc' := 338) at_336 rfl rfl ?_
                  refine own_aload X584 (pc' := 340) at_338 rfl rfl rfl ?_
                  refine own_iload X584 (pc' := 342) at_340 rfl rfl ?_
                  refine own_aload X584 (pc' := 344) at_342 rfl rfl rfl ?_
                  refine own_iconst X584 (v := (2 : Int32)) (pc' := 345) at_344 rfl (by decide) ?_
                  refine own_iaload X584 (v := u2) (pc' := 346) A581 rfl rfl at_345 rfl ?_
                  refine own_callS X584 (W := 1) (argsL := [(.ref ad4), (.int (3 : Int32)), (.int u2)]) (rest := [(.int (own_hd [s0, s1, s2] u2))]) (S' := [(.int (own_mb [s0, s1, s2] u2)), (.int (own_hd [s0, s1, s2] u2))]) (pc' := 349) (rm6_3 l Z a0 hw n0 ad4 u2 h577 X584.size s0 s1 s2 A579) (hw _ (List.mem_of_getElem? (i := 26) rfl)) (hw _ (List.mem_of_getElem? (i := 27) rfl)) (hw _ (List.mem_of_getElem? (i := 3) rfl)) (hw _ (List.mem_of_getElem? (i := 28) rfl)) (by decide) (by decide) (by decide) rfl rfl (by decide) (by decide) (lenOf pd_4 rfl) rfl (by first | decide | exact Nat.le_of_eq rfl) rfl at_346 rfl rfl ?_
                  intro T585 h585 X585 qq585
                  rw [show h585 = h577 from qq585] at X585
                  refine own_icmp_ne X585 (pct := 372) (pc' := 352) at_349 rfl (by decide) (by decide) (fun hc => absurd hc (fun q => q (own_hm_3_0 s0 s1 s2 u2 hs1 hs2 ))) (fun _ => ?_)
                  refine own_iload X585 (pc' := 354) at_352 rfl rfl ?_
                  refine own_aload X585 (pc' := 356) at_354 rfl rfl rfl ?_
                  refine own_iload X585 (pc' := 358) at_356 rfl rfl ?_
                  refine own_aload X585 (pc' := 360) at_358 rfl rfl rfl ?_
                  refine own_iconst X585 (v := (3 : Int32)) (pc' := 361) at_360 rfl (by decide) ?_
                  refine own_iaload X585 (v := u3) (pc' := 362) A581 rfl rfl at_361 rfl ?_
                  refine own_callS X585 (W := 1) (argsL := [(.ref ad4), (.int (3 : Int32)), (.int u3)]) (rest := [(.int (own_hd [s2] u3))]) (S' := [(.int (own_mb [s0, s1, s2] u3)), (.int (own_hd [s2] u3))]) (pc' := 365) (rm6_3 l Z a0 hw n0 ad4 u3 h577 X585.size s0 s1 s2 A579) (hw _ (List.mem_of_getElem? (i := 26) rfl)) (hw _ (List.mem_of_getElem? (i := 27) rfl)) (hw _ (List.mem_of_getElem? (i := 3) rfl)) (hw _ (List.mem_of_getElem? (i := 28) rfl)) (by decide) (by decide) (by decide) rfl rfl (by decide) (by decide) (lenOf pd_4 rfl) rfl (by first | decide | exact Nat.le_of_eq rfl) rfl at_362 rfl rfl ?_
                  intro T586 h586 X586 qq586
                  rw [show h586 = h577 from qq586] at X586
                  refine own_icmp_ne X586 (pct := 372) (pc' := 368) at_365 rfl (by decide) (by decide) (fun hc => absurd hc (fun q => q (own_hm_3_2 s0 s1 s2 u3 hs1 hs2 (by omega) (by omega)))) (fun _ => ?_)
                  refine own_iconst X586 (v := (1 : Int32)) (pc' := 369) at_368 rfl (by decide) ?_
                  refine own_goto X586 (pc' := 373) at_369 (by decide) (by decide) ?_
                  subst hΦ
                  exact own_retZ X586 at_373 (by decide) (by decide) (by decide) rfl trivial
                · rw [e578_1] at F578_n
                  refine own_iload X577 (pc' := 306) at_304 rfl rfl ?_
                  refine own_aload X577 (pc' := 308) at_306 rfl rfl rfl ?_
                  refine own_iload X577 (pc' := 310) at_308 rfl rfl ?_
                  refine own_aload X577 (pc' := 312) at_310 rfl rfl rfl ?_
                  refine own_iconst X577 (v := (0 : Int32)) (pc' := 313) at_312 rfl (by decide) ?_
                  refine own_iaload X577 (v := u0) (pc' := 314) A581 rfl rfl at_313 rfl ?_
                  refine own_callS X577 (W := 1) (argsL := [(.ref ad4), (.int (3 : Int32)), (.int u0)]) (rest := [(.int (own_hd [s0, s1, s2] u0))]) (S' := [(.int (own_mb [s0, s1, s2] u0)), (.int (own_hd [s0, s1, s2] u0))]) (pc' := 317) (rm6_3 l Z a0 hw n0 ad4 u0 h577 X577.size s0 s1 s2 A579) (hw _ (List.mem_of_getElem? (i := 26) rfl)) (hw _ (List.mem_of_getElem? (i := 27) rfl)) (hw _ (List.mem_of_getElem? (i := 3) rfl)) (hw _ (List.mem_of_getElem? (i := 28) rfl)) (by decide) (by decide) (by decide) rfl rfl (by decide) (by decide) (lenOf pd_4 rfl) rfl (by first | decide | exact Nat.le_of_eq rfl) rfl at_314 rfl rfl ?_
                  intro T587 h587 X587 qq587
                  rw [show h587 = h577 from qq587] at X587
                  refine own_icmp_ne X587 (pct := 372) (pc' := 320) at_317 rfl (by decide) (by decide) (fun hc => absurd hc (fun q => q (own_hm_3_0 s0 s1 s2 u0 hs1 hs2 ))) (fun _ => ?_)
                  refine own_iload X587 (pc' := 322) at_320 rfl rfl ?_
                  refine own_aload X587 (pc' := 324) at_322 rfl rfl rfl ?_
                  refine own_iload X587 (pc' := 326) at_324 rfl rfl ?_
                  refine own_aload X587 (pc' := 328) at_326 rfl rfl rfl ?_
                  refine own_iconst X587 (v := (1 : Int32)) (pc' := 329) at_328 rfl (by decide) ?_
                  refine own_iaload X587 (v := u1) (pc' := 330) A581 rfl rfl at_329 rfl ?_
                  refine own_callS X587 (W := 1) (argsL := [(.ref ad4), (.int (3 : Int32)), (.int u1)]) (rest := [(.int (own_hd [s0, s1, s2] u1))]) (S' := [(.int (own_mb [s0, s1, s2] u1)), (.int (own_hd [s0, s1, s2] u1))]) (pc' := 333) (rm6_3 l Z a0 hw n0 ad4 u1 h577 X587.size s0 s1 s2 A579) (hw _ (List.mem_of_getElem? (i := 26) rfl)) (hw _ (List.mem_of_getElem? (i := 27) rfl)) (hw _ (List.mem_of_getElem? (i := 3) rfl)) (hw _ (List.mem_of_getElem? (i := 28) rfl)) (by decide) (by decide) (by decide) rfl rfl (by decide) (by decide) (lenOf pd_4 rfl) rfl (by first | decide | exact Nat.le_of_eq rfl) rfl at_330 rfl rfl ?_
                  intro T588 h588 X588 qq588
                  rw [show h588 = h577 from qq588] at X588
                  refine own_icmp_ne X588 (pct := 372) (pc' := 336) at_333 rfl (by decide) (by decide) (fun hc => absurd hc (fun q => q (own_hm_3_0 s0 s1 s2 u1 hs1 hs2 ))) (fun _ => ?_)
                  refine own_iload X588 (pc' := 338) at_336 rfl rfl ?_
                  refine own_aload X588 (pc' := 340) at_338 rfl rfl rfl ?_
                  refine own_iload X588 (pc' := 342) at_340 rfl rfl ?_
                  refine own_aload X588 (pc' := 344) at_342 rfl rfl rfl ?_
                  refine own_iconst X588 (v := (2 : Int32)) (pc' := 345) at_344 rfl (by decide) ?_
                  refine own_iaload X588 (v := u2) (pc' := 346) A581 rfl rfl at_345 rfl ?_
                  refine own_callS X588 (W := 1) (argsL := [(.ref ad4), (.int (3 : Int32)), (.int u2)]) (rest := [(.int (own_hd [s0, s1, s2] u2))]) (S' := [(.int (own_mb [s0, s1, s2] u2)), (.int (own_hd [s0, s1, s2] u2))]) (pc' := 349) (rm6_3 l Z a0 hw n0 ad4 u2 h577 X588.size s0 s1 s2 A579) (hw _ (List.mem_of_getElem? (i := 26) rfl)) (hw _ (List.mem_of_getElem? (i := 27) rfl)) (hw _ (List.mem_of_getElem? (i := 3) rfl)) (hw _ (List.mem_of_getElem? (i := 28) rfl)) (by decide) (by decide) (by decide) rfl rfl (by decide) (by decide) (lenOf pd_4 rfl) rfl (by first | decide | exact Nat.le_of_eq rfl) rfl at_346 rfl rfl ?_
                  intro T589 h589 X589 qq589
                  rw [show h589 = h577 from qq589] at X589
                  refine own_icmp_ne X589 (pct := 372) (pc' := 352) at_349 rfl (by decide) (by decide) (fun hc => absurd hc (fun q => q (own_hm_3_0 s0 s1 s2 u2 hs1 hs2 ))) (fun _ => ?_)
                  refine own_iload X589 (pc' := 354) at_352 rfl rfl ?_
                  refine own_aload X589 (pc' := 356) at_354 rfl rfl rfl ?_
                  refine own_iload X589 (pc' := 358) at_356 rfl rfl ?_
                  refine own_aload X589 (pc' := 360) at_358 rfl rfl rfl ?_
                  refine own_iconst X589 (v := (3 : Int32)) (pc' := 361) at_360 rfl (by decide) ?_
                  refine own_iaload X589 (v := u3) (pc' := 362) A581 rfl rfl at_361 rfl ?_
                  refine own_callS X589 (W := 1) (argsL := [(.ref ad4), (.int (3 : Int32)), (.int u3)]) (rest := [(.int (own_hd [s2] u3))]) (S' := [(.int (own_mb [s0, s1, s2] u3)), (.int (own_hd [s2] u3))]) (pc' := 365) (rm6_3 l Z a0 hw n0 ad4 u3 h577 X589.size s0 s1 s2 A579) (hw _ (List.mem_of_getElem? (i := 26) rfl)) (hw _ (List.mem_of_getElem? (i := 27) rfl)) (hw _ (List.mem_of_getElem? (i := 3) rfl)) (hw _ (List.mem_of_getElem? (i := 28) rfl)) (by decide) (by decide) (by decide) rfl rfl (by decide) (by decide) (lenOf pd_4 rfl) rfl (by first | decide | exact Nat.le_of_eq rfl) rfl at_362 rfl rfl ?_
                  intro T590 h590 X590 qq590
                  rw [show h590 = h577 from qq590] at X590
                  refine own_icmp_ne X590 (pct := 372) (pc' := 368) at_365 rfl (by decide) (by decide) (fun hc => absurd hc (fun q => q (own_hm_3_2 s0 s1 s2 u3 hs1 hs2 (by omega) (by omega)))) (fun _ => ?_)
                  refine own_iconst X590 (v := (1 : Int32)) (pc' := 369) at_368 rfl (by decide) ?_
                  refine own_goto X590 (pc' := 373) at_369 (by decide) (by decide) ?_
                  subst hΦ
                  exact own_retZ X590 at_373 (by decide) (by decide) (by decide) rfl trivial
              · rw [e532_3] at F532_n
                refine own_aload X531 (pc' := 295) at_293 rfl rfl rfl ?_
                refine own_aload X531 (pc' := 297) at_295 rfl rfl rfl ?_
                refine own_iconst X531 (v := (3 : Int32)) (pc' := 298) at_297 rfl (by decide) ?_
                refine own_iaload X531 (v := u3) (pc' := 299) A535 rfl rfl at_298 rfl ?_
                refine own_callV X531 (W := 0) (a := ad509) (argsL := [(.int u3)]) (rest := []) (S' := [(.int (own_hd [] u3))]) (pc' := 302) (rm5_33 l Z a0 hw n0 ad509 u3 h531 X531.size ad462 s0 s1 s2 ⟨Ex532, F532_d, F532_n⟩ A534 ge_ad509 ne_ad462_ad509) Ex532 (hw _ (List.mem_of_getElem? (i := 19) rfl)) (hw _ (List.mem_of_getElem? (i := 20) rfl)) (hw _ (List.mem_of_getElem? (i := 22) rfl)) (hw _ (List.mem_of_getElem? (i := 21) rfl)) (hw _ (List.mem_of_getElem? (i := 10) rfl)) (hw _ (List.mem_of_getElem? (i := 23) rfl)) (by decide) (by decide) (by decide) rfl rfl (by decide) (by decide) (lenOf pd_3 rfl) rfl (by first | decide | exact Nat.le_of_eq rfl) rfl at_299 rfl rfl ?_
                intro T591 h591 X591 qq591
                obtain ⟨⟨Ex592, F592_d, F592_n⟩, K592⟩ := qq591
                have A593 := A533.keep K592 (ninS ne_ad4_ad509 nin0)
                have A594 := A534.keep K592 (ninS ne_ad462_ad509 nin0)
                have A595 := A535.keep K592 (ninS ne_ad470_ad509 nin0)
                have Ex596 := Ex532.keep K592
                refine own_istore X591 (pc' := 304) (Ls' := #[.val (.int x0), .val (.int x1), .val (.int x2), .val (.int sel), .val (.int pp), .val (.int rr), .val (.ref ad4), .val (.int (3 : Int32)), .val (.ref ad462), .val (.ref ad470), .val (.ref ad509), .val (.int (own_hd [s0, s1, s2] u0)), .val (.int (own_hd [s0, s1, s2] u1)), .val (.int (own_hd [s0, s1, s2] u2)), .val (.int (own_hd [] u3))]) at_302 rfl rfl ?_
                have e592_0 := own_nc_3_3 0 u3
                rw [e592_0] at F592_n
                refine own_iload X591 (pc' := 306) at_304 rfl rfl ?_
                refine own_aload X591 (pc' := 308) at_306 rfl rfl rfl ?_
                refine own_iload X591 (pc' := 310) at_308 rfl rfl ?_
                refine own_aload X591 (pc' := 312) at_310 rfl rfl rfl ?_
                refine own_iconst X591 (v := (0 : Int32)) (pc' := 313) at_312 rfl (by decide) ?_
                refine own_iaload X591 (v := u0) (pc' := 314) A595 rfl rfl at_313 rfl ?_
                refine own_callS X591 (W := 1) (argsL := [(.ref ad4), (.int (3 : Int32)), (.int u0)]) (rest := [(.int (own_hd [s0, s1, s2] u0))]) (S' := [(.int (own_mb [s0, s1, s2] u0)), (.int (own_hd [s0, s1, s2] u0))]) (pc' := 317) (rm6_3 l Z a0 hw n0 ad4 u0 h591 X591.size s0 s1 s2 A593) (hw _ (List.mem_of_getElem? (i := 26) rfl)) (hw _ (List.mem_of_getElem? (i := 27) rfl)) (hw _ (List.mem_of_getElem? (i := 3) rfl)) (hw _ (List.mem_of_getElem? (i := 28) rfl)) (by decide) (by decide) (by decide) rfl rfl (by decide) (by decide) (lenOf pd_4 rfl) rfl (by first | decide | exact Nat.le_of_eq rfl) rfl at_314 rfl rfl ?_
                intro T597 h597 X597 qq597
                rw [show h597 = h591 from qq597] at X597
                refine own_icmp_ne X597 (pct := 372) (pc' := 320) at_317 rfl (by decide) (by decide) (fun hc => absurd hc (fun q => q (own_hm_3_0 s0 s1 s2 u0 hs1 hs2 ))) (fun _ => ?_)
                refine own_iload X597 (pc' := 322) at_320 rfl rfl ?_
                refine own_aload X597 (pc' := 324) at_322 rfl rfl rfl ?_
                refine own_iload X597 (pc' := 326) at_324 rfl rfl ?_
                refine own_aload X597 (pc' := 328) at_326 rfl rfl rfl ?_
                refine own_iconst X597 (v := (1 : Int32)) (pc' := 329) at_328 rfl (by decide) ?_
                refine own_iaload X597 (v := u1) (pc' := 330) A595 rfl rfl at_329 rfl ?_
                refine own_callS X597 (W := 1) (argsL := [(.ref ad4), (.int (3 : Int32)), (.int u1)]) (rest := [(.int (own_hd [s0, s1, s2] u1))]) (S' := [(.int (own_mb [s0, s1, s2] u1)), (.int (own_hd [s0, s1, s2] u1))]) (pc' := 333) (rm6_3 l Z a0 hw n0 ad4 u1 h591 X597.size s0 s1 s2 A593) (hw _ (List.mem_of_getElem? (i := 26) rfl)) (hw _ (List.mem_of_getElem? (i := 27) rfl)) (hw _ (List.mem_of_getElem? (i := 3) rfl)) (hw _ (List.mem_of_getElem? (i := 28) rfl)) (by decide) (by decide) (by decide) rfl rfl (by decide) (by decide) (lenOf pd_4 rfl) rfl (by first | decide | exact Nat.le_of_eq rfl) rfl at_330 rfl rfl ?_
                intro T598 h598 X598 qq598
                rw [show h598 = h591 from qq598] at X598
                refine own_icmp_ne X598 (pct := 372) (pc' := 336) at_333 rfl (by decide) (by decide) (fun hc => absurd hc (fun q => q (own_hm_3_0 s0 s1 s2 u1 hs1 hs2 ))) (fun _ => ?_)
                refine own_iload X598 (pc' := 338) at_336 rfl rfl ?_
                refine own_aload X598 (pc' := 340) at_338 rfl rfl rfl ?_
                refine own_iload X598 (pc' := 342) at_340 rfl rfl ?_
                refine own_aload X598 (pc' := 344) at_342 rfl rfl rfl ?_
                refine own_iconst X598 (v := (2 : Int32)) (pc' := 345) at_344 rfl (by decide) ?_
                refine own_iaload X598 (v := u2) (pc' := 346) A595 rfl rfl at_345 rfl ?_
                refine own_callS X598 (W := 1) (argsL := [(.ref ad4), (.int (3 : Int32)), (.int u2)]) (rest := [(.int (own_hd [s0, s1, s2] u2))]) (S' := [(.int (own_mb [s0, s1, s2] u2)), (.int (own_hd [s0, s1, s2] u2))]) (pc' := 349) (rm6_3 l Z a0 hw n0 ad4 u2 h591 X598.size s0 s1 s2 A593) (hw _ (List.mem_of_getElem? (i := 26) rfl)) (hw _ (List.mem_of_getElem? (i := 27) rfl)) (hw _ (List.mem_of_getElem? (i := 3) rfl)) (hw _ (List.mem_of_getElem? (i := 28) rfl)) (by decide) (by decide) (by decide) rfl rfl (by decide) (by decide) (lenOf pd_4 rfl) rfl (by first | decide | exact Nat.le_of_eq rfl) rfl at_346 rfl rfl ?_
                intro T599 h599 X599 qq599
                rw [show h599 = h591 from qq599] at X599
                refine own_icmp_ne X599 (pct := 372) (pc' := 352) at_349 rfl (by decide) (by decide) (fun hc => absurd hc (fun q => q (own_hm_3_0 s0 s1 s2 u2 hs1 hs2 ))) (fun _ => ?_)
                refine own_iload X599 (pc' := 354) at_352 rfl rfl ?_
                refine own_aload X599 (pc' := 356) at_354 rfl rfl rfl ?_
                refine own_iload X599 (pc' := 358) at_356 rfl rfl ?_
                refine own_aload X599 (pc' := 360) at_358 rfl rfl rfl ?_
                refine own_iconst X599 (v := (3 : Int32)) (pc' := 361) at_360 rfl (by decide) ?_
                refine own_iaload X599 (v := u3) (pc' := 362) A595 rfl rfl at_361 rfl ?_
                refine own_callS X599 (W := 1) (argsL := [(.ref ad4), (.int (3 : Int32)), (.int u3)]) (rest := [(.int (own_hd [] u3))]) (S' := [(.int (own_mb [s0, s1, s2] u3)), (.int (own_hd [] u3))]) (pc' := 365) (rm6_3 l Z a0 hw n0 ad4 u3 h591 X599.size s0 s1 s2 A593) (hw _ (List.mem_of_getElem? (i := 26) rfl)) (hw _ (List.mem_of_getElem? (i := 27) rfl)) (hw _ (List.mem_of_getElem? (i := 3) rfl)) (hw _ (List.mem_of_getElem? (i := 28) rfl)) (by decide) (by decide) (by decide) rfl rfl (by decide) (by decide) (lenOf pd_4 rfl) rfl (by first | decide | exact Nat.le_of_eq rfl) rfl at_362 rfl rfl ?_
                intro T600 h600 X600 qq600
                rw [show h600 = h591 from qq600] at X600
                refine own_icmp_ne X600 (pct := 372) (pc' := 368) at_365 rfl (by decide) (by decide) (fun hc => absurd hc (fun q => q (own_hm_3_3 s0 s1 s2 u3 hs1 hs2 (by omega) (by omega) (by omega)))) (fun _ => ?_)
                refine own_iconst X600 (v := (1 : Int32)) (pc' := 369) at_368 rfl (by decide) ?_
                refine own_goto X600 (pc' := 373) at_369 (by decide) (by decide) ?_
                subst hΦ
                exact own_retZ X600 at_373 (by decide) (by decide) (by decide) rfl trivial
            · rw [e526_1] at F526_n
              refine own_aload X525 (pc' := 284) at_282 rfl rfl rfl ?_
              refine own_aload X525 (pc' := 286) at_284 rfl rfl rfl ?_
              refine own_iconst X525 (v := (2 : Int32)) (pc' := 287) at_286 rfl (by decide) ?_
              refine own_iaload X525 (v := u2) (pc' := 288) A529 rfl rfl at_287 rfl ?_
              refine own_callV X525 (W := 0) (a := ad509) (argsL := [(.int u2)]) (rest := []) (S' := [(.int (own_hd [s1, s2] u2))]) (pc' := 291) (rm5_31 l Z a0 hw n0 ad509 u2 h525 X525.size ad462 s0 s1 s2 ⟨Ex526, F526_d, F526_n⟩ A528 ge_ad509 ne_ad462_ad509) Ex526 (hw _ (List.mem_of_getElem? (i := 19) rfl)) (hw _ (List.mem_of_getElem? (i := 20) rfl)) (hw _ (List.mem_of_getElem? (i := 22) rfl)) (hw _ (List.mem_of_getElem? (i := 21) rfl)) (hw _ (List.mem_of_getElem? (i := 10) rfl)) (hw _ (List.mem_of_getElem? (i := 23) rfl)) (by decide) (by decide) (by decide) rfl rfl (by decide) (by decide) (lenOf pd_3 rfl) rfl (by first | decide | exact Nat.le_of_eq rfl) rfl at_288 rfl rfl ?_
              intro T601 h601 X601 qq601
              obtain ⟨⟨Ex602, F602_d, F602_n⟩, K602⟩ := qq601
              have A603 := A527.keep K602 (ninS ne_ad4_ad509 nin0)
              have A604 := A528.keep K602 (ninS ne_ad462_ad509 nin0)
              have A605 := A529.keep K602 (ninS ne_ad470_ad509 nin0)
              have Ex606 := Ex526.keep K602
              refine own_istore X601 (pc' := 293) (Ls' := #[.val (.int x0), .val (.int x1), .val (.int x2), .val (.int sel), .val (.int pp), .val (.int rr), .val (.ref ad4), .val (.int (3 : Int32)), .val (.ref ad462), .val (.ref ad470), .val (.ref ad509), .val (.int (own_hd [s0, s1, s2] u0)), .val (.int (own_hd [s0, s1, s2] u1)), .val (.int (own_hd [s1, s2] u2)), .unset]) at_291 rfl rfl ?_
              rcases own_nc_3_1 s1 s2 u2 with e602_0 | ⟨e602_1, f602_1_0⟩ | ⟨e602_2, f602_2_0, f602_2_1⟩
              · rw [e602_0] at F602_n
                refine own_aload X601 (pc' := 295) at_293 rfl rfl rfl ?_
                refine own_aload X601 (pc' := 297) at_295 rfl rfl rfl ?_
                refine own_iconst X601 (v := (3 : Int32)) (pc' := 298) at_297 rfl (by decide) ?_
                refine own_iaload X601 (v := u3) (pc' := 299) A605 rfl rfl at_298 rfl ?_
                refine own_callV X601 (W := 0) (a := ad509) (argsL := [(.int u3)]) (rest := []) (S' := [(.int (own_hd [s1, s2] u3))]) (pc' := 302) (rm5_31 l Z a0 hw n0 ad509 u3 h601 X601.size ad462 s0 s1 s2 ⟨Ex602, F602_d, F602_n⟩ A604 ge_ad509 ne_ad462_ad509) Ex602 (hw _ (List.mem_of_getElem? (i := 19) rfl)) (hw _ (List.mem_of_getElem? (i := 20) rfl)) (hw _ (List.mem_of_getElem? (i := 22) rfl)) (hw _ (List.mem_of_getElem? (i := 21) rfl)) (hw _ (List.mem_of_getElem? (i := 10) rfl)) (hw _ (List.mem_of_getElem? (i := 23) rfl)) (by decide) (by decide) (by decide) rfl rfl (by decide) (by decide) (lenOf pd_3 rfl) rfl (by first | decide | exact Nat.le_of_eq rfl) rfl at_299 rfl rfl ?_
                intro T607 h607 X607 qq607
                obtain ⟨⟨Ex608, F608_d, F608_n⟩, K608⟩ := qq607
                have A609 := A603.keep K608 (ninS ne_ad4_ad509 nin0)
                have A610 := A604.keep K608 (ninS ne_ad462_ad509 nin0)
                have A611 := A605.keep K608 (ninS ne_ad470_ad509 nin0)
                have Ex612 := Ex602.keep K608
                refine own_istore X607 (pc' := 304) (Ls' := #[.val (.int x0), .val (.int x1), .val (.int x2), .val (.int sel), .val (.int pp), .val (.int rr), .val (.ref ad4), .val (.int (3 : Int32)), .val (.ref ad462), .val (.ref ad470), .val (.ref ad509), .val (.int (own_hd [s0, s1, s2] u0)), .val (.int (own_hd [s0, s1, s2] u1)), .val (.int (own_hd [s1, s2] u2)), .val (.int (own_hd [s1, s2] u3))]) at_302 rfl rfl ?_
                rcases own_nc_3_1 s1 s2 u3 with e608_0 | ⟨e608_1, f608_1_0⟩ | ⟨e608_2, f608_2_0, f608_2_1⟩
                · rw [e608_0] at F608_n
                  refine own_iload X607 (pc' := 306) at_304 rfl rfl ?_
                  refine own_aload X607 (pc' := 308) at_306 rfl rfl rfl ?_
                  refine own_iload X607 (pc' := 310) at_308 rfl rfl ?_
                  refine own_aload X607 (pc' := 312) at_310 rfl rfl rfl ?_
                  refine own_iconst X607 (v := (0 : Int32)) (pc' := 313) at_312 rfl (by decide) ?_
                  refine own_iaload X607 (v := u0) (pc' := 314) A611 rfl rfl at_313 rfl ?_
                  refine own_callS X607 (W := 1) (argsL := [(.ref ad4), (.int (3 : Int32)), (.int u0)]) (rest := [(.int (own_hd [s0, s1, s2] u0))]) (S' := [(.int (own_mb [s0, s1, s2] u0)), (.int (own_hd [s0, s1, s2] u0))]) (pc' := 317) (rm6_3 l Z a0 hw n0 ad4 u0 h607 X607.size s0 s1 s2 A609) (hw _ (List.mem_of_getElem? (i := 26) rfl)) (hw _ (List.mem_of_getElem? (i := 27) rfl)) (hw _ (List.mem_of_getElem? (i := 3) rfl)) (hw _ (List.mem_of_getElem? (i := 28) rfl)) (by decide) (by decide) (by decide) rfl rfl (by decide) (by decide) (lenOf pd_4 rfl) rfl (by first | decide | exact Nat.le_of_eq rfl) rfl at_314 rfl rfl ?_
                  intro T613 h613 X613 qq613
                  rw [show h613 = h607 from qq613] at X613
                  refine own_icmp_ne X613 (pct := 372) (pc' := 320) at_317 rfl (by decide) (by decide) (fun hc => absurd hc (fun q => q (own_hm_3_0 s0 s1 s2 u0 hs1 hs2 ))) (fun _ => ?_)
                  refine own_iload X613 (pc' := 322) at_320 rfl rfl ?_
                  refine own_aload X613 (pc' := 324) at_322 rfl rfl rfl ?_
                  refine own_iload X613 (pc' := 326) at_324 rfl rfl ?_
                  refine own_aload X613 (pc' := 328) at_326 rfl rfl rfl ?_
                  refine own_iconst X613 (v := (1 : Int32)) (pc' := 329) at_328 rfl (by decide) ?_
                  refine own_iaload X613 (v := u1) (pc' := 330) A611 rfl rfl at_329 rfl ?_
                  refine own_callS X613 (W := 1) (argsL := [(.ref ad4), (.int (3 : Int32)), (.int u1)]) (rest := [(.int (own_hd [s0, s1, s2] u1))]) (S' := [(.int (own_mb [s0, s1, s2] u1)), (.int (own_hd [s0, s1, s2] u1))]) (pc' := 333) (rm6_3 l Z a0 hw n0 ad4 u1 h607 X613.size s0 s1 s2 A609) (hw _ (List.mem_of_getElem? (i := 26) rfl)) (hw _ (List.mem_of_getElem? (i := 27) rfl)) (hw _ (List.mem_of_getElem? (i := 3) rfl)) (hw _ (List.mem_of_getElem? (i := 28) rfl)) (by decide) (by decide) (by decide) rfl rfl (by decide) (by decide) (lenOf pd_4 rfl) rfl (by first | decide | exact Nat.le_of_eq rfl) rfl at_330 rfl rfl ?_
                  intro T614 h614 X614 qq614
                  rw [show h614 = h607 from qq614] at X614
                  refine own_icmp_ne X614 (pct := 372) (pc' := 336) at_333 rfl (by decide) (by decide) (fun hc => absurd hc (fun q => q (own_hm_3_0 s0 s1 s2 u1 hs1 hs2 ))) (fun _ => ?_)
                  refine own_iload X614 (pc' := 338) at_336 rfl rfl ?_
                  refine own_aload X614 (pc' := 340) at_338 rfl rfl rfl ?_
                  refine own_iload X614 (pc' := 342) at_340 rfl rfl ?_
                  refine own_aload X614 (pc' := 344) at_342 rfl rfl rfl ?_
                  refine own_iconst X614 (v := (2 : Int32)) (pc' := 345) at_344 rfl (by decide) ?_
                  refine own_iaload X614 (v := u2) (pc' := 346) A611 rfl rfl at_345 rfl ?_
                  refine own_callS X614 (W := 1) (argsL := [(.ref ad4), (.int (3 : Int32)), (.int u2)]) (rest := [(.int (own_hd [s1, s2] u2))]) (S' := [(.int (own_mb [s0, s1, s2] u2)), (.int (own_hd [s1, s2] u2))]) (pc' := 349) (rm6_3 l Z a0 hw n0 ad4 u2 h607 X614.size s0 s1 s2 A609) (hw _ (List.mem_of_getElem? (i := 26) rfl)) (hw _ (List.mem_of_getElem? (i := 27) rfl)) (hw _ (List.mem_of_getElem? (i := 3) rfl)) (hw _ (List.mem_of_getElem? (i := 28) rfl)) (by decide) (by decide) (by decide) rfl rfl (by decide) (by decide) (lenOf pd_4 rfl) rfl (by first | decide | exact Nat.le_of_eq rfl) rfl at_346 rfl rfl ?_
                  intro T615 h615 X615 qq615
                  rw [show h615 = h607 from qq615] at X615
                  refine own_icmp_ne X615 (pct := 372) (pc' := 352) at_349 rfl (by decide) (by decide) (fun hc => absurd hc (fun q => q (own_hm_3_1 s0 s1 s2 u2 hs1 hs2 (by omega)))) (fun _ => ?_)
                  refine own_iload X615 (pc' := 354) at_352 rfl rfl ?_
                  refine own_aload X615 (pc' := 356) at_354 rfl rfl rfl ?_
                  refine own_iload X615 (pc' := 358) at_356 rfl rfl ?_
                  refine own_aload X615 (pc' := 360) at_358 rfl rfl rfl ?_
                  refine own_iconst X615 (v := (3 : Int32)) (pc' := 361) at_360 rfl (by decide) ?_
                  refine own_iaload X615 (v := u3) (pc' := 362) A611 rfl rfl at_361 rfl ?_
                  refine own_callS X615 (W := 1) (argsL := [(.ref ad4), (.int (3 : Int32)), (.int u3)]) (rest := [(.int (own_hd [s1, s2] u3))]) (S' := [(.int (own_mb [s0, s1, s2] u3)), (.int (own_hd [s1, s2] u3))]) (pc' := 365) (rm6_3 l Z a0 hw n0 ad4 u3 h607 X615.size s0 s1 s2 A609) (hw _ (List.mem_of_getElem? (i := 26) rfl)) (hw _ (List.mem_of_getElem? (i := 27) rfl)) (hw _ (List.mem_of_getElem? (i := 3) rfl)) (hw _ (List.mem_of_getElem? (i := 28) rfl)) (by decide) (by decide) (by decide) rfl rfl (by decide) (by decide) (lenOf pd_4 rfl) rfl (by first | decide | exact Nat.le_of_eq rfl) rfl at_362 rfl rfl ?_
                  intro T616 h616 X616 qq616
                  rw [show h616 = h607 from qq616] at X616
                  refine own_icmp_ne X616 (pct := 372) (pc' := 368) at_365 rfl (by decide) (by decide) (fun hc => absurd hc (fun q => q (own_hm_3_1 s0 s1 s2 u3 hs1 hs2 (by omega)))) (fun _ => ?_)
                  refine own_iconst X616 (v := (1 : Int32)) (pc' := 369) at_368 rfl (by decide) ?_
                  refine own_goto X616 (pc' := 373) at_369 (by decide) (by decide) ?_
                  subst hΦ
                  exact own_retZ X616 at_373 (by decide) (by decide) (by decide) rfl trivial
                · rw [e608_1] at F608_n
                  refine own_iload X607 (pc' := 306) at_304 rfl rfl ?_
                  refine own_aload X607 (pc' := 308) at_306 rfl rfl rfl ?_
                  refine own_iload X607 (pc' := 310) at_308 rfl rfl ?_
                  refine own_aload X607 (pc' := 312) at_310 rfl rfl rfl ?_
                  refine own_iconst X607 (v := (0 : Int32)) (pc' := 313) at_312 rfl (by decide) ?_
                  refine own_iaload X607 (v := u0) (pc' := 314) A611 rfl rfl at_313 rfl ?_
                  refine own_callS X607 (W := 1) (argsL := [(.ref ad4), (.int (3 : Int32)), (.int u0)]) (rest := [(.int (own_hd [s0, s1, s2] u0))]) (S' := [(.int (own_mb [s0, s1, s2] u0)), (.int (own_hd [s0, s1, s2] u0))]) (pc' := 317) (rm6_3 l Z a0 hw n0 ad4 u0 h607 X607.size s0 s1 s2 A609) (hw _ (List.mem_of_getElem? (i := 26) rfl)) (hw _ (List.mem_of_getElem? (i := 27) rfl)) (hw _ (List.mem_of_getElem? (i := 3) rfl)) (hw _ (List.mem_of_getElem? (i := 28) rfl)) (by decide) (by decide) (by decide) rfl rfl (by decide) (by decide) (lenOf pd_4 rfl) rfl (by first | decide | exact Nat.le_of_eq rfl) rfl at_314 rfl rfl ?_
                  intro T617 h617 X617 qq617
                  rw [show h617 = h607 from qq617] at X617
                  refine own_icmp_ne X617 (pct := 372) (pc' := 320) at_317 rfl (by decide) (by decide) (fun hc => absurd hc (fun q => q (own_hm_3_0 s0 s1 s2 u0 hs1 hs2 ))) (fun _ => ?_)
                  refine own_iload X617 (pc' := 322) at_320 rfl rfl ?_
                  refine own_aload X617 (pc' := 324) at_322 rfl rfl rfl ?_
                  refine own_iload X617 (pc' := 326) at_324 rfl rfl ?_
                  refine own_aload X617 (pc' := 328) at_326 rfl rfl rfl ?_
                  refine own_iconst X617 (v := (1 : Int32)) (pc' := 329) at_328 rfl (by decide) ?_
                  refine own_iaload X617 (v := u1) (pc' := 330) A611 rfl rfl at_329 rfl ?_
                  refine own_callS X617 (W := 1) (argsL := [(.ref ad4), (.int (3 : Int32)), (.int u1)]) (rest := [(.int (own_hd [s0, s1, s2] u1))]) (S' := [(.int (own_mb [s0, s1, s2] u1)), (.int (own_hd [s0, s1, s2] u1))]) (pc' := 333) (rm6_3 l Z a0 hw n0 ad4 u1 h607 X617.size s0 s1 s2 A609) (hw _ (List.mem_of_getElem? (i := 26) rfl)) (hw _ (List.mem_of_getElem? (i := 27) rfl)) (hw _ (List.mem_of_getElem? (i := 3) rfl)) (hw _ (List.mem_of_getElem? (i := 28) rfl)) (by decide) (by decide) (by decide) rfl rfl (by decide) (by decide) (lenOf pd_4 rfl) rfl (by first | decide | exact Nat.le_of_eq rfl) rfl at_330 rfl rfl ?_
                  intro T618 h618 X618 qq618
                  rw [show h618 = h607 from qq618] at X618
                  refine own_icmp_ne X618 (pct := 372) (pc' := 336) at_333 rfl (by decide) (by decide) (fun hc => absurd hc (fun q => q (own_hm_3_0 s0 s1 s2 u1 hs1 hs2 ))) (fun _ => ?_)
                  refine own_iload X618 (pc' := 338) at_336 rfl rfl ?_
                  refine own_aload X618 (pc' := 340) at_338 rfl rfl rfl ?_
                  refine own_iload X618 (pc' := 342) at_340 rfl rfl ?_
                  refine own_aload X618 (pc' := 344) at_342 rfl rfl rfl ?_
                  refine own_iconst X618 (v := (2 : Int32)) (pc' := 345) at_344 rfl (by decide) ?_
                  refine own_iaload X618 (v := u2) (pc' := 346) A611 rfl rfl at_345 rfl ?_
                  refine own_callS X618 (W := 1) (argsL := [(.ref ad4), (.int (3 : Int32)), (.int u2)]) (rest := [(.int (own_hd [s1, s2] u2))]) (S' := [(.int (own_mb [s0, s1, s2] u2)), (.int (own_hd [s1, s2] u2))]) (pc' := 349) (rm6_3 l Z a0 hw n0 ad4 u2 h607 X618.size s0 s1 s2 A609) (hw _ (List.mem_of_getElem? (i := 26) rfl)) (hw _ (List.mem_of_getElem? (i := 27) rfl)) (hw _ (List.mem_of_getElem? (i := 3) rfl)) (hw _ (List.mem_of_getElem? (i := 28) rfl)) (by decide) (by decide) (by decide) rfl rfl (by decide) (by decide) (lenOf pd_4 rfl) rfl (by first | decide | exact Nat.le_of_eq rfl) rfl at_346 rfl rfl ?_
                  intro T619 h619 X619 qq619
                  rw [show h619 = h607 from qq619] at X619
                  refine own_icmp_ne X619 (pct := 372) (pc' := 352) at_349 rfl (by decide) (by decide) (fun hc => absurd hc (fun q => q (own_hm_3_1 s0 s1 s2 u2 hs1 hs2 (by omega)))) (fun _ => ?_)
                  refine own_iload X619 (pc' := 354) at_352 rfl rfl ?_
                  refine own_aload X619 (pc' := 356) at_354 rfl rfl rfl ?_
                  refine own_iload X619 (pc' := 358) at_356 rfl rfl ?_
                  refine own_aload X619 (pc' := 360) at_358 rfl rfl rfl ?_
                  refine own_iconst X619 (v := (3 : Int32)) (pc' := 361) at_360 rfl (by decide) ?_
                  refine own_iaload X619 (v := u3) (pc' := 362) A611 rfl rfl at_361 rfl ?_
                  refine own_callS X619 (W := 1) (argsL := [(.ref ad4), (.int (3 : Int32)), (.int u3)]) (rest := [(.int (own_hd [s1, s2] u3))]) (S' := [(.int (own_mb [s0, s1, s2] u3)), (.int (own_hd [s1, s2] u3))]) (pc' := 365) (rm6_3 l Z a0 hw n0 ad4 u3 h607 X619.size s0 s1 s2 A609) (hw _ (List.mem_of_getElem? (i := 26) rfl)) (hw _ (List.mem_of_getElem? (i := 27) rfl)) (hw _ (List.mem_of_getElem? (i := 3) rfl)) (hw _ (List.mem_of_getElem? (i := 28) rfl)) (by decide) (by decide) (by decide) rfl rfl (by decide) (by decide) (lenOf pd_4 rfl) rfl (by first | decide | exact Nat.le_of_eq rfl) rfl at_362 rfl rfl ?_
                  intro T620 h620 X620 qq620
                  rw [show h620 = h607 from qq620] at X620
                  refine own_icmp_ne X620 (pct := 372) (pc' := 368) at_365 rfl (by decide) (by decide) (fun hc => absurd hc (fun q => q (own_hm_3_1 s0 s1 s2 u3 hs1 hs2 (by omega)))) (fun _ => ?_)
                  refine own_iconst X620 (v := (1 : Int32)) (pc' := 369) at_368 rfl (by decide) ?_
                  refine own_goto X620 (pc' := 373) at_369 (by decide) (by decide) ?_
                  subst hΦ
                  exact own_retZ X620 at_373 (by decide) (by decide) (by decide) rfl trivial
                · rw [e608_2] at F608_n
                  refine own_iload X607 (pc' := 306) at_304 rfl rfl ?_
                  refine own_aload X607 (pc' := 308) at_306 rfl rfl rfl ?_
                  refine own_iload X607 (pc' := 310) at_308 rfl rfl ?_
                  refine own_aload X607 (pc' := 312) at_310 rfl rfl rfl ?_
                  refine own_iconst X607 (v := (0 : Int32)) (pc' := 313) at_312 rfl (by decide) ?_
                  refine own_iaload X607 (v := u0) (pc' := 314) A611 rfl rfl at_313 rfl ?_
                  refine own_callS X607 (W := 1) (argsL := [(.ref ad4), (.int (3 : Int32)), (.int u0)]) (rest := [(.int (own_hd [s0, s1, s2] u0))]) (S' := [(.int (own_mb [s0, s1, s2] u0)), (.int (own_hd [s0, s1, s2] u0))]) (pc' := 317) (rm6_3 l Z a0 hw n0 ad4 u0 h607 X607.size s0 s1 s2 A609) (hw _ (List.mem_of_getElem? (i := 26) rfl)) (hw _ (List.mem_of_getElem? (i := 27) rfl)) (hw _ (List.mem_of_getElem? (i := 3) rfl)) (hw _ (List.mem_of_getElem? (i := 28) rfl)) (by decide) (by decide) (by decide) rfl rfl (by decide) (by decide) (lenOf pd_4 rfl) rfl (by first | decide | exact Nat.le_of_eq rfl) rfl at_314 rfl rfl ?_
                  intro T621 h621 X621 qq621
                  rw [show h621 = h607 from qq621] at X621
                  refine own_icmp_ne X621 (pct := 372) (pc' := 320) at_317 rfl (by decide) (by decide) (fun hc => absurd hc (fun q => q (own_hm_3_0 s0 s1 s2 u0 hs1 hs2 ))) (fun _ => ?_)
                  refine own_iload X621 (pc' := 322) at_320 rfl rfl ?_
                  refine own_aload X621 (pc' := 324) at_322 rfl rfl rfl ?_
                  refine own_iload X621 (pc' := 326) at_324 rfl rfl ?_
                  refine own_aload X621 (pc' := 328) at_326 rfl rfl rfl ?_
                  refine own_iconst X621 (v := (1 : Int32)) (pc' := 329) at_328 rfl (by decide) ?_
                  refine own_iaload X621 (v := u1) (pc' := 330) A611 rfl rfl at_329 rfl ?_
                  refine own_callS X621 (W := 1) (argsL := [(.ref ad4), (.int (3 : Int32)), (.int u1)]) (rest := [(.int (own_hd [s0, s1, s2] u1))]) (S' := [(.int (own_mb [s0, s1, s2] u1)), (.int (own_hd [s0, s1, s2] u1))]) (pc' := 333) (rm6_3 l Z a0 hw n0 ad4 u1 h607 X621.size s0 s1 s2 A609) (hw _ (List.mem_of_getElem? (i := 26) rfl)) (hw _ (List.mem_of_getElem? (i := 27) rfl)) (hw _ (List.mem_of_getElem? (i := 3) rfl)) (hw _ (List.mem_of_getElem? (i := 28) rfl)) (by decide) (by decide) (by decide) rfl rfl (by decide) (by decide) (lenOf pd_4 rfl) rfl (by first | decide | exact Nat.le_of_eq rfl) rfl at_330 rfl rfl ?_
                  intro T622 h622 X622 qq622
                  rw [show h622 = h607 from qq622] at X622
                  refine own_icmp_ne X622 (pct := 372) (pc' := 336) at_333 rfl (by decide) (by decide) (fun hc => absurd hc (fun q => q (own_hm_3_0 s0 s1 s2 u1 hs1 hs2 ))) (fun _ => ?_)
                  refine own_iload X622 (pc' := 338) at_336 rfl rfl ?_
                  refine own_aload X622 (pc' := 340) at_338 rfl rfl rfl ?_
                  refine own_iload X622 (pc' := 342) at_340 rfl rfl ?_
                  refine own_aload X622 (pc' := 344) at_342 rfl rfl rfl ?_
                  refine own_iconst X622 (v := (2 : Int32)) (pc' := 345) at_344 rfl (by decide) ?_
                  refine own_iaload X622 (v := u2) (pc' := 346) A611 rfl rfl at_345 rfl ?_
                  refine own_callS X622 (W := 1) (argsL := [(.ref ad4), (.int (3 : Int32)), (.int u2)]) (rest := [(.int (own_hd [s1, s2] u2))]) (S' := [(.int (own_mb [s0, s1, s2] u2)), (.int (own_hd [s1, s2] u2))]) (pc' := 349) (rm6_3 l Z a0 hw n0 ad4 u2 h607 X622.size s0 s1 s2 A609) (hw _ (List.mem_of_getElem? (i := 26) rfl)) (hw _ (List.mem_of_getElem? (i := 27) rfl)) (hw _ (List.mem_of_getElem? (i := 3) rfl)) (hw _ (List.mem_of_getElem? (i := 28) rfl)) (by decide) (by decide) (by decide) rfl rfl (by decide) (by decide) (lenOf pd_4 rfl) rfl (by first | decide | exact Nat.le_of_eq rfl) rfl at_346 rfl rfl ?_
                  intro T623 h623 X623 qq623
                  rw [show h623 = h607 from qq623] at X623
                  refine own_icmp_ne X623 (pct := 372) (pc' := 352) at_349 rfl (by decide) (by decide) (fun hc => absurd hc (fun q => q (own_hm_3_1 s0 s1 s2 u2 hs1 hs2 (by omega)))) (fun _ => ?_)
                  refine own_iload X623 (pc' := 354) at_352 rfl rfl ?_
                  refine own_aload X623 (pc' := 356) at_354 rfl rfl rfl ?_
                  refine own_iload X623 (pc' := 358) at_356 rfl rfl ?_
                  refine own_aload X623 (pc' := 360) at_358 rfl rfl rfl ?_
                  refine own_iconst X623 (v := (3 : Int32)) (pc' := 361) at_360 rfl (by decide) ?_
                  refine own_iaload X623 (v := u3) (pc' := 362) A611 rfl rfl at_361 rfl ?_
                  refine own_callS X623 (W := 1) (argsL := [(.ref ad4), (.int (3 : Int32)), (.int u3)]) (rest := [(.int (own_hd [s1, s2] u3))]) (S' := [(.int (own_mb [s0, s1, s2] u3)), (.int (own_hd [s1, s2] u3))]) (pc' := 365) (rm6_3 l Z a0 hw n0 ad4 u3 h607 X623.size s0 s1 s2 A609) (hw _ (List.mem_of_getElem? (i := 26) rfl)) (hw _ (List.mem_of_getElem? (i := 27) rfl)) (hw _ (List.mem_of_getElem? (i := 3) rfl)) (hw _ (List.mem_of_getElem? (i := 28) rfl)) (by decide) (by decide) (by decide) rfl rfl (by decide) (by decide) (lenOf pd_4 rfl) rfl (by first | decide | exact Nat.le_of_eq rfl) rfl at_362 rfl rfl ?_
                  intro T624 h624 X624 qq624
                  rw [show h624 = h607 from qq624] at X624
                  refine own_icmp_ne X624 (pct := 372) (pc' := 368) at_365 rfl (by decide) (by decide) (fun hc => absurd hc (fun q => q (own_hm_3_1 s0 s1 s2 u3 hs1 hs2 (by omega)))) (fun _ => ?_)
                  refine own_iconst X624 (v := (1 : Int32)) (pc' := 369) at_368 rfl (by decide) ?_
                  refine own_goto X624 (pc' := 373) at_369 (by decide) (by decide) ?_
                  subst hΦ
                  exact own_retZ X624 at_373 (by decide) (by decide) (by decide) rfl trivial
              · rw [e602_1] at F602_n
                refine own_aload X601 (pc' := 295) at_293 rfl rfl rfl ?_
                refine own_aload X601 (pc' := 297) at_295 rfl rfl rfl ?_
                refine own_iconst X601 (v := (3 : Int32)) (pc' := 298) at_297 rfl (by decide) ?_
                refine own_iaload X601 (v := u3) (pc' := 299) A605 rfl rfl at_298 rfl ?_
                refine own_callV X601 (W := 0) (a := ad509) (argsL := [(.int u3)]) (rest := []) (S' := [(.int (own_hd [s2] u3))]) (pc' := 302) (rm5_32 l Z a0 hw n0 ad509 u3 h601 X601.size ad462 s0 s1 s2 ⟨Ex602, F602_d, F602_n⟩ A604 ge_ad509 ne_ad462_ad509) Ex602 (hw _ (List.mem_of_getElem? (i := 19) rfl)) (hw _ (List.mem_of_getElem? (i := 20) rfl)) (hw _ (List.mem_of_getElem? (i := 22) rfl)) (hw _ (List.mem_of_getElem? (i := 21) rfl)) (hw _ (List.mem_of_getElem? (i := 10) rfl)) (hw _ (List.mem_of_getElem? (i := 23) rfl)) (by decide) (by decide) (by decide) rfl rfl (by decide) (by decide) (lenOf pd_3 rfl) rfl (by first | decide | exact Nat.le_of_eq rfl) rfl at_299 rfl rfl ?_
                intro T625 h625 X625 qq625
                obtain ⟨⟨Ex626, F626_d, F626_n⟩, K626⟩ := qq625
                have A627 := A603.keep K626 (ninS ne_ad4_ad509 nin0)
                have A628 := A604.keep K626 (ninS ne_ad462_ad509 nin0)
                have A629 := A605.keep K626 (ninS ne_ad470_ad509 nin0)
                have Ex630 := Ex602.keep K626
                refine own_istore X625 (pc' := 304) (Ls' := #[.val (.int x0), .val (.int x1), .val (.int x2), .val (.int sel), .val (.int pp), .val (.int rr), .val (.ref ad4), .val (.int (3 : Int32)), .val (.ref ad462), .val (.ref ad470), .val (.ref ad509), .val (.int (own_hd [s0, s1, s2] u0)), .val (.int (own_hd [s0, s1, s2] u1)), .val (.int (own_hd [s1, s2] u2)), .val (.int (own_hd [s2] u3))]) at_302 rfl rfl ?_
                rcases own_nc_3_2 s2 u3 with e626_0 | ⟨e626_1, f626_1_0⟩
                · rw [e626_0] at F626_n
                  refine own_iload X625 (pc' := 306) at_304 rfl rfl ?_
                  refine own_aload X625 (pc' := 308) at_306 rfl rfl rfl ?_
                  refine own_iload X625 (pc' := 310) at_308 rfl rfl ?_
                  refine own_aload X625 (pc' := 312) at_310 rfl rfl rfl ?_
                  refine own_iconst X625 (v := (0 : Int32)) (pc' := 313) at_312 rfl (by decide) ?_
                  refine own_iaload X625 (v := u0) (pc' := 314) A629 rfl rfl at_313 rfl ?_
                  refine own_callS X625 (W := 1) (argsL := [(.ref ad4), (.int (3 : Int32)), (.int u0)]) (rest := [(.int (own_hd [s0, s1, s2] u0))]) (S' := [(.int (own_mb [s0, s1, s2] u0)), (.int (own_hd [s0, s1, s2] u0))]) (pc' := 317) (rm6_3 l Z a0 hw n0 ad4 u0 h625 X625.size s0 s1 s2 A627) (hw _ (List.mem_of_getElem? (i := 26) rfl)) (hw _ (List.mem_of_getElem? (i := 27) rfl)) (hw _ (List.mem_of_getElem? (i := 3) rfl)) (hw _ (List.mem_of_getElem? (i := 28) rfl)) (by decide) (by decide) (by decide) rfl rfl (by decide) (by decide) (lenOf pd_4 rfl) rfl (by first | decide | exact Nat.le_of_eq rfl) rfl at_314 rfl rfl ?_
                  intro T631 h631 X631 qq631
                  rw [show h631 = h625 from qq631] at X631
                  refine own_icmp_ne X631 (pct := 372) (pc' := 320) at_317 rfl (by decide) (by decide) (fun hc => absurd hc (fun q => q (own_hm_3_0 s0 s1 s2 u0 hs1 hs2 ))) (fun _ => ?_)
                  refine own_iload X631 (pc' := 322) at_320 rfl rfl ?_
                  refine own_aload X631 (pc' := 324) at_322 rfl rfl rfl ?_
                  refine own_iload X631 (pc' := 326) at_324 rfl rfl ?_
                  refine own_aload X631 (pc' := 328) at_326 rfl rfl rfl ?_
                  refine own_iconst X631 (v := (1 : Int32)) (pc' := 329) at_328 rfl (by decide) ?_
                  refine own_iaload X631 (v := u1) (pc' := 330) A629 rfl rfl at_329 rfl ?_
                  refine own_callS X631 (W := 1) (argsL := [(.ref ad4), (.int (3 : Int32)), (.int u1)]) (rest := [(.int (own_hd [s0, s1, s2] u1))]) (S' := [(.int (own_mb [s0, s1, s2] u1)), (.int (own_hd [s0, s1, s2] u1))]) (pc' := 333) (rm6_3 l Z a0 hw n0 ad4 u1 h625 X631.size s0 s1 s2 A627) (hw _ (List.mem_of_getElem? (i := 26) rfl)) (hw _ (List.mem_of_getElem? (i := 27) rfl)) (hw _ (List.mem_of_getElem? (i := 3) rfl)) (hw _ (List.mem_of_getElem? (i := 28) rfl)) (by decide) (by decide) (by decide) rfl rfl (by decide) (by decide) (lenOf pd_4 rfl) rfl (by first | decide | exact Nat.le_of_eq rfl) rfl at_330 rfl rfl ?_
                  intro T632 h632 X632 qq632
                  rw [show h632 = h625 from qq632] at X632
                  refine own_icmp_ne X632 (pct := 372) (pc' := 336) at_333 rfl (by decide) (by decide) (fun hc => absurd hc (fun q => q (own_hm_3_0 s0 s1 s2 u1 hs1 hs2 ))) (fun _ => ?_)
                  refine own_iload X632 (pc' := 338) at_336 rfl rfl ?_
                  refine own_aload X632 (pc' := 340) at_338 rfl rfl rfl ?_
                  refine own_iload X632 (pc' := 342) at_340 rfl rfl ?_
                  refine own_aload X632 (pc' := 344) at_342 rfl rfl rfl ?_
                  refine own_iconst X632 (v := (2 : Int32)) (pc' := 345) at_344 rfl (by decide) ?_
                  refine own_iaload X632 (v := u2) (pc' := 346) A629 rfl rfl at_345 rfl ?_
                  refine own_callS X632 (W := 1) (argsL := [(.ref ad4), (.int (3 : Int32)), (.int u2)]) (rest := [(.int (own_hd [s1, s2] u2))]) (S' := [(.int (own_mb [s0, s1, s2] u2)), (.int (own_hd [s1, s2] u2))]) (pc' := 349) (rm6_3 l Z a0 hw n0 ad4 u2 h625 X632.size s0 s1 s2 A627) (hw _ (List.mem_of_getElem? (i := 26) rfl)) (hw _ (List.mem_of_getElem? (i := 27) rfl)) (hw _ (List.mem_of_getElem? (i := 3) rfl)) (hw _ (List.mem_of_getElem? (i := 28) rfl)) (by decide) (by decide) (by decide) rfl rfl (by decide) (by decide) (lenOf pd_4 rfl) rfl (by first | decide | exact Nat.le_of_eq rfl) rfl at_346 rfl rfl ?_
                  intro T633 h633 X633 qq633
                  rw [show h633 = h625 from qq633] at X633
                  refine own_icmp_ne X633 (pct := 372) (pc' := 352) at_349 rfl (by decide) (by decide) (fun hc => absurd hc (fun q => q (own_hm_3_1 s0 s1 s2 u2 hs1 hs2 (by omega)))) (fun _ => ?_)
                  refine own_iload X633 (pc' := 354) at_352 rfl rfl ?_
                  refine own_aload X633 (pc' := 356) at_354 rfl rfl rfl ?_
                  refine own_iload X633 (pc' := 358) at_356 rfl rfl ?_
                  refine own_aload X633 (pc' := 360) at_358 rfl rfl rfl ?_
                  refine own_iconst X633 (v := (3 : Int32)) (pc' := 361) at_360 rfl (by decide) ?_
                  refine own_iaload X633 (v := u3) (pc' := 362) A629 rfl rfl at_361 rfl ?_
                  refine own_callS X633 (W := 1) (argsL := [(.ref ad4), (.int (3 : Int32)), (.int u3)]) (rest := [(.int (own_hd [s2] u3))]) (S' := [(.int (own_mb [s0, s1, s2] u3)), (.int (own_hd [s2] u3))]) (pc' := 365) (rm6_3 l Z a0 hw n0 ad4 u3 h625 X633.size s0 s1 s2 A627) (hw _ (List.mem_of_getElem? (i := 26) rfl)) (hw _ (List.mem_of_getElem? (i := 27) rfl)) (hw _ (List.mem_of_getElem? (i := 3) rfl)) (hw _ (List.mem_of_getElem? (i := 28) rfl)) (by decide) (by decide) (by decide) rfl rfl (by decide) (by decide) (lenOf pd_4 rfl) rfl (by first | decide | exact Nat.le_of_eq rfl) rfl at_362 rfl rfl ?_
                  intro T634 h634 X634 qq634
                  rw [show h634 = h625 from qq634] at X634
                  refine own_icmp_ne X634 (pct := 372) (pc' := 368) at_365 rfl (by decide) (by decide) (fun hc => absurd hc (fun q => q (own_hm_3_2 s0 s1 s2 u3 hs1 hs2 (by omega) (by omega)))) (fun _ => ?_)
                  refine own_iconst X634 (v := (1 : Int32)) (pc' := 369) at_368 rfl (by decide) ?_
                  refine own_goto X634 (pc' := 373) at_369 (by decide) (by decide) ?_
                  subst hΦ
                  exact own_retZ X634 at_373 (by decide) (by decide) (by decide) rfl trivial
                · rw [e626_1] at F626_n
                  refine own_iload X625 (pc' := 306) at_304 rfl rfl ?_
                  refine own_aload X625 (pc' := 308) at_306 rfl rfl rfl ?_
                  refine own_iload X625 (pc' := 310) at_308 rfl rfl ?_
                  refine own_aload X625 (pc' := 312) at_310 rfl rfl rfl ?_
                  refine own_iconst X625 (v := (0 : Int32)) (pc' := 313) at_312 rfl (by decide) ?_
                  refine own_iaload X625 (v := u0) (pc' := 314) A629 rfl rfl at_313 rfl ?_
                  refine own_callS X625 (W := 1) (argsL := [(.ref ad4), (.int (3 : Int32)), (.int u0)]) (rest := [(.int (own_hd [s0, s1, s2] u0))]) (S' := [(.int (own_mb [s0, s1, s2] u0)), (.int (own_hd [s0, s1, s2] u0))]) (pc' := 317) (rm6_3 l Z a0 hw n0 ad4 u0 h625 X625.size s0 s1 s2 A627) (hw _ (List.mem_of_getElem? (i := 26) rfl)) (hw _ (List.mem_of_getElem? (i := 27) rfl)) (hw _ (List.mem_of_getElem? (i := 3) rfl)) (hw _ (List.mem_of_getElem? (i := 28) rfl)) (by decide) (by decide) (by decide) rfl rfl (by decide) (by decide) (lenOf pd_4 rfl) rfl (by first | decide | exact Nat.le_of_eq rfl) rfl at_314 rfl rfl ?_
                  intro T635 h635 X635 qq635
                  rw [show h635 = h625 from qq635] at X635
                  refine own_icmp_ne X635 (pct := 372) (pc' := 320) at_317 rfl (by decide) (by decide) (fun hc => absurd hc (fun q => q (own_hm_3_0 s0 s1 s2 u0 hs1 hs2 ))) (fun _ => ?_)
                  refine own_iload X635 (pc' := 322) at_320 rfl rfl ?_
                  refine own_aload X635 (pc' := 324) at_322 rfl rfl rfl ?_
                  refine own_iload X635 (pc' := 326) at_324 rfl rfl ?_
                  refine own_aload X635 (pc' := 328) at_326 rfl rfl rfl ?_
                  refine own_iconst X635 (v := (1 : Int32)) (pc' := 329) at_328 rfl (by decide) ?_
                  refine own_iaload X635 (v := u1) (pc' := 330) A629 rfl rfl at_329 rfl ?_
                  refine own_callS X635 (W := 1) (argsL := [(.ref ad4), (.int (3 : Int32)), (.int u1)]) (rest := [(.int (own_hd [s0, s1, s2] u1))]) (S' := [(.int (own_mb [s0, s1, s2] u1)), (.int (own_hd [s0, s1, s2] u1))]) (pc' := 333) (rm6_3 l Z a0 hw n0 ad4 u1 h625 X635.size s0 s1 s2 A627) (hw _ (List.mem_of_getElem? (i := 26) rfl)) (hw _ (List.mem_of_getElem? (i := 27) rfl)) (hw _ (List.mem_of_getElem? (i := 3) rfl)) (hw _ (List.mem_of_getElem? (i := 28) rfl)) (by decide) (by decide) (by decide) rfl rfl (by decide) (by decide) (lenOf pd_4 rfl) rfl (by first | decide | exact Nat.le_of_eq rfl) rfl at_330 rfl rfl ?_
                  intro T636 h636 X636 qq636
                  rw [show h636 = h625 from qq636] at X636
                  refine own_icmp_ne X636 (pct := 372) (pc' := 336) at_333 rfl (by decide) (by decide) (fun hc => absurd hc (fun q => q (own_hm_3_0 s0 s1 s2 u1 hs1 hs2 ))) (fun _ => ?_)
                  refine own_iload X636 (pc' := 338) at_336 rfl rfl ?_
                  refine own_aload X636 (pc' := 340) at_338 rfl rfl rfl ?_
                  refine own_iload X636 (pc' := 342) at_340 rfl rfl ?_
                  refine own_aload X636 (pc' := 344) at_342 rfl rfl rfl ?_
                  refine own_iconst X636 (v := (2 : Int32)) (pc' := 345) at_344 rfl (by decide) ?_
                  refine own_iaload X636 (v := u2) (pc' := 346) A629 rfl rfl at_345 rfl ?_
                  refine own_callS X636 (W := 1) (argsL := [(.ref ad4), (.int (3 : Int32)), (.int u2)]) (rest := [(.int (own_hd [s1, s2] u2))]) (S' := [(.int (own_mb [s0, s1, s2] u2)), (.int (own_hd [s1, s2] u2))]) (pc' := 349) (rm6_3 l Z a0 hw n0 ad4 u2 h625 X636.size s0 s1 s2 A627) (hw _ (List.mem_of_getElem? (i := 26) rfl)) (hw _ (List.mem_of_getElem? (i := 27) rfl)) (hw _ (List.mem_of_getElem? (i := 3) rfl)) (hw _ (List.mem_of_getElem? (i := 28) rfl)) (by decide) (by decide) (by decide) rfl rfl (by decide) (by decide) (lenOf pd_4 rfl) rfl (by first | decide | exact Nat.le_of_eq rfl) rfl at_346 rfl rfl ?_
                  intro T637 h637 X637 qq637
                  rw [show h637 = h625 from qq637] at X637
                  refine own_icmp_ne X637 (pct := 372) (pc' := 352) at_349 rfl (by decide) (by decide) (fun hc => absurd hc (fun q => q (own_hm_3_1 s0 s1 s2 u2 hs1 hs2 (by omega)))) (fun _ => ?_)
                  refine own_iload X637 (pc' := 354) at_352 rfl rfl ?_
                  refine own_aload X637 (pc' := 356) at_354 rfl rfl rfl ?_
                  refine own_iload X637 (pc' := 358) at_356 rfl rfl ?_
                  refine own_aload X637 (pc' := 360) at_358 rfl rfl rfl ?_
                  refine own_iconst X637 (v := (3 : Int32)) (pc' := 361) at_360 rfl (by decide) ?_
                  refine own_iaload X637 (v := u3) (pc' := 362) A629 rfl rfl at_361 rfl ?_
                  refine own_callS X637 (W := 1) (argsL := [(.ref ad4), (.int (3 : Int32)), (.int u3)]) (rest := [(.int (own_hd [s2] u3))]) (S' := [(.int (own_mb [s0, s1, s2] u3)), (.int (own_hd [s2] u3))]) (pc' := 365) (rm6_3 l Z a0 hw n0 ad4 u3 h625 X637.size s0 s1 s2 A627) (hw _ (List.mem_of_getElem? (i := 26) rfl)) (hw _ (List.mem_of_getElem? (i := 27) rfl)) (hw _ (List.mem_of_getElem? (i := 3) rfl)) (hw _ (List.mem_of_getElem? (i := 28) rfl)) (by decide) (by decide) (by decide) rfl rfl (by decide) (by decide) (lenOf pd_4 rfl) rfl (by first | decide | exact Nat.le_of_eq rfl) rfl at_362 rfl rfl ?_
                  intro T638 h638 X638 qq638
                  rw [show h638 = h625 from qq638] at X638
                  refine own_icmp_ne X638 (pct := 372) (pc' := 368) at_365 rfl (by decide) (by decide) (fun hc => absurd hc (fun q => q (own_hm_3_2 s0 s1 s2 u3 hs1 hs2 (by omega) (by omega)))) (fun _ => ?_)
                  refine own_iconst X638 (v := (1 : Int32)) (pc' := 369) at_368 rfl (by decide) ?_
                  refine own_goto X638 (pc' := 373) at_369 (by decide) (by decide) ?_
                  subst hΦ
                  exact own_retZ X638 at_373 (by decide) (by decide) (by decide) rfl trivial
              · rw [e602_2] at F602_n
                refine own_aload X601 (pc' := 295) at_293 rfl rfl rfl ?_
                refine own_aload X601 (pc' := 297) at_295 rfl rfl rfl ?_
                refine own_iconst X601 (v := (3 : Int32)) (pc' := 298) at_297 rfl (by decide) ?_
                refine own_iaload X601 (v := u3) (pc' := 299) A605 rfl rfl at_298 rfl ?_
                refine own_callV X601 (W := 0) (a := ad509) (argsL := [(.int u3)]) (rest := []) (S' := [(.int (own_hd [] u3))]) (pc' := 302) (rm5_33 l Z a0 hw n0 ad509 u3 h601 X601.size ad462 s0 s1 s2 ⟨Ex602, F602_d, F602_n⟩ A604 ge_ad509 ne_ad462_ad509) Ex602 (hw _ (List.mem_of_getElem? (i := 19) rfl)) (hw _ (List.mem_of_getElem? (i := 20) rfl)) (hw _ (List.mem_of_getElem? (i := 22) rfl)) (hw _ (List.mem_of_getElem? (i := 21) rfl)) (hw _ (List.mem_of_getElem? (i := 10) rfl)) (hw _ (List.mem_of_getElem? (i := 23) rfl)) (by decide) (by decide) (by decide) rfl rfl (by decide) (by decide) (lenOf pd_3 rfl) rfl (by first | decide | exact Nat.le_of_eq rfl) rfl at_299 rfl rfl ?_
                intro T639 h639 X639 qq639
                obtain ⟨⟨Ex640, F640_d, F640_n⟩, K640⟩ := qq639
                have A641 := A603.keep K640 (ninS ne_ad4_ad509 nin0)
                have A642 := A604.keep K640 (ninS ne_ad462_ad509 nin0)
                have A643 := A605.keep K640 (ninS ne_ad470_ad509 nin0)
                have Ex644 := Ex602.keep K640
                refine own_istore X639 (pc' := 304) (Ls' := #[.val (.int x0), .val (.int x1), .val (.int x2), .val (.int sel), .val (.int pp), .val (.int rr), .val (.ref ad4), .val (.int (3 : Int32)), .val (.ref ad462), .val (.ref ad470), .val (.ref ad509), .val (.int (own_hd [s0, s1, s2] u0)), .val (.int (own_hd [s0, s1, s2] u1)), .val (.int (own_hd [s1, s2] u2)), .val (.int (own_hd [] u3))]) at_302 rfl rfl ?_
                have e640_0 := own_nc_3_3 0 u3
                rw [e640_0] at F640_n
                refine own_iload X639 (pc' := 306) at_304 rfl rfl ?_
                refine own_aload X639 (pc' := 308) at_306 rfl rfl rfl ?_
                refine own_iload X639 (pc' := 310) at_308 rfl rfl ?_
                refine own_aload X639 (pc' := 312) at_310 rfl rfl rfl ?_
                refine own_iconst X639 (v := (0 : Int32)) (pc' := 313) at_312 rfl (by decide) ?_
                refine own_iaload X639 (v := u0) (pc' := 314) A643 rfl rfl at_313 rfl ?_
                refine own_callS X639 (W := 1) (argsL := [(.ref ad4), (.int (3 : Int32)), (.int u0)]) (rest := [(.int (own_hd [s0, s1, s2] u0))]) (S' := [(.int (own_mb [s0, s1, s2] u0)), (.int (own_hd [s0, s1, s2] u0))]) (pc' := 317) (rm6_3 l Z a0 hw n0 ad4 u0 h639 X639.size s0 s1 s2 A641) (hw _ (List.mem_of_getElem? (i := 26) rfl)) (hw _ (List.mem_of_getElem? (i := 27) rfl)) (hw _ (List.mem_of_getElem? (i := 3) rfl)) (hw _ (List.mem_of_getElem? (i := 28) rfl)) (by decide) (by decide) (by decide) rfl rfl (by decide) (by decide) (lenOf pd_4 rfl) rfl (by first | decide | exact Nat.le_of_eq rfl) rfl at_314 rfl rfl ?_
                intro T645 h645 X645 qq645
                rw [show h645 = h639 from qq645] at X645
                refine own_icmp_ne X645 (pct := 372) (pc' := 320) at_317 rfl (by decide) (by decide) (fun hc => absurd hc (fun q => q (own_hm_3_0 s0 s1 s2 u0 hs1 hs2 ))) (fun _ => ?_)
                refine own_iload X645 (pc' := 322) at_320 rfl rfl ?_
                refine own_aload X645 (pc' := 324) at_322 rfl rfl rfl ?_
                refine own_iload X645 (pc' := 326) at_324 rfl rfl ?_
                refine own_aload X645 (pc' := 328) at_326 rfl rfl rfl ?_
                refine own_iconst X645 (v := (1 : Int32)) (pc' := 329) at_328 rfl (by decide) ?_
                refine own_iaload X645 (v := u1) (pc' := 330) A643 rfl rfl at_329 rfl ?_
                refine own_callS X645 (W := 1) (argsL := [(.ref ad4), (.int (3 : Int32)), (.int u1)]) (rest := [(.int (own_hd [s0, s1, s2] u1))]) (S' := [(.int (own_mb [s0, s1, s2] u1)), (.int (own_hd [s0, s1, s2] u1))]) (pc' := 333) (rm6_3 l Z a0 hw n0 ad4 u1 h639 X645.size s0 s1 s2 A641) (hw _ (List.mem_of_getElem? (i := 26) rfl)) (hw _ (List.mem_of_getElem? (i := 27) rfl)) (hw _ (List.mem_of_getElem? (i := 3) rfl)) (hw _ (List.mem_of_getElem? (i := 28) rfl)) (by decide) (by decide) (by decide) rfl rfl (by decide) (by decide) (lenOf pd_4 rfl) rfl (by first | decide | exact Nat.le_of_eq rfl) rfl at_330 rfl rfl ?_
                intro T646 h646 X646 qq646
                rw [show h646 = h639 from qq646] at X646
                refine own_icmp_ne X646 (pct := 372) (pc' := 336) at_333 rfl (by decide) (by decide) (fun hc => absurd hc (fun q => q (own_hm_3_0 s0 s1 s2 u1 hs1 hs2 ))) (fun _ => ?_)
                refine own_iload X646 (pc' := 338) at_336 rfl rfl ?_
                refine own_aload X646 (pc' := 340) at_338 rfl rfl rfl ?_
                refine own_iload X646 (pc' := 342) at_340 rfl rfl ?_
                refine own_aload X646 (pc' := 344) at_342 rfl rfl rfl ?_
                refine own_iconst X646 (v := (2 : Int32)) (pc' := 345) at_344 rfl (by decide) ?_
                refine own_iaload X646 (v := u2) (pc' := 346) A643 rfl rfl at_345 rfl ?_
                refine own_callS X646 (W := 1) (argsL := [(.ref ad4), (.int (3 : Int32)), (.int u2)]) (rest := [(.int (own_hd [s1, s2] u2))]) (S' := [(.int (own_mb [s0, s1, s2] u2)), (.int (own_hd [s1, s2] u2))]) (pc' := 349) (rm6_3 l Z a0 hw n0 ad4 u2 h639 X646.size s0 s1 s2 A641) (hw _ (List.mem_of_getElem? (i := 26) rfl)) (hw _ (List.mem_of_getElem? (i := 27) rfl)) (hw _ (List.mem_of_getElem? (i := 3) rfl)) (hw _ (List.mem_of_getElem? (i := 28) rfl)) (by decide) (by decide) (by decide) rfl rfl (by decide) (by decide) (lenOf pd_4 rfl) rfl (by first | decide | exact Nat.le_of_eq rfl) rfl at_346 rfl rfl ?_
                intro T647 h647 X647 qq647
                rw [show h647 = h639 from qq647] at X647
                refine own_icmp_ne X647 (pct := 372) (pc' := 352) at_349 rfl (by decide) (by decide) (fun hc => absurd hc (fun q => q (own_hm_3_1 s0 s1 s2 u2 hs1 hs2 (by omega)))) (fun _ => ?_)
                refine own_iload X647 (pc' := 354) at_352 rfl rfl ?_
                refine own_aload X647 (pc' := 356) at_354 rfl rfl rfl ?_
                refine own_iload X647 (pc' := 358) at_356 rfl rfl ?_
                refine own_aload X647 (pc' := 360) at_358 rfl rfl rfl ?_
                refine own_iconst X647 (v := (3 : Int32)) (pc' := 361) at_360 rfl (by decide) ?_
                refine own_iaload X647 (v := u3) (pc' := 362) A643 rfl rfl at_361 rfl ?_
                refine own_callS X647 (W := 1) (argsL := [(.ref ad4), (.int (3 : Int32)), (.int u3)]) (rest := [(.int (own_hd [] u3))]) (S' := [(.int (own_mb [s0, s1, s2] u3)), (.int (own_hd [] u3))]) (pc' := 365) (rm6_3 l Z a0 hw n0 ad4 u3 h639 X647.size s0 s1 s2 A641) (hw _ (List.mem_of_getElem? (i := 26) rfl)) (hw _ (List.mem_of_getElem? (i := 27) rfl)) (hw _ (List.mem_of_getElem? (i := 3) rfl)) (hw _ (List.mem_of_getElem? (i := 28) rfl)) (by decide) (by decide) (by decide) rfl rfl (by decide) (by decide) (lenOf pd_4 rfl) rfl (by first | decide | exact Nat.le_of_eq rfl) rfl at_362 rfl rfl ?_
                intro T648 h648 X648 qq648
                rw [show h648 = h639 from qq648] at X648
                refine own_icmp_ne X648 (pct := 372) (pc' := 368) at_365 rfl (by decide) (by decide) (fun hc => absurd hc (fun q => q (own_hm_3_3 s0 s1 s2 u3 hs1 hs2 (by omega) (by omega) (by omega)))) (fun _ => ?_)
                refine own_iconst X648 (v := (1 : Int32)) (pc' := 369) at_368 rfl (by decide) ?_
                refine own_goto X648 (pc' := 373) at_369 (by decide) (by decide) ?_
                subst hΦ
                exact own_retZ X648 at_373 (by decide) (by decide) (by decide) rfl trivial
            · rw [e526_2] at F526_n
              refine own_aload X525 (pc' := 284) at_282 rfl rfl rfl ?_
              refine own_aload X525 (pc' := 286) at_284 rfl rfl rfl ?_
              refine own_iconst X525 (v := (2 : Int32)) (pc' := 287) at_286 rfl (by decide) ?_
              refine own_iaload X525 (v := u2) (pc' := 288) A529 rfl rfl at_287 rfl ?_
              refine own_callV X525 (W := 0) (a := ad509) (argsL := [(.int u2)]) (rest := []) (S' := [(.int (own_hd [s2] u2))]) (pc' := 291) (rm5_32 l Z a0 hw n0 ad509 u2 h525 X525.size ad462 s0 s1 s2 ⟨Ex526, F526_d, F526_n⟩ A528 ge_ad509 ne_ad462_ad509) Ex526 (hw _ (List.mem_of_getElem? (i := 19) rfl)) (hw _ (List.mem_of_getElem? (i := 20) rfl)) (hw _ (List.mem_of_getElem? (i := 22) rfl)) (hw _ (List.mem_of_getElem? (i := 21) rfl)) (hw _ (List.mem_of_getElem? (i := 10) rfl)) (hw _ (List.mem_of_getElem? (i := 23) rfl)) (by decide) (by decide) (by decide) rfl rfl (by decide) (by decide) (lenOf pd_3 rfl) rfl (by first | decide | exact Nat.le_of_eq rfl) rfl at_288 rfl rfl ?_
              intro T649 h649 X649 qq649
              obtain ⟨⟨Ex650, F650_d, F650_n⟩, K650⟩ := qq649
              have A651 := A527.keep K650 (ninS ne_ad4_ad509 nin0)
              have A652 := A528.keep K650 (ninS ne_ad462_ad509 nin0)
              have A653 := A529.keep K650 (ninS ne_ad470_ad509 nin0)
              have Ex654 := Ex526.keep K650
              refine own_istore X649 (pc' := 293) (Ls' := #[.val (.int x0), .val (.int x1), .val (.int x2), .val (.int sel), .val (.int pp), .val (.int rr), .val (.ref ad4), .val (.int (3 : Int32)), .val (.ref ad462), .val (.ref ad470), .val (.ref ad509), .val (.int (own_hd [s0, s1, s2] u0)), .val (.int (own_hd [s0, s1, s2] u1)), .val (.int (own_hd [s2] u2)), .unset]) at_291 rfl rfl ?_
              rcases own_nc_3_2 s2 u2 with e650_0 | ⟨e650_1, f650_1_0⟩
              · rw [e650_0] at F650_n
                refine own_aload X649 (pc' := 295) at_293 rfl rfl rfl ?_
                refine own_aload X649 (pc' := 297) at_295 rfl rfl rfl ?_
                refine own_iconst X649 (v := (3 : Int32)) (pc' := 298) at_297 rfl (by decide) ?_
                refine own_iaload X649 (v := u3) (pc' := 299) A653 rfl rfl at_298 rfl ?_
                refine own_callV X649 (W := 0) (a := ad509) (argsL := [(.int u3)]) (rest := []) (S' := [(.int (own_hd [s2] u3))]) (pc' := 302) (rm5_32 l Z a0 hw n0 ad509 u3 h649 X649.size ad462 s0 s1 s2 ⟨Ex650, F650_d, F650_n⟩ A652 ge_ad509 ne_ad462_ad509) Ex650 (hw _ (List.mem_of_getElem? (i := 19) rfl)) (hw _ (List.mem_of_getElem? (i := 20) rfl)) (hw _ (List.mem_of_getElem? (i := 22) rfl)) (hw _ (List.mem_of_getElem? (i := 21) rfl)) (hw _ (List.mem_of_getElem? (i := 10) rfl)) (hw _ (List.mem_of_getElem? (i := 23) rfl)) (by decide) (by decide) (by decide) rfl rfl (by decide) (by decide) (lenOf pd_3 rfl) rfl (by first | decide | exact Nat.le_of_eq rfl) rfl at_299 rfl rfl ?_
                intro T655 h655 X655 qq655
                obtain ⟨⟨Ex656, F656_d, F656_n⟩, K656⟩ := qq655
                have A657 := A651.keep K656 (ninS ne_ad4_ad509 nin0)
                have A658 := A652.keep K656 (ninS ne_ad462_ad509 nin0)
                have A659 := A653.keep K656 (ninS ne_ad470_ad509 nin0)
                have Ex660 := Ex650.keep K656
                refine own_istore X655 (pc' := 304) (Ls' := #[.val (.int x0), .val (.int x1), .val (.int x2), .val (.int sel), .val (.int pp), .val (.int rr), .val (.ref ad4), .val (.int (3 : Int32)), .val (.ref ad462), .val (.ref ad470), .val (.ref ad509), .val (.int (own_hd [s0, s1, s2] u0)), .val (.int (own_hd [s0, s1, s2] u1)), .val (.int (own_hd [s2] u2)), .val (.int (own_hd [s2] u3))]) at_302 rfl rfl ?_
                rcases own_nc_3_2 s2 u3 with e656_0 | ⟨e656_1, f656_1_0⟩
                · rw [e656_0] at F656_n
                  refine own_iload X655 (pc' := 306) at_304 rfl rfl ?_
                  refine own_aload X655 (pc' := 308) at_306 rfl rfl rfl ?_
                  refine own_iload X655 (pc' := 310) at_308 rfl rfl ?_
                  refine own_aload X655 (pc' := 312) at_310 rfl rfl rfl ?_
                  refine own_iconst X655 (v := (0 : Int32)) (pc' := 313) at_312 rfl (by decide) ?_
                  refine own_iaload X655 (v := u0) (pc' := 314) A659 rfl rfl at_313 rfl ?_
                  refine own_callS X655 (W := 1) (argsL := [(.ref ad4), (.int (3 : Int32)), (.int u0)]) (rest := [(.int (own_hd [s0, s1, s2] u0))]) (S' := [(.int (own_mb [s0, s1, s2] u0)), (.int (own_hd [s0, s1, s2] u0))]) (pc' := 317) (rm6_3 l Z a0 hw n0 ad4 u0 h655 X655.size s0 s1 s2 A657) (hw _ (List.mem_of_getElem? (i := 26) rfl)) (hw _ (List.mem_of_getElem? (i := 27) rfl)) (hw _ (List.mem_of_getElem? (i := 3) rfl)) (hw _ (List.mem_of_getElem? (i := 28) rfl)) (by decide) (by decide) (by decide) rfl rfl (by decide) (by decide) (lenOf pd_4 rfl) rfl (by first | decide | exact Nat.le_of_eq rfl) rfl at_314 rfl rfl ?_
                  intro T661 h661 X661 qq661
                  rw [show h661 = h655 from qq661] at X661
                  refine own_icmp_ne X661 (pct := 372) (pc' := 320) at_317 rfl (by decide) (by decide) (fun hc => absurd hc (fun q => q (own_hm_3_0 s0 s1 s2 u0 hs1 hs2 ))) (fun _ => ?_)
                  refine own_iload X661 (pc' := 322) at_320 rfl rfl ?_
                  refine own_aload X661 (pc' := 324) at_322 rfl rfl rfl ?_
                  refine own_iload X661 (pc' := 326) at_324 rfl rfl ?_
                  refine own_aload X661 (pc' := 328) at_326 rfl rfl rfl ?_
                  refine own_iconst X661 (v := (1 : Int32)) (pc' := 329) at_328 rfl (by decide) ?_
                  refine own_iaload X661 (v := u1) (pc' := 330) A659 rfl rfl at_329 rfl ?_
                  refine own_callS X661 (W := 1) (argsL := [(.ref ad4), (.int (3 : Int32)), (.int u1)]) (rest := [(.int (own_hd [s0, s1, s2] u1))]) (S' := [(.int (own_mb [s0, s1, s2] u1)), (.int (own_hd [s0, s1, s2] u1))]) (pc' := 333) (rm6_3 l Z a0 hw n0 ad4 u1 h655 X661.size s0 s1 s2 A657) (hw _ (List.mem_of_getElem? (i := 26) rfl)) (hw _ (List.mem_of_getElem? (i := 27) rfl)) (hw _ (List.mem_of_getElem? (i := 3) rfl)) (hw _ (List.mem_of_getElem? (i := 28) rfl)) (by decide) (by decide) (by decide) rfl rfl (by decide) (by decide) (lenOf pd_4 rfl) rfl (by first | decide | exact Nat.le_of_eq rfl) rfl at_330 rfl rfl ?_
                  intro T662 h662 X662 qq662
                  rw [show h662 = h655 from qq662] at X662
                  refine own_icmp_ne X662 (pct := 372) (pc' := 336) at_333 rfl (by decide) (by decide) (fun hc => absurd hc (fun q => q (own_hm_3_0 s0 s1 s2 u1 hs1 hs2 ))) (fun _ => ?_)
                  refine own_iload X662 (pc' := 338) at_336 rfl rfl ?_
                  refine own_aload X662 (pc' := 340) at_338 rfl rfl rfl ?_
                  refine own_iload X662 (pc' := 342) at_340 rfl rfl ?_
                  refine own_aload X662 (pc' := 344) at_342 rfl rfl rfl ?_
                  refine own_iconst X662 (v := (2 : Int32)) (pc' := 345) at_344 rfl (by decide) ?_
                  refine own_iaload X662 (v := u2) (pc' := 346) A659 rfl rfl at_345 rfl ?_
                  refine own_callS X662 (W := 1) (argsL := [(.ref ad4), (.int (3 : Int32)), (.int u2)]) (rest := [(.int (own_hd [s2] u2))]) (S' := [(.int (own_mb [s0, s1, s2] u2)), (.int (own_hd [s2] u2))]) (pc' := 349) (rm6_3 l Z a0 hw n0 ad4 u2 h655 X662.size s0 s1 s2 A657) (hw _ (List.mem_of_getElem? (i := 26) rfl)) (hw _ (List.mem_of_getElem? (i := 27) rfl)) (hw _ (List.mem_of_getElem? (i := 3) rfl)) (hw _ (List.mem_of_getElem? (i := 28) rfl)) (by decide) (by decide) (by decide) rfl rfl (by decide) (by decide) (lenOf pd_4 rfl) rfl (by first | decide | exact Nat.le_of_eq rfl) rfl at_346 rfl rfl ?_
                  intro T663 h663 X663 qq663
                  rw [show h663 = h655 from qq663] at X663
                  refine own_icmp_ne X663 (pct := 372) (pc' := 352) at_349 rfl (by decide) (by decide) (fun hc => absurd hc (fun q => q (own_hm_3_2 s0 s1 s2 u2 hs1 hs2 (by omega) (by omega)))) (fun _ => ?_)
                  refine own_iload X663 (pc' := 354) at_352 rfl rfl ?_
                  refine own_aload X663 (pc' := 356) at_354 rfl rfl rfl ?_
                  refine own_iload X663 (pc' := 358) at_356 rfl rfl ?_
                  refine own_aload X663 (pc' := 360) at_358 rfl rfl rfl ?_
                  refine own_iconst X663 (v := (3 : Int32)) (pc' := 361) at_360 rfl (by decide) ?_
                  refine own_iaload X663 (v := u3) (pc' := 362) A659 rfl rfl at_361 rfl ?_
                  refine own_callS X663 (W := 1) (argsL := [(.ref ad4), (.int (3 : Int32)), (.int u3)]) (rest := [(.int (own_hd [s2] u3))]) (S' := [(.int (own_mb [s0, s1, s2] u3)), (.int (own_hd [s2] u3))]) (pc' := 365) (rm6_3 l Z a0 hw n0 ad4 u3 h655 X663.size s0 s1 s2 A657) (hw _ (List.mem_of_getElem? (i := 26) rfl)) (hw _ (List.mem_of_getElem? (i := 27) rfl)) (hw _ (List.mem_of_getElem? (i := 3) rfl)) (hw _ (List.mem_of_getElem? (i := 28) rfl)) (by decide) (by decide) (by decide) rfl rfl (by decide) (by decide) (lenOf pd_4 rfl) rfl (by first | decide | exact Nat.le_of_eq rfl) rfl at_362 rfl rfl ?_
                  intro T664 h664 X664 qq664
                  rw [show h664 = h655 from qq664] at X664
                  refine own_icmp_ne X664 (pct := 372) (pc' := 368) at_365 rfl (by decide) (by decide) (fun hc => absurd hc (fun q => q (own_hm_3_2 s0 s1 s2 u3 hs1 hs2 (by omega) (by omega)))) (fun _ => ?_)
                  refine own_iconst X664 (v := (1 : Int32)) (pc' := 369) at_368 rfl (by decide) ?_
                  refine own_goto X664 (pc' := 373) at_369 (by decide) (by decide) ?_
                  subst hΦ
                  exact own_retZ X664 at_373 (by decide) (by decide) (by decide) rfl trivial
                · rw [e656_1] at F656_n
                  refine own_iload X655 (pc' := 306) at_304 rfl rfl ?_
                  refine own_aload X655 (pc' := 308) at_306 rfl rfl rfl ?_
                  refine own_iload X655 (pc' := 310) at_308 rfl rfl ?_
                  refine own_aload X655 (pc' := 312) at_310 rfl rfl rfl ?_
                  refine own_iconst X655 (v := (0 : Int32)) (pc' := 313) at_312 rfl (by decide) ?_
                  refine own_iaload X655 (v := u0) (pc' := 314) A659 rfl rfl at_313 rfl ?_
                  refine own_callS X655 (W := 1) (argsL := [(.ref ad4), (.int (3 : Int32)), (.int u0)]) (rest := [(.int (own_hd [s0, s1, s2] u0))]) (S' := [(.int (own_mb [s0, s1, s2] u0)), (.int (own_hd [s0, s1, s2] u0))]) (pc' := 317) (rm6_3 l Z a0 hw n0 ad4 u0 h655 X655.size s0 s1 s2 A657) (hw _ (List.mem_of_getElem? (i := 26) rfl)) (hw _ (List.mem_of_getElem? (i := 27) rfl)) (hw _ (List.mem_of_getElem? (i := 3) rfl)) (hw _ (List.mem_of_getElem? (i := 28) rfl)) (by decide) (by decide) (by decide) rfl rfl (by decide) (by decide) (lenOf pd_4 rfl) rfl (by first | decide | exact Nat.le_of_eq rfl) rfl at_314 rfl rfl ?_
                  intro T665 h665 X665 qq665
                  rw [show h665 = h655 from qq665] at X665
                  refine own_icmp_ne X665 (pct := 372) (pc' := 320) at_317 rfl (by decide) (by decide) (fun hc => absurd hc (fun q => q (own_hm_3_0 s0 s1 s2 u0 hs1 hs2 ))) (fun _ => ?_)
                  refine own_iload X665 (pc' := 322) at_320 rfl rfl ?_
                  refine own_aload X665 (pc' := 324) at_322 rfl rfl rfl ?_
                  refine own_iload X665 (pc' := 326) at_324 rfl rfl ?_
                  refine own_aload X665 (pc' := 328) at_326 rfl rfl rfl ?_
                  refine own_iconst X665 (v := (1 : Int32)) (pc' := 329) at_328 rfl (by decide) ?_
                  refine own_iaload X665 (v := u1) (pc' := 330) A659 rfl rfl at_329 rfl ?_
                  refine own_callS X665 (W := 1) (argsL := [(.ref ad4), (.int (3 : Int32)), (.int u1)]) (rest := [(.int (own_hd [s0, s1, s2] u1))]) (S' := [(.int (own_mb [s0, s1, s2] u1)), (.int (own_hd [s0, s1, s2] u1))]) (pc' := 333) (rm6_3 l Z a0 hw n0 ad4 u1 h655 X665.size s0 s1 s2 A657) (hw _ (List.mem_of_getElem? (i := 26) rfl)) (hw _ (List.mem_of_getElem? (i := 27) rfl)) (hw _ (List.mem_of_getElem? (i := 3) rfl)) (hw _ (List.mem_of_getElem? (i := 28) rfl)) (by decide) (by decide) (by decide) rfl rfl (by decide) (by decide) (lenOf pd_4 rfl) rfl (by first | decide | exact Nat.le_of_eq rfl) rfl at_330 rfl rfl ?_
                  intro T666 h666 X666 qq666
                  rw [show h666 = h655 from qq666] at X666
                  refine own_icmp_ne X666 (pct := 372) (pc' := 336) at_333 rfl (by decide) (by decide) (fun hc => absurd hc (fun q => q (own_hm_3_0 s0 s1 s2 u1 hs1 hs2 ))) (fun _ => ?_)
                  refine own_iload X666 (pc' := 338) at_336 rfl rfl ?_
                  refine own_aload X666 (pc' := 340) at_338 rfl rfl rfl ?_
                  refine own_iload X666 (pc' := 342) at_340 rfl rfl ?_
                  refine own_aload X666 (pc' := 344) at_342 rfl rfl rfl ?_
                  refine own_iconst X666 (v := (2 : Int32)) (pc' := 345) at_344 rfl (by decide) ?_
                  refine own_iaload X666 (v := u2) (pc' := 346) A659 rfl rfl at_345 rfl ?_
                  refine own_callS X666 (W := 1) (argsL := [(.ref ad4), (.int (3 : Int32)), (.int u2)]) (rest := [(.int (own_hd [s2] u2))]) (S' := [(.int (own_mb [s0, s1, s2] u2)), (.int (own_hd [s2] u2))]) (pc' := 349) (rm6_3 l Z a0 hw n0 ad4 u2 h655 X666.size s0 s1 s2 A657) (hw _ (List.mem_of_getElem? (i := 26) rfl)) (hw _ (List.mem_of_getElem? (i := 27) rfl)) (hw _ (List.mem_of_getElem? (i := 3) rfl)) (hw _ (List.mem_of_getElem? (i := 28) rfl)) (by decide) (by decide) (by decide) rfl rfl (by decide) (by decide) (lenOf pd_4 rfl) rfl (by first | decide | exact Nat.le_of_eq rfl) rfl at_346 rfl rfl ?_
                  intro T667 h667 X667 qq667
                  rw [show h667 = h655 from qq667] at X667
                  refine own_icmp_ne X667 (pct := 372) (pc' := 352) at_349 rfl (by decide) (by decide) (fun hc => absurd hc (fun q => q (own_hm_3_2 s0 s1 s2 u2 hs1 hs2 (by omega) (by omega)))) (fun _ => ?_)
                  refine own_iload X667 (pc' := 354) at_352 rfl rfl ?_
                  refine own_aload X667 (pc' := 356) at_354 rfl rfl rfl ?_
                  refine own_iload X667 (pc' := 358) at_356 rfl rfl ?_
                  refine own_aload X667 (pc' := 360) at_358 rfl rfl rfl ?_
                  refine own_iconst X667 (v := (3 : Int32)) (pc' := 361) at_360 rfl (by decide) ?_
                  refine own_iaload X667 (v := u3) (pc' := 362) A659 rfl rfl at_361 rfl ?_
                  refine own_callS X667 (W := 1) (argsL := [(.ref ad4), (.int (3 : Int32)), (.int u3)]) (rest := [(.int (own_hd [s2] u3))]) (S' := [(.int (own_mb [s0, s1, s2] u3)), (.int (own_hd [s2] u3))]) (pc' := 365) (rm6_3 l Z a0 hw n0 ad4 u3 h655 X667.size s0 s1 s2 A657) (hw _ (List.mem_of_getElem? (i := 26) rfl)) (hw _ (List.mem_of_getElem? (i := 27) rfl)) (hw _ (List.mem_of_getElem? (i := 3) rfl)) (hw _ (List.mem_of_getElem? (i := 28) rfl)) (by decide) (by decide) (by decide) rfl rfl (by decide) (by decide) (lenOf pd_4 rfl) rfl (by first | decide | exact Nat.le_of_eq rfl) rfl at_362 rfl rfl ?_
                  intro T668 h668 X668 qq668
                  rw [show h668 = h655 from qq668] at X668
                  refine own_icmp_ne X668 (pct := 372) (pc' := 368) at_365 rfl (by decide) (by decide) (fun hc => absurd hc (fun q => q (own_hm_3_2 s0 s1 s2 u3 hs1 hs2 (by omega) (by omega)))) (fun _ => ?_)
                  refine own_iconst X668 (v := (1 : Int32)) (pc' := 369) at_368 rfl (by decide) ?_
                  refine own_goto X668 (pc' := 373) at_369 (by decide) (by decide) ?_
                  subst hΦ
                  exact own_retZ X668 at_373 (by decide) (by decide) (by decide) rfl trivial
              · rw [e650_1] at F650_n
                refine own_aload X649 (pc' := 295) at_293 rfl rfl rfl ?_
                refine own_aload X649 (pc' := 297) at_295 rfl rfl rfl ?_
                refine own_iconst X649 (v := (3 : Int32)) (pc' := 298) at_297 rfl (by decide) ?_
                refine own_iaload X649 (v := u3) (pc' := 299) A653 rfl rfl at_298 rfl ?_
                refine own_callV X649 (W := 0) (a := ad509) (argsL := [(.int u3)]) (rest := []) (S' := [(.int (own_hd [] u3))]) (pc' := 302) (rm5_33 l Z a0 hw n0 ad509 u3 h649 X649.size ad462 s0 s1 s2 ⟨Ex650, F650_d, F650_n⟩ A652 ge_ad509 ne_ad462_ad509) Ex650 (hw _ (List.mem_of_getElem? (i := 19) rfl)) (hw _ (List.mem_of_getElem? (i := 20) rfl)) (hw _ (List.mem_of_getElem? (i := 22) rfl)) (hw _ (List.mem_of_getElem? (i := 21) rfl)) (hw _ (List.mem_of_getElem? (i := 10) rfl)) (hw _ (List.mem_of_getElem? (i := 23) rfl)) (by decide) (by decide) (by decide) rfl rfl (by decide) (by decide) (lenOf pd_3 rfl) rfl (by first | decide | exact Nat.le_of_eq rfl) rfl at_299 rfl rfl ?_
                intro T669 h669 X669 qq669
                obtain ⟨⟨Ex670, F670_d, F670_n⟩, K670⟩ := qq669
                have A671 := A651.keep K670 (ninS ne_ad4_ad509 nin0)
                have A672 := A652.keep K670 (ninS ne_ad462_ad509 nin0)
                have A673 := A653.keep K670 (ninS ne_ad470_ad509 nin0)
                have Ex674 := Ex650.keep K670
                refine own_istore X669 (pc' := 304) (Ls' := #[.val (.int x0), .val (.int x1), .val (.int x2), .val (.int sel), .val (.int pp), .val (.int rr), .val (.ref ad4), .val (.int (3 : Int32)), .val (.ref ad462), .val (.ref ad470), .val (.ref ad509), .val (.int (own_hd [s0, s1, s2] u0)), .val (.int (own_hd [s0, s1, s2] u1)), .val (.int (own_hd [s2] u2)), .val (.int (own_hd [] u3))]) at_302 rfl rfl ?_
                have e670_0 := own_nc_3_3 0 u3
                rw [e670_0] at F670_n
                refine own_iload X669 (pc' := 306) at_304 rfl rfl ?_
                refine own_aload X669 (pc' := 308) at_306 rfl rfl rfl ?_
                refine own_iload X669 (pc' := 310) at_308 rfl rfl ?_
                refine own_aload X669 (pc' := 312) at_310 rfl rfl rfl ?_
                refine own_iconst X669 (v := (0 : Int32)) (pc' := 313) at_312 rfl (by decide) ?_
                refine own_iaload X669 (v := u0) (pc' := 314) A673 rfl rfl at_313 rfl ?_
                refine own_callS X669 (W := 1) (argsL := [(.ref ad4), (.int (3 : Int32)), (.int u0)]) (rest := [(.int (own_hd [s0, s1, s2] u0))]) (S' := [(.int (own_mb [s0, s1, s2] u0)), (.int (own_hd [s0, s1, s2] u0))]) (pc' := 317) (rm6_3 l Z a0 hw n0 ad4 u0 h669 X669.size s0 s1 s2 A671) (hw _ (List.mem_of_getElem? (i := 26) rfl)) (hw _ (List.mem_of_getElem? (i := 27) rfl)) (hw _ (List.mem_of_getElem? (i := 3) rfl)) (hw _ (List.mem_of_getElem? (i := 28) rfl)) (by decide) (by decide) (by decide) rfl rfl (by decide) (by decide) (lenOf pd_4 rfl) rfl (by first | decide | exact Nat.le_of_eq rfl) rfl at_314 rfl rfl ?_
                intro T675 h675 X675 qq675
                rw [show h675 = h669 from qq675] at X675
                refine own_icmp_ne X675 (pct := 372) (pc' := 320) at_317 rfl (by decide) (by decide) (fun hc => absurd hc (fun q => q (own_hm_3_0 s0 s1 s2 u0 hs1 hs2 ))) (fun _ => ?_)
                refine own_iload X675 (pc' := 322) at_320 rfl rfl ?_
                refine own_aload X675 (pc' := 324) at_322 rfl rfl rfl ?_
                refine own_iload X675 (pc' := 326) at_324 rfl rfl ?_
                refine own_aload X675 (pc' := 328) at_326 rfl rfl rfl ?_
                refine own_iconst X675 (v := (1 : Int32)) (pc' := 329) at_328 rfl (by decide) ?_
                refine own_iaload X675 (v := u1) (pc' := 330) A673 rfl rfl at_329 rfl ?_
                refine own_callS X675 (W := 1) (argsL := [(.ref ad4), (.int (3 : Int32)), (.int u1)]) (rest := [(.int (own_hd [s0, s1, s2] u1))]) (S' := [(.int (own_mb [s0, s1, s2] u1)), (.int (own_hd [s0, s1, s2] u1))]) (pc' := 333) (rm6_3 l Z a0 hw n0 ad4 u1 h669 X675.size s0 s1 s2 A671) (hw _ (List.mem_of_getElem? (i := 26) rfl)) (hw _ (List.mem_of_getElem? (i := 27) rfl)) (hw _ (List.mem_of_getElem? (i := 3) rfl)) (hw _ (List.mem_of_getElem? (i := 28) rfl)) (by decide) (by decide) (by decide) rfl rfl (by decide) (by decide) (lenOf pd_4 rfl) rfl (by first | decide | exact Nat.le_of_eq rfl) rfl at_330 rfl rfl ?_
                intro T676 h676 X676 qq676
                rw [show h676 = h669 from qq676] at X676
                refine own_icmp_ne X676 (pct := 372) (pc' := 336) at_333 rfl (by decide) (by decide) (fun hc => absurd hc (fun q => q (own_hm_3_0 s0 s1 s2 u1 hs1 hs2 ))) (fun _ => ?_)
                refine own_iload X676 (pc' := 338) at_336 rfl rfl ?_
                refine own_aload X676 (pc' := 340) at_338 rfl rfl rfl ?_
                refine own_iload X676 (pc' := 342) at_340 rfl rfl ?_
                refine own_aload X676 (pc' := 344) at_342 rfl rfl rfl ?_
                refine own_iconst X676 (v := (2 : Int32)) (pc' := 345) at_344 rfl (by decide) ?_
                refine own_iaload X676 (v := u2) (pc' := 346) A673 rfl rfl at_345 rfl ?_
                refine own_callS X676 (W := 1) (argsL := [(.ref ad4), (.int (3 : Int32)), (.int u2)]) (rest := [(.int (own_hd [s2] u2))]) (S' := [(.int (own_mb [s0, s1, s2] u2)), (.int (own_hd [s2] u2))]) (pc' := 349) (rm6_3 l Z a0 hw n0 ad4 u2 h669 X676.size s0 s1 s2 A671) (hw _ (List.mem_of_getElem? (i := 26) rfl)) (hw _ (List.mem_of_getElem? (i := 27) rfl)) (hw _ (List.mem_of_getElem? (i := 3) rfl)) (hw _ (List.mem_of_getElem? (i := 28) rfl)) (by decide) (by decide) (by decide) rfl rfl (by decide) (by decide) (lenOf pd_4 rfl) rfl (by first | decide | exact Nat.le_of_eq rfl) rfl at_346 rfl rfl ?_
                intro T677 h677 X677 qq677
                rw [show h677 = h669 from qq677] at X677
                refine own_icmp_ne X677 (pct := 372) (pc' := 352) at_349 rfl (by decide) (by decide) (fun hc => absurd hc (fun q => q (own_hm_3_2 s0 s1 s2 u2 hs1 hs2 (by omega) (by omega)))) (fun _ => ?_)
                refine own_iload X677 (pc' := 354) at_352 rfl rfl ?_
                refine own_aload X677 (pc' := 356) at_354 rfl rfl rfl ?_
                refine own_iload X677 (pc' := 358) at_356 rfl rfl ?_
                refine own_aload X677 (pc' := 360) at_358 rfl rfl rfl ?_
                refine own_iconst X677 (v := (3 : Int32)) (pc' := 361) at_360 rfl (by decide) ?_
                refine own_iaload X677 (v := u3) (pc' := 362) A673 rfl rfl at_361 rfl ?_
                refine own_callS X677 (W := 1) (argsL := [(.ref ad4), (.int (3 : Int32)), (.int u3)]) (rest := [(.int (own_hd [] u3))]) (S' := [(.int (own_mb [s0, s1, s2] u3)), (.int (own_hd [] u3))]) (pc' := 365) (rm6_3 l Z a0 hw n0 ad4 u3 h669 X677.size s0 s1 s2 A671) (hw _ (List.mem_of_getElem? (i := 26) rfl)) (hw _ (List.mem_of_getElem? (i := 27) rfl)) (hw _ (List.mem_of_getElem? (i := 3) rfl)) (hw _ (List.mem_of_getElem? (i := 28) rfl)) (by decide) (by decide) (by decide) rfl rfl (by decide) (by decide) (lenOf pd_4 rfl) rfl (by first | decide | exact Nat.le_of_eq rfl) rfl at_362 rfl rfl ?_
                intro T678 h678 X678 qq678
                rw [show h678 = h669 from qq678] at X678
                refine own_icmp_ne X678 (pct := 372) (pc' := 368) at_365 rfl (by decide) (by decide) (fun hc => absurd hc (fun q => q (own_hm_3_3 s0 s1 s2 u3 hs1 hs2 (by omega) (by omega) (by omega)))) (fun _ => ?_)
                refine own_iconst X678 (v := (1 : Int32)) (pc' := 369) at_368 rfl (by decide) ?_
                refine own_goto X678 (pc' := 373) at_369 (by decide) (by decide) ?_
                subst hΦ
                exact own_retZ X678 at_373 (by decide) (by decide) (by decide) rfl trivial
            · rw [e526_3] at F526_n
              refine own_aload X525 (pc' := 284) at_282 rfl rfl rfl ?_
              refine own_aload X525 (pc' := 286) at_284 rfl rfl rfl ?_
              refine own_iconst X525 (v := (2 : Int32)) (pc' := 287) at_286 rfl (by decide) ?_
              refine own_iaload X525 (v := u2) (pc' := 288) A529 rfl rfl at_287 rfl ?_
              refine own_callV X525 (W := 0) (a := ad509) (argsL := [(.int u2)]) (rest := []) (S' := [(.int (own_hd [] u2))]) (pc' := 291) (rm5_33 l Z a0 hw n0 ad509 u2 h525 X525.size ad462 s0 s1 s2 ⟨Ex526, F526_d, F526_n⟩ A528 ge_ad509 ne_ad462_ad509) Ex526 (hw _ (List.mem_of_getElem? (i := 19) rfl)) (hw _ (List.mem_of_getElem? (i := 20) rfl)) (hw _ (List.mem_of_getElem? (i := 22) rfl)) (hw _ (List.mem_of_getElem? (i := 21) rfl)) (hw _ (List.mem_of_getElem? (i := 10) rfl)) (hw _ (List.mem_of_getElem? (i := 23) rfl)) (by decide) (by decide) (by decide) rfl rfl (by decide) (by decide) (lenOf pd_3 rfl) rfl (by first | decide | exact Nat.le_of_eq rfl) rfl at_288 rfl rfl ?_
              intro T679 h679 X679 qq679
              obtain ⟨⟨Ex680, F680_d, F680_n⟩, K680⟩ := qq679
              have A681 := A527.keep K680 (ninS ne_ad4_ad509 nin0)
              have A682 := A528.keep K680 (ninS ne_ad462_ad509 nin0)
              have A683 := A529.keep K680 (ninS ne_ad470_ad509 nin0)
              have Ex684 := Ex526.keep K680
              refine own_istore X679 (pc' := 293) (Ls' := #[.val (.int x0), .val (.int x1), .val (.int x2), .val (.int sel), .val (.int pp), .val (.int rr), .val (.ref ad4), .val (.int (3 : Int32)), .val (.ref ad462), .val (.ref ad470), .val (.ref ad509), .val (.int (own_hd [s0, s1, s2] u0)), .val (.int (own_hd [s0, s1, s2] u1)), .val (.int (own_hd [] u2)), .unset]) at_291 rfl rfl ?_
              have e680_0 := own_nc_3_3 0 u2
              rw [e680_0] at F680_n
              refine own_aload X679 (pc' := 295) at_293 rfl rfl rfl ?_
              refine own_aload X679 (pc' := 297) at_295 rfl rfl rfl ?_
              refine own_iconst X679 (v := (3 : Int32)) (pc' := 298) at_297 rfl (by decide) ?_
              refine own_iaload X679 (v := u3) (pc' := 299) A683 rfl rfl at_298 rfl ?_
              refine own_callV X679 (W := 0) (a := ad509) (argsL := [(.int u3)]) (rest := []) (S' := [(.int (own_hd [] u3))]) (pc' := 302) (rm5_33 l Z a0 hw n0 ad509 u3 h679 X679.size ad462 s0 s1 s2 ⟨Ex680, F680_d, F680_n⟩ A682 ge_ad509 ne_ad462_ad509) Ex680 (hw _ (List.mem_of_getElem? (i := 19) rfl)) (hw _ (List.mem_of_getElem? (i := 20) rfl)) (hw _ (List.mem_of_getElem? (i := 22) rfl)) (hw _ (List.mem_of_getElem? (i := 21) rfl)) (hw _ (List.mem_of_getElem? (i := 10) rfl)) (hw _ (List.mem_of_getElem? (i := 23) rfl)) (by decide) (by decide) (by decide) rfl rfl (by decide) (by decide) (lenOf pd_3 rfl) rfl (by first | decide | exact Nat.le_of_eq rfl) rfl at_299 rfl rfl ?_
              intro T685 h685 X685 qq685
              obtain ⟨⟨Ex686, F686_d, F686_n⟩, K686⟩ := qq685
              have A687 := A681.keep K686 (ninS ne_ad4_ad509 nin0)
              have A688 := A682.keep K686 (ninS ne_ad462_ad509 nin0)
              have A689 := A683.keep K686 (ninS ne_ad470_ad509 nin0)
              have Ex690 := Ex680.keep K686
              refine own_istore X685 (pc' := 304) (Ls' := #[.val (.int x0), .val (.int x1), .val (.int x2), .val (.int sel), .val (.int pp), .val (.int rr), .val (.ref ad4), .val (.int (3 : Int32)), .val (.ref ad462), .val (.ref ad470), .val (.ref ad509), .val (.int (own_hd [s0, s1, s2] u0)), .val (.int (own_hd [s0, s1, s2] u1)), .val (.int (own_hd [] u2)), .val (.int (own_hd [] u3))]) at_302 rfl rfl ?_
              have e686_0 := own_nc_3_3 0 u3
              rw [e686_0] at F686_n
              refine own_iload X685 (pc' := 306) at_304 rfl rfl ?_
              refine own_aload X685 (pc' := 308) at_306 rfl rfl rfl ?_
              refine own_iload X685 (pc' := 310) at_308 rfl rfl ?_
              refine own_aload X685 (pc' := 312) at_310 rfl rfl rfl ?_
              refine own_iconst X685 (v := (0 : Int32)) (pc' := 313) at_312 rfl (by decide) ?_
              refine own_iaload X685 (v := u0) (pc' := 314) A689 rfl rfl at_313 rfl ?_
              refine own_callS X685 (W := 1) (argsL := [(.ref ad4), (.int (3 : Int32)), (.int u0)]) (rest := [(.int (own_hd [s0, s1, s2] u0))]) (S' := [(.int (own_mb [s0, s1, s2] u0)), (.int (own_hd [s0, s1, s2] u0))]) (pc' := 317) (rm6_3 l Z a0 hw n0 ad4 u0 h685 X685.size s0 s1 s2 A687) (hw _ (List.mem_of_getElem? (i := 26) rfl)) (hw _ (List.mem_of_getElem? (i := 27) rfl)) (hw _ (List.mem_of_getElem? (i := 3) rfl)) (hw _ (List.mem_of_getElem? (i := 28) rfl)) (by decide) (by decide) (by decide) rfl rfl (by decide) (by decide) (lenOf pd_4 rfl) rfl (by first | decide | exact Nat.le_of_eq rfl) rfl at_314 rfl rfl ?_
              intro T691 h691 X691 qq691
              rw [show h691 = h685 from qq691] at X691
              refine own_icmp_ne X691 (pct := 372) (pc' := 320) at_317 rfl (by decide) (by decide) (fun hc => absurd hc (fun q => q (own_hm_3_0 s0 s1 s2 u0 hs1 hs2 ))) (fun _ => ?_)
              refine own_iload X691 (pc' := 322) at_320 rfl rfl ?_
              refine own_aload X691 (pc' := 324) at_322 rfl rfl rfl ?_
              refine own_iload X691 (pc' := 326) at_324 rfl rfl ?_
              refine own_aload X691 (pc' := 328) at_326 rfl rfl rfl ?_
              refine own_iconst X691 (v := (1 : Int32)) (pc' := 329) at_328 rfl (by decide) ?_
              refine own_iaload X691 (v := u1) (pc' := 330) A689 rfl rfl at_329 rfl ?_
              refine own_callS X691 (W := 1) (argsL := [(.ref ad4), (.int (3 : Int32)), (.int u1)]) (rest := [(.int (own_hd [s0, s1, s2] u1))]) (S' := [(.int (own_mb [s0, s1, s2] u1)), (.int (own_hd [s0, s1, s2] u1))]) (pc' := 333) (rm6_3 l Z a0 hw n0 ad4 u1 h685 X691.size s0 s1 s2 A687) (hw _ (List.mem_of_getElem? (i := 26) rfl)) (hw _ (List.mem_of_getElem? (i := 27) rfl)) (hw _ (List.mem_of_getElem? (i := 3) rfl)) (hw _ (List.mem_of_getElem? (i := 28) rfl)) (by decide) (by decide) (by decide) rfl rfl (by decide) (by decide) (lenOf pd_4 rfl) rfl (by first | decide | exact Nat.le_of_eq rfl) rfl at_330 rfl rfl ?_
              intro T692 h692 X692 qq692
              rw [show h692 = h685 from qq692] at X692
              refine own_icmp_ne X692 (pct := 372) (pc' := 336) at_333 rfl (by decide) (by decide) (fun hc => absurd hc (fun q => q (own_hm_3_0 s0 s1 s2 u1 hs1 hs2 ))) (fun _ => ?_)
              refine own_iload X692 (pc' := 338) at_336 rfl rfl ?_
              refine own_aload X692 (pc' := 340) at_338 rfl rfl rfl ?_
              refine own_iload X692 (pc' := 342) at_340 rfl rfl ?_
              refine own_aload X692 (pc' := 344) at_342 rfl rfl rfl ?_
              refine own_iconst X692 (v := (2 : Int32)) (pc' := 345) at_344 rfl (by decide) ?_
              refine own_iaload X692 (v := u2) (pc' := 346) A689 rfl rfl at_345 rfl ?_
              refine own_callS X692 (W := 1) (argsL := [(.ref ad4), (.int (3 : Int32)), (.int u2)]) (rest := [(.int (own_hd [] u2))]) (S' := [(.int (own_mb [s0, s1, s2] u2)), (.int (own_hd [] u2))]) (pc' := 349) (rm6_3 l Z a0 hw n0 ad4 u2 h685 X692.size s0 s1 s2 A687) (hw _ (List.mem_of_getElem? (i := 26) rfl)) (hw _ (List.mem_of_getElem? (i := 27) rfl)) (hw _ (List.mem_of_getElem? (i := 3) rfl)) (hw _ (List.mem_of_getElem? (i := 28) rfl)) (by decide) (by decide) (by decide) rfl rfl (by decide) (by decide) (lenOf pd_4 rfl) rfl (by first | decide | exact Nat.le_of_eq rfl) rfl at_346 rfl rfl ?_
              intro T693 h693 X693 qq693
              rw [show h693 = h685 from qq693] at X693
              refine own_icmp_ne X693 (pct := 372) (pc' := 352) at_349 rfl (by decide) (by decide) (fun hc => absurd hc (fun q => q (own_hm_3_3 s0 s1 s2 u2 hs1 hs2 (by omega) (by omega) (by omega)))) (fun _ => ?_)
              refine own_iload X693 (pc' := 354) at_352 rfl rfl ?_
              refine own_aload X693 (pc' := 356) at_354 rfl rfl rfl ?_
              refine own_iload X693 (pc' := 358) at_356 rfl rfl ?_
              refine own_aload X693 (pc' := 360) at_358 rfl rfl rfl ?_
              refine own_iconst X693 (v := (3 : Int32)) (pc' := 361) at_360 rfl (by decide) ?_
              refine own_iaload X693 (v := u3) (pc' := 362) A689 rfl rfl at_361 rfl ?_
              refine own_callS X693 (W := 1) (argsL := [(.ref ad4), (.int (3 : Int32)), (.int u3)]) (rest := [(.int (own_hd [] u3))]) (S' := [(.int (own_mb [s0, s1, s2] u3)), (.int (own_hd [] u3))]) (pc' := 365) (rm6_3 l Z a0 hw n0 ad4 u3 h685 X693.size s0 s1 s2 A687) (hw _ (List.mem_of_getElem? (i := 26) rfl)) (hw _ (List.mem_of_getElem? (i := 27) rfl)) (hw _ (List.mem_of_getElem? (i := 3) rfl)) (hw _ (List.mem_of_getElem? (i := 28) rfl)) (by decide) (by decide) (by decide) rfl rfl (by decide) (by decide) (lenOf pd_4 rfl) rfl (by first | decide | exact Nat.le_of_eq rfl) rfl at_362 rfl rfl ?_
              intro T694 h694 X694 qq694
              rw [show h694 = h685 from qq694] at X694
              refine own_icmp_ne X694 (pct := 372) (pc' := 368) at_365 rfl (by decide) (by decide) (fun hc => absurd hc (fun q => q (own_hm_3_3 s0 s1 s2 u3 hs1 hs2 (by omega) (by omega) (by omega)))) (fun _ => ?_)
              refine own_iconst X694 (v := (1 : Int32)) (pc' := 369) at_368 rfl (by decide) ?_
              refine own_goto X694 (pc' := 373) at_369 (by decide) (by decide) ?_
              subst hΦ
              exact own_retZ X694 at_373 (by decide) (by decide) (by decide) rfl trivial
          · rw [e520_1] at F520_n
            refine own_aload X519 (pc' := 273) at_271 rfl rfl rfl ?_
            refine own_aload X519 (pc' := 275) at_273 rfl rfl rfl ?_
            refine own_iconst X519 (v := (1 : Int32)) (pc' := 276) at_275 rfl (by decide) ?_
            refine own_iaload X519 (v := u1) (pc' := 277) A523 rfl rfl at_276 rfl ?_
            refine own_callV X519 (W := 0) (a := ad509) (argsL := [(.int u1)]) (rest := []) (S' := [(.int (own_hd [s1, s2] u1))]) (pc' := 280) (rm5_31 l Z a0 hw n0 ad509 u1 h519 X519.size ad462 s0 s1 s2 ⟨Ex520, F520_d, F520_n⟩ A522 ge_ad509 ne_ad462_ad509) Ex520 (hw _ (List.mem_of_getElem? (i := 19) rfl)) (hw _ (List.mem_of_getElem? (i := 20) rfl)) (hw _ (List.mem_of_getElem? (i := 22) rfl)) (hw _ (List.mem_of_getElem? (i := 21) rfl)) (hw _ (List.mem_of_getElem? (i := 10) rfl)) (hw _ (List.mem_of_getElem? (i := 23) rfl)) (by decide) (by decide) (by decide) rfl rfl (by decide) (by decide) (lenOf pd_3 rfl) rfl (by first | decide | exact Nat.le_of_eq rfl) rfl at_277 rfl rfl ?_
            intro T695 h695 X695 qq695
            obtain ⟨⟨Ex696, F696_d, F696_n⟩, K696⟩ := qq695
            have A697 := A521.keep K696 (ninS ne_ad4_ad509 nin0)
            have A698 := A522.keep K696 (ninS ne_ad462_ad509 nin0)
            have A699 := A523.keep K696 (ninS ne_ad470_ad509 nin0)
            have Ex700 := Ex520.keep K696
            refine own_istore X695 (pc' := 282) (Ls' := #[.val (.int x0), .val (.int x1), .val (.int x2), .val (.int sel), .val (.int pp), .val (.int rr), .val (.ref ad4), .val (.int (3 : Int32)), .val (.ref ad462), .val (.ref ad470), .val (.ref ad509), .val (.int (own_hd [s0, s1, s2] u0)), .val (.int (own_hd [s1, s2] u1)), .unset, .unset]) at_280 rfl rfl ?_
            rcases own_nc_3_1 s1 s2 u1 with e696_0 | ⟨e696_1, f696_1_0⟩ | ⟨e696_2, f696_2_0, f696_2_1⟩
            · rw [e696_0] at F696_n
              refine own_aload X695 (pc' := 284) at_282 rfl rfl rfl ?_
              refine own_aload X695 (pc' := 286) at_284 rfl rfl rfl ?_
              refine own_iconst X695 (v := (2 : Int32)) (pc' := 287) at_286 rfl (by decide) ?_
              refine own_iaload X695 (v := u2) (pc' := 288) A699 rfl rfl at_287 rfl ?_
              refine own_callV X695 (W := 0) (a := ad509) (argsL := [(.int u2)]) (rest := []) (S' := [(.int (own_hd [s1, s2] u2))]) (pc' := 291) (rm5_31 l Z a0 hw n0 ad509 u2 h695 X695.size ad462 s0 s1 s2 ⟨Ex696, F696_d, F696_n⟩ A698 ge_ad509 ne_ad462_ad509) Ex696 (hw _ (List.mem_of_getElem? (i := 19) rfl)) (hw _ (List.mem_of_getElem? (i := 20) rfl)) (hw _ (List.mem_of_getElem? (i := 22) rfl)) (hw _ (List.mem_of_getElem? (i := 21) rfl)) (hw _ (List.mem_of_getElem? (i := 10) rfl)) (hw _ (List.mem_of_getElem? (i := 23) rfl)) (by decide) (by decide) (by decide) rfl rfl (by decide) (by decide) (lenOf pd_3 rfl) rfl (by first | decide | exact Nat.le_of_eq rfl) rfl at_288 rfl rfl ?_
              intro T701 h701 X701 qq701
              obtain ⟨⟨Ex702, F702_d, F702_n⟩, K702⟩ := qq701
              have A703 := A697.keep K702 (ninS ne_ad4_ad509 nin0)
              have A704 := A698.keep K702 (ninS ne_ad462_ad509 nin0)
              have A705 := A699.keep K702 (ninS ne_ad470_ad509 nin0)
              have Ex706 := Ex696.keep K702
              refine own_istore X701 (pc' := 293) (Ls' := #[.val (.int x0), .val (.int x1), .val (.int x2), .val (.int sel), .val (.int pp), .val (.int rr), .val (.ref ad4), .val (.int (3 : Int32)), .val (.ref ad462), .val (.ref ad470), .val (.ref ad509), .val (.int (own_hd [s0, s1, s2] u0)), .val (.int (own_hd [s1, s2] u1)), .val (.int (own_hd [s1, s2] u2)), .unset]) at_291 rfl rfl ?_
              rcases own_nc_3_1 s1 s2 u2 with e702_0 | ⟨e702_1, f702_1_0⟩ | ⟨e702_2, f702_2_0, f702_2_1⟩
              · rw [e702_0] at F702_n
                refine own_aload X701 (pc' := 295) at_293 rfl rfl rfl ?_
                refine own_aload X701 (pc' := 297) at_295 rfl rfl rfl ?_
                refine own_iconst X701 (v := (3 : Int32)) (pc' := 298) at_297 rfl (by decide) ?_
                refine own_iaload X701 (v := u3) (pc' := 299) A705 rfl rfl at_298 rfl ?_
                refine own_callV X701 (W := 0) (a := ad509) (argsL := [(.int u3)]) (rest := []) (S' := [(.int (own_hd [s1, s2] u3))]) (pc' := 302) (rm5_31 l Z a0 hw n0 ad509 u3 h701 X701.size ad462 s0 s1 s2 ⟨Ex702, F702_d, F702_n⟩ A704 ge_ad509 ne_ad462_ad509) Ex702 (hw _ (List.mem_of_getElem? (i := 19) rfl)) (hw _ (List.mem_of_getElem? (i := 20) rfl)) (hw _ (List.mem_of_getElem? (i := 22) rfl)) (hw _ (List.mem_of_getElem? (i := 21) rfl)) (hw _ (List.mem_of_getElem? (i := 10) rfl)) (hw _ (List.mem_of_getElem? (i := 23) rfl)) (by decide) (by decide) (by decide) rfl rfl (by decide) (by decide) (lenOf pd_3 rfl) rfl (by first | decide | exact Nat.le_of_eq rfl) rfl at_299 rfl rfl ?_
                intro T707 h707 X707 qq707
                obtain ⟨⟨Ex708, F708_d, F708_n⟩, K708⟩ := qq707
                have A709 := A703.keep K708 (ninS ne_ad4_ad509 nin0)
                have A710 := A704.keep K708 (ninS ne_ad462_ad509 nin0)
                have A711 := A705.keep K708 (ninS ne_ad470_ad509 nin0)
                have Ex712 := Ex702.keep K708
                refine own_istore X707 (pc' := 304) (Ls' := #[.val (.int x0), .val (.int x1), .val (.int x2), .val (.int sel), .val (.int pp), .val (.int rr), .val (.ref ad4), .val (.int (3 : Int32)), .val (.ref ad462), .val (.ref ad470), .val (.ref ad509), .val (.int (own_hd [s0, s1, s2] u0)), .val (.int (own_hd [s1, s2] u1)), .val (.int (own_hd [s1, s2] u2)), .val (.int (own_hd [s1, s2] u3))]) at_302 rfl rfl ?_
                rcases own_nc_3_1 s1 s2 u3 with e708_0 | ⟨e708_1, f708_1_0⟩ | ⟨e708_2, f708_2_0, f708_2_1⟩
                · rw [e708_0] at F708_n
                  refine own_iload X707 (pc' := 306) at_304 rfl rfl ?_
                  refine own_aload X707 (pc' := 308) at_306 rfl rfl rfl ?_
                  refine own_iload X707 (pc' := 310) at_308 rfl rfl ?_
                  refine own_aload X707 (pc' := 312) at_310 rfl rfl rfl ?_
                  refine own_iconst X707 (v := (0 : Int32)) (pc' := 313) at_312 rfl (by decide) ?_
                  refine own_iaload X707 (v := u0) (pc' := 314) A711 rfl rfl at_313 rfl ?_
                  refine own_callS X707 (W := 1) (argsL := [(.ref ad4), (.int (3 : Int32)), (.int u0)]) (rest := [(.int (own_hd [s0, s1, s2] u0))]) (S' := [(.int (own_mb [s0, s1, s2] u0)), (.int (own_hd [s0, s1, s2] u0))]) (pc' := 317) (rm6_3 l Z a0 hw n0 ad4 u0 h707 X707.size s0 s1 s2 A709) (hw _ (List.mem_of_getElem? (i := 26) rfl)) (hw _ (List.mem_of_getElem? (i := 27) rfl)) (hw _ (List.mem_of_getElem? (i := 3) rfl)) (hw _ (List.mem_of_getElem? (i := 28) rfl)) (by decide) (by decide) (by decide) rfl rfl (by decide) (by decide) (lenOf pd_4 rfl) rfl (by first | decide | exact Nat.le_of_eq rfl) rfl at_314 rfl rfl ?_
                  intro T713 h713 X713 qq713
                  rw [show h713 = h707 from qq713] at X713
                  refine own_icmp_ne X713 (pct := 372) (pc' := 320) at_317 rfl (by decide) (by decide) (fun hc => absurd hc (fun q => q (own_hm_3_0 s0 s1 s2 u0 hs1 hs2 ))) (fun _ => ?_)
                  refine own_iload X713 (pc' := 322) at_320 rfl rfl ?_
                  refine own_aload X713 (pc' := 324) at_322 rfl rfl rfl ?_
                  refine own_iload X713 (pc' := 326) at_324 rfl rfl ?_
                  refine own_aload X713 (pc' := 328) at_326 rfl rfl rfl ?_
                  refine own_iconst X713 (v := (1 : Int32)) (pc' := 329) at_328 rfl (by decide) ?_
                  refine own_iaload X713 (v := u1) (pc' := 330) A711 rfl rfl at_329 rfl ?_
                  refine own_callS X713 (W := 1) (argsL := [(.ref ad4), (.int (3 : Int32)), (.int u1)]) (rest := [(.int (own_hd [s1, s2] u1))]) (S' := [(.int (own_mb [s0, s1, s2] u1)), (.int (own_hd [s1, s2] u1))]) (pc' := 333) (rm6_3 l Z a0 hw n0 ad4 u1 h707 X713.size s0 s1 s2 A709) (hw _ (List.mem_of_getElem? (i := 26) rfl)) (hw _ (List.mem_of_getElem? (i := 27) rfl)) (hw _ (List.mem_of_getElem? (i := 3) rfl)) (hw _ (List.mem_of_getElem? (i := 28) rfl)) (by decide) (by decide) (by decide) rfl rfl (by decide) (by decide) (lenOf pd_4 rfl) rfl (by first | decide | exact Nat.le_of_eq rfl) rfl at_330 rfl rfl ?_
                  intro T714 h714 X714 qq714
                  rw [show h714 = h707 from qq714] at X714
                  refine own_icmp_ne X714 (pct := 372) (pc' := 336) at_333 rfl (by decide) (by decide) (fun hc => absurd hc (fun q => q (own_hm_3_1 s0 s1 s2 u1 hs1 hs2 (by omega)))) (fun _ => ?_)
                  refine own_iload X714 (pc' := 338) at_336 rfl rfl ?_
                  refine own_aload X714 (pc' := 340) at_338 rfl rfl rfl ?_
                  refine own_iload X714 (pc' := 342) at_340 rfl rfl ?_
                  refine own_aload X714 (pc' := 344) at_342 rfl rfl rfl ?_
                  refine own_iconst X714 (v := (2 : Int32)) (pc' := 345) at_344 rfl (by decide) ?_
                  refine own_iaload X714 (v := u2) (pc' := 346) A711 rfl rfl at_345 rfl ?_
                  refine own_callS X714 (W := 1) (argsL := [(.ref ad4), (.int (3 : Int32)), (.int u2)]) (rest := [(.int (own_hd [s1, s2] u2))]) (S' := [(.int (own_mb [s0, s1, s2] u2)), (.int (own_hd [s1, s2] u2))]) (pc' := 349) (rm6_3 l Z a0 hw n0 ad4 u2 h707 X714.size s0 s1 s2 A709) (hw _ (List.mem_of_getElem? (i := 26) rfl)) (hw _ (List.mem_of_getElem? (i := 27) rfl)) (hw _ (List.mem_of_getElem? (i := 3) rfl)) (hw _ (List.mem_of_getElem? (i := 28) rfl)) (by decide) (by decide) (by decide) rfl rfl (by decide) (by decide) (lenOf pd_4 rfl) rfl (by first | decide | exact Nat.le_of_eq rfl) rfl at_346 rfl rfl ?_
                  intro T715 h715 X715 qq715
                  rw [show h715 = h707 from qq715] at X715
                  refine own_icmp_ne X715 (pct := 372) (pc' := 352) at_349 rfl (by decide) (by decide) (fun hc => absurd hc (fun q => q (own_hm_3_1 s0 s1 s2 u2 hs1 hs2 (by omega)))) (fun _ => ?_)
                  refine own_iload X715 (pc' := 354) at_352 rfl rfl ?_
                  refine own_aload X715 (pc' := 356) at_354 rfl rfl rfl ?_
                  refine own_iload X715 (pc' := 358) at_356 rfl rfl ?_
                  refine own_aload X715 (pc' := 360) at_358 rfl rfl rfl ?_
                  refine own_iconst X715 (v := (3 : Int32)) (pc' := 361) at_360 rfl (by decide) ?_
                  refine own_iaload X715 (v := u3) (pc' := 362) A711 rfl rfl at_361 rfl ?_
                  refine own_callS X715 (W := 1) (argsL := [(.ref ad4), (.int (3 : Int32)), (.int u3)]) (rest := [(.int (own_hd [s1, s2] u3))]) (S' := [(.int (own_mb [s0, s1, s2] u3)), (.int (own_hd [s1, s2] u3))]) (pc' := 365) (rm6_3 l Z a0 hw n0 ad4 u3 h707 X715.size s0 s1 s2 A709) (hw _ (List.mem_of_getElem? (i := 26) rfl)) (hw _ (List.mem_of_getElem? (i := 27) rfl)) (hw _ (List.mem_of_getElem? (i := 3) rfl)) (hw _ (List.mem_of_getElem? (i := 28) rfl)) (by decide) (by decide) (by decide) rfl rfl (by decide) (by decide) (lenOf pd_4 rfl) rfl (by first | decide | exact Nat.le_of_eq rfl) rfl at_362 rfl rfl ?_
                  intro T716 h716 X716 qq716
                  rw [show h716 = h707 from qq716] at X716
                  refine own_icmp_ne X716 (pct := 372) (pc' := 368) at_365 rfl (by decide) (by decide) (fun hc => absurd hc (fun q => q (own_hm_3_1 s0 s1 s2 u3 hs1 hs2 (by omega)))) (fun _ => ?_)
                  refine own_iconst X716 (v := (1 : Int32)) (pc' := 369) at_368 rfl (by decide) ?_
                  refine own_goto X716 (pc' := 373) at_369 (by decide) (by decide) ?_
                  subst hΦ
                  exact own_retZ X716 at_373 (by decide) (by decide) (by decide) rfl trivial
                · rw [e708_1] at F708_n
                  refine own_iload X707 (pc' := 306) at_304 rfl rfl ?_
                  refine own_aload X707 (pc' := 308) at_306 rfl rfl rfl ?_
                  refine own_iload X707 (pc' := 310) at_308 rfl rfl ?_
                  refine own_aload X707 (pc' := 312) at_310 rfl rfl rfl ?_
                  refine own_iconst X707 (v := (0 : Int32)) (pc' := 313) at_312 rfl (by decide) ?_
                  refine own_iaload X707 (v := u0) (pc' := 314) A711 rfl rfl at_313 rfl ?_
                  refine own_callS X707 (W := 1) (argsL := [(.ref ad4), (.int (3 : Int32)), (.int u0)]) (rest := [(.int (own_hd [s0, s1, s2] u0))]) (S' := [(.int (own_mb [s0, s1, s2] u0)), (.int (own_hd [s0, s1, s2] u0))]) (pc' := 317) (rm6_3 l Z a0 hw n0 ad4 u0 h707 X707.size s0 s1 s2 A709) (hw _ (List.mem_of_getElem? (i := 26) rfl)) (hw _ (List.mem_of_getElem? (i := 27) rfl)) (hw _ (List.mem_of_getElem? (i := 3) rfl)) (hw _ (List.mem_of_getElem? (i := 28) rfl)) (by decide) (by decide) (by decide) rfl rfl (by decide) (by decide) (lenOf pd_4 rfl) rfl (by first | decide | exact Nat.le_of_eq rfl) rfl at_314 rfl rfl ?_
                  intro T717 h717 X717 qq717
                  rw [show h717 = h707 from qq717] at X717
                  refine own_icmp_ne X717 (pct := 372) (pc' := 320) at_317 rfl (by decide) (by decide) (fun hc => absurd hc (fun q => q (own_hm_3_0 s0 s1 s2 u0 hs1 hs2 ))) (fun _ => ?_)
                  refine own_iload X717 (pc' := 322) at_320 rfl rfl ?_
                  refine own_aload X717 (pc' := 324) at_322 rfl rfl rfl ?_
                  refine own_iload X717 (pc' := 326) at_324 rfl rfl ?_
                  refine own_aload X717 (pc' := 328) at_326 rfl rfl rfl ?_
                  refine own_iconst X717 (v := (1 : Int32)) (pc' := 329) at_328 rfl (by decide) ?_
                  refine own_iaload X717 (v := u1) (pc' := 330) A711 rfl rfl at_329 rfl ?_
                  refine own_callS X717 (W := 1) (argsL := [(.ref ad4), (.int (3 : Int32)), (.int u1)]) (rest := [(.int (own_hd [s1, s2] u1))]) (S' := [(.int (own_mb [s0, s1, s2] u1)), (.int (own_hd [s1, s2] u1))]) (pc' := 333) (rm6_3 l Z a0 hw n0 ad4 u1 h707 X717.size s0 s1 s2 A709) (hw _ (List.mem_of_getElem? (i := 26) rfl)) (hw _ (List.mem_of_getElem? (i := 27) rfl)) (hw _ (List.mem_of_getElem? (i := 3) rfl)) (hw _ (List.mem_of_getElem? (i := 28) rfl)) (by decide) (by decide) (by decide) rfl rfl (by decide) (by decide) (lenOf pd_4 rfl) rfl (by first | decide | exact Nat.le_of_eq rfl) rfl at_330 rfl rfl ?_
                  intro T718 h718 X718 qq718
                  rw [show h718 = h707 from qq718] at X718
                  refine own_icmp_ne X718 (pct := 372) (pc' := 336) at_333 rfl (by decide) (by decide) (fun hc => absurd hc (fun q => q (own_hm_3_1 s0 s1 s2 u1 hs1 hs2 (by omega)))) (fun _ => ?_)
                  refine own_iload X718 (pc' := 338) at_336 rfl rfl ?_
                  refine own_aload X718 (pc' := 340) at_338 rfl rfl rfl ?_
                  refine own_iload X718 (pc' := 342) at_340 rfl rfl ?_
                  refine own_aload X718 (pc' := 344) at_342 rfl rfl rfl ?_
                  refine own_iconst X718 (v := (2 : Int32)) (pc' := 345) at_344 rfl (by decide) ?_
                  refine own_iaload X718 (v := u2) (pc' := 346) A711 rfl rfl at_345 rfl ?_
                  refine own_callS X718 (W := 1) (argsL := [(.ref ad4), (.int (3 : Int32)), (.int u2)]) (rest := [(.int (own_hd [s1, s2] u2))]) (S' := [(.int (own_mb [s0, s1, s2] u2)), (.int (own_hd [s1, s2] u2))]) (pc' := 349) (rm6_3 l Z a0 hw n0 ad4 u2 h707 X718.size s0 s1 s2 A709) (hw _ (List.mem_of_getElem? (i := 26) rfl)) (hw _ (List.mem_of_getElem? (i := 27) rfl)) (hw _ (List.mem_of_getElem? (i := 3) rfl)) (hw _ (List.mem_of_getElem? (i := 28) rfl)) (by decide) (by decide) (by decide) rfl rfl (by decide) (by decide) (lenOf pd_4 rfl) rfl (by first | decide | exact Nat.le_of_eq rfl) rfl at_346 rfl rfl ?_
                  intro T719 h719 X719 qq719
                  rw [show h719 = h707 from qq719] at X719
                  refine own_icmp_ne X719 (pct := 372) (pc' := 352) at_349 rfl (by decide) (by decide) (fun hc => absurd hc (fun q => q (own_hm_3_1 s0 s1 s2 u2 hs1 hs2 (by omega)))) (fun _ => ?_)
                  refine own_iload X719 (pc' := 354) at_352 rfl rfl ?_
                  refine own_aload X719 (pc' := 356) at_354 rfl rfl rfl ?_
                  refine own_iload X719 (pc' := 358) at_356 rfl rfl ?_
                  refine own_aload X719 (pc' := 360) at_358 rfl rfl rfl ?_
                  refine own_iconst X719 (v := (3 : Int32)) (pc' := 361) at_360 rfl (by decide) ?_
                  refine own_iaload X719 (v := u3) (pc' := 362) A711 rfl rfl at_361 rfl ?_
                  refine own_callS X719 (W := 1) (argsL := [(.ref ad4), (.int (3 : Int32)), (.int u3)]) (rest := [(.int (own_hd [s1, s2] u3))]) (S' := [(.int (own_mb [s0, s1, s2] u3)), (.int (own_hd [s1, s2] u3))]) (pc' := 365) (rm6_3 l Z a0 hw n0 ad4 u3 h707 X719.size s0 s1 s2 A709) (hw _ (List.mem_of_getElem? (i := 26) rfl)) (hw _ (List.mem_of_getElem? (i := 27) rfl)) (hw _ (List.mem_of_getElem? (i := 3) rfl)) (hw _ (List.mem_of_getElem? (i := 28) rfl)) (by decide) (by decide) (by decide) rfl rfl (by decide) (by decide) (lenOf pd_4 rfl) rfl (by first | decide | exact Nat.le_of_eq rfl) rfl at_362 rfl rfl ?_
                  intro T720 h720 X720 qq720
                  rw [show h720 = h707 from qq720] at X720
                  refine own_icmp_ne X720 (pct := 372) (pc' := 368) at_365 rfl (by decide) (by decide) (fun hc => absurd hc (fun q => q (own_hm_3_1 s0 s1 s2 u3 hs1 hs2 (by omega)))) (fun _ => ?_)
                  refine own_iconst X720 (v := (1 : Int32)) (pc' := 369) at_368 rfl (by decide) ?_
                  refine own_goto X720 (pc' := 373) at_369 (by decide) (by decide) ?_
                  subst hΦ
                  exact own_retZ X720 at_373 (by decide) (by decide) (by decide) rfl trivial
                · rw [e708_2] at F708_n
                  refine own_iload X707 (pc' := 306) at_304 rfl rfl ?_
                  refine own_aload X707 (pc' := 308) at_306 rfl rfl rfl ?_
                  refine own_iload X707 (pc' := 310) at_308 rfl rfl ?_
                  refine own_aload X707 (pc' := 312) at_310 rfl rfl rfl ?_
                  refine own_iconst X707 (v := (0 : Int32)) (pc' := 313) at_312 rfl (by decide) ?_
                  refine own_iaload X707 (v := u0) (pc' := 314) A711 rfl rfl at_313 rfl ?_
                  refine own_callS X707 (W := 1) (argsL := [(.ref ad4), (.int (3 : Int32)), (.int u0)]) (rest := [(.int (own_hd [s0, s1, s2] u0))]) (S' := [(.int (own_mb [s0, s1, s2] u0)), (.int (own_hd [s0, s1, s2] u0))]) (pc' := 317) (rm6_3 l Z a0 hw n0 ad4 u0 h707 X707.size s0 s1 s2 A709) (hw _ (List.mem_of_getElem? (i := 26) rfl)) (hw _ (List.mem_of_getElem? (i := 27) rfl)) (hw _ (List.mem_of_getElem? (i := 3) rfl)) (hw _ (List.mem_of_getElem? (i := 28) rfl)) (by decide) (by decide) (by decide) rfl rfl (by decide) (by decide) (lenOf pd_4 rfl) rfl (by first | decide | exact Nat.le_of_eq rfl) rfl at_314 rfl rfl ?_
                  intro T721 h721 X721 qq721
                  rw [show h721 = h707 from qq721] at X721
                  refine own_icmp_ne X721 (pct := 372) (pc' := 320) at_317 rfl (by decide) (by decide) (fun hc => absurd hc (fun q => q (own_hm_3_0 s0 s1 s2 u0 hs1 hs2 ))) (fun _ => ?_)
                  refine own_iload X721 (pc' := 322) at_320 rfl rfl ?_
                  refine own_aload X721 (pc' := 324) at_322 rfl rfl rfl ?_
                  refine own_iload X721 (pc' := 326) at_324 rfl rfl ?_
                  refine own_aload X721 (pc' := 328) at_326 rfl rfl rfl ?_
                  refine own_iconst X721 (v := (1 : Int32)) (pc' := 329) at_328 rfl (by decide) ?_
                  refine own_iaload X721 (v := u1) (pc' := 330) A711 rfl rfl at_329 rfl ?_
                  refine own_callS X721 (W := 1) (argsL := [(.ref ad4), (.int (3 : Int32)), (.int u1)]) (rest := [(.int (own_hd [s1, s2] u1))]) (S' := [(.int (own_mb [s0, s1, s2] u1)), (.int (own_hd [s1, s2] u1))]) (pc' := 333) (rm6_3 l Z a0 hw n0 ad4 u1 h707 X721.size s0 s1 s2 A709) (hw _ (List.mem_of_getElem? (i := 26) rfl)) (hw _ (List.mem_of_getElem? (i := 27) rfl)) (hw _ (List.mem_of_getElem? (i := 3) rfl)) (hw _ (List.mem_of_getElem? (i := 28) rfl)) (by decide) (by decide) (by decide) rfl rfl (by decide) (by decide) (lenOf pd_4 rfl) rfl (by first | decide | exact Nat.le_of_eq rfl) rfl at_330 rfl rfl ?_
                  intro T722 h722 X722 qq722
                  rw [show h722 = h707 from qq722] at X722
                  refine own_icmp_ne X722 (pct := 372) (pc' := 336) at_333 rfl (by decide) (by decide) (fun hc => absurd hc (fun q => q (own_hm_3_1 s0 s1 s2 u1 hs1 hs2 (by omega)))) (fun _ => ?_)
                  refine own_iload X722 (pc' := 338) at_336 rfl rfl ?_
                  refine own_aload X722 (pc' := 340) at_338 rfl rfl rfl ?_
                  refine own_iload X722 (pc' := 342) at_340 rfl rfl ?_
                  refine own_aload X722 (pc' := 344) at_342 rfl rfl rfl ?_
                  refine own_iconst X722 (v := (2 : Int32)) (pc' := 345) at_344 rfl (by decide) ?_
                  refine own_iaload X722 (v := u2) (pc' := 346) A711 rfl rfl at_345 rfl ?_
                  refine own_callS X722 (W := 1) (argsL := [(.ref ad4), (.int (3 : Int32)), (.int u2)]) (rest := [(.int (own_hd [s1, s2] u2))]) (S' := [(.int (own_mb [s0, s1, s2] u2)), (.int (own_hd [s1, s2] u2))]) (pc' := 349) (rm6_3 l Z a0 hw n0 ad4 u2 h707 X722.size s0 s1 s2 A709) (hw _ (List.mem_of_getElem? (i := 26) rfl)) (hw _ (List.mem_of_getElem? (i := 27) rfl)) (hw _ (List.mem_of_getElem? (i := 3) rfl)) (hw _ (List.mem_of_getElem? (i := 28) rfl)) (by decide) (by decide) (by decide) rfl rfl (by decide) (by decide) (lenOf pd_4 rfl) rfl (by first | decide | exact Nat.le_of_eq rfl) rfl at_346 rfl rfl ?_
                  intro T723 h723 X723 qq723
                  rw [show h723 = h707 from qq723] at X723
                  refine own_icmp_ne X723 (pct := 372) (pc' := 352) at_349 rfl (by decide) (by decide) (fun hc => absurd hc (fun q => q (own_hm_3_1 s0 s1 s2 u2 hs1 hs2 (by omega)))) (fun _ => ?_)
                  refine own_iload X723 (pc' := 354) at_352 rfl rfl ?_
                  refine own_aload X723 (pc' := 356) at_354 rfl rfl rfl ?_
                  refine own_iload X723 (pc' := 358) at_356 rfl rfl ?_
                  refine own_aload X723 (pc' := 360) at_358 rfl rfl rfl ?_
                  refine own_iconst X723 (v := (3 : Int32)) (pc' := 361) at_360 rfl (by decide) ?_
                  refine own_iaload X723 (v := u3) (pc' := 362) A711 rfl rfl at_361 rfl ?_
                  refine own_callS X723 (W := 1) (argsL := [(.ref ad4), (.int (3 : Int32)), (.int u3)]) (rest := [(.int (own_hd [s1, s2] u3))]) (S' := [(.int (own_mb [s0, s1, s2] u3)), (.int (own_hd [s1, s2] u3))]) (pc' := 365) (rm6_3 l Z a0 hw n0 ad4 u3 h707 X723.size s0 s1 s2 A709) (hw _ (List.mem_of_getElem? (i := 26) rfl)) (hw _ (List.mem_of_getElem? (i := 27) rfl)) (hw _ (List.mem_of_getElem? (i := 3) rfl)) (hw _ (List.mem_of_getElem? (i := 28) rfl)) (by decide) (by decide) (by decide) rfl rfl (by decide) (by decide) (lenOf pd_4 rfl) rfl (by first | decide | exact Nat.le_of_eq rfl) rfl at_362 rfl rfl ?_
                  intro T724 h724 X724 qq724
                  rw [show h724 = h707 from qq724] at X724
                  refine own_icmp_ne X724 (pct := 372) (pc' := 368) at_365 rfl (by decide) (by decide) (fun hc => absurd hc (fun q => q (own_hm_3_1 s0 s1 s2 u3 hs1 hs2 (by omega)))) (fun _ => ?_)
                  refine own_iconst X724 (v := (1 : Int32)) (pc' := 369) at_368 rfl (by decide) ?_
                  refine own_goto X724 (pc' := 373) at_369 (by decide) (by decide) ?_
                  subst hΦ
                  exact own_retZ X724 at_373 (by decide) (by decide) (by decide) rfl trivial
              · rw [e702_1] at F702_n
                refine own_aload X701 (pc' := 295) at_293 rfl rfl rfl ?_
                refine own_aload X701 (pc' := 297) at_295 rfl rfl rfl ?_
                refine own_iconst X701 (v := (3 : Int32)) (pc' := 298) at_297 rfl (by decide) ?_
                refine own_iaload X701 (v := u3) (pc' := 299) A705 rfl rfl at_298 rfl ?_
                refine own_callV X701 (W := 0) (a := ad509) (argsL := [(.int u3)]) (rest := []) (S' := [(.int (own_hd [s2] u3))]) (pc' := 302) (rm5_32 l Z a0 hw n0 ad509 u3 h701 X701.size ad462 s0 s1 s2 ⟨Ex702, F702_d, F702_n⟩ A704 ge_ad509 ne_ad462_ad509) Ex702 (hw _ (List.mem_of_getElem? (i := 19) rfl)) (hw _ (List.mem_of_getElem? (i := 20) rfl)) (hw _ (List.mem_of_getElem? (i := 22) rfl)) (hw _ (List.mem_of_getElem? (i := 21) rfl)) (hw _ (List.mem_of_getElem? (i := 10) rfl)) (hw _ (List.mem_of_getElem? (i := 23) rfl)) (by decide) (by decide) (by decide) rfl rfl (by decide) (by decide) (lenOf pd_3 rfl) rfl (by first | decide | exact Nat.le_of_eq rfl) rfl at_299 rfl rfl ?_
                intro T725 h725 X725 qq725
                obtain ⟨⟨Ex726, F726_d, F726_n⟩, K726⟩ := qq725
                have A727 := A703.keep K726 (ninS ne_ad4_ad509 nin0)
                have A728 := A704.keep K726 (ninS ne_ad462_ad509 nin0)
                have A729 := A705.keep K726 (ninS ne_ad470_ad509 nin0)
                have Ex730 := Ex702.keep K726
                refine own_istore X725 (pc' := 304) (Ls' := #[.val (.int x0), .val (.int x1), .val (.int x2), .val (.int sel), .val (.int pp), .val (.int rr), .val (.ref ad4), .val (.int (3 : Int32)), .val (.ref ad462), .val (.ref ad470), .val (.ref ad509), .val (.int (own_hd [s0, s1, s2] u0)), .val (.int (own_hd [s1, s2] u1)), .val (.int (own_hd [s1, s2] u2)), .val (.int (own_hd [s2] u3))]) at_302 rfl rfl ?_
                rcases own_nc_3_2 s2 u3 with e726_0 | ⟨e726_1, f726_1_0⟩
                · rw [e726_0] at F726_n
                  refine own_iload X725 (pc' := 306) at_304 rfl rfl ?_
                  refine own_aload X725 (pc' := 308) at_306 rfl rfl rfl ?_
                  refine own_iload X725 (pc' := 310) at_308 rfl rfl ?_
                  refine own_aload X725 (pc' := 312) at_310 rfl rfl rfl ?_
                  refine own_iconst X725 (v := (0 : Int32)) (pc' := 313) at_312 rfl (by decide) ?_
                  refine own_iaload X725 (v := u0) (pc' := 314) A729 rfl rfl at_313 rfl ?_
                  refine own_callS X725 (W := 1) (argsL := [(.ref ad4), (.int (3 : Int32)), (.int u0)]) (rest := [(.int (own_hd [s0, s1, s2] u0))]) (S' := [(.int (own_mb [s0, s1, s2] u0)), (.int (own_hd [s0, s1, s2] u0))]) (pc' := 317) (rm6_3 l Z a0 hw n0 ad4 u0 h725 X725.size s0 s1 s2 A727) (hw _ (List.mem_of_getElem? (i := 26) rfl)) (hw _ (List.mem_of_getElem? (i := 27) rfl)) (hw _ (List.mem_of_getElem? (i := 3) rfl)) (hw _ (List.mem_of_getElem? (i := 28) rfl)) (by decide) (by decide) (by decide) rfl rfl (by decide) (by decide) (lenOf pd_4 rfl) rfl (by first | decide | exact Nat.le_of_eq rfl) rfl at_314 rfl rfl ?_
                  intro T731 h731 X731 qq731
                  rw [show h731 = h725 from qq731] at X731
                  refine own_icmp_ne X731 (pct := 372) (pc' := 320) at_317 rfl (by decide) (by decide) (fun hc => absurd hc (fun q => q (own_hm_3_0 s0 s1 s2 u0 hs1 hs2 ))) (fun _ => ?_)
                  refine own_iload X731 (pc' := 322) at_320 rfl rfl ?_
                  refine own_aload X731 (pc' := 324) at_322 rfl rfl rfl ?_
                  refine own_iload X731 (pc' := 326) at_324 rfl rfl ?_
                  refine own_aload X731 (pc' := 328) at_326 rfl rfl rfl ?_
                  refine own_iconst X731 (v := (1 : Int32)) (pc' := 329) at_328 rfl (by decide) ?_
                  refine own_iaload X731 (v := u1) (pc' := 330) A729 rfl rfl at_329 rfl ?_
                  refine own_callS X731 (W := 1) (argsL := [(.ref ad4), (.int (3 : Int32)), (.int u1)]) (rest := [(.int (own_hd [s1, s2] u1))]) (S' := [(.int (own_mb [s0, s1, s2] u1)), (.int (own_hd [s1, s2] u1))]) (pc' := 333) (rm6_3 l Z a0 hw n0 ad4 u1 h725 X731.size s0 s1 s2 A727) (hw _ (List.mem_of_getElem? (i := 26) rfl)) (hw _ (List.mem_of_getElem? (i := 27) rfl)) (hw _ (List.mem_of_getElem? (i := 3) rfl)) (hw _ (List.mem_of_getElem? (i := 28) rfl)) (by decide) (by decide) (by decide) rfl rfl (by decide) (by decide) (lenOf pd_4 rfl) rfl (by first | decide | exact Nat.le_of_eq rfl) rfl at_330 rfl rfl ?_
                  intro T732 h732 X732 qq732
                  rw [show h732 = h725 from qq732] at X732
                  refine own_icmp_ne X732 (pct := 372) (pc' := 336) at_333 rfl (by decide) (by decide) (fun hc => absurd hc (fun q => q (own_hm_3_1 s0 s1 s2 u1 hs1 hs2 (by omega)))) (fun _ => ?_)
                  refine own_iload X732 (pc' := 338) at_336 rfl rfl ?_
                  refine own_aload X732 (pc' := 340) at_338 rfl rfl rfl ?_
                  refine own_iload X732 (pc' := 342) at_340 rfl rfl ?_
                  refine own_aload X732 (pc' := 344) at_342 rfl rfl rfl ?_
                  refine own_iconst X732 (v := (2 : Int32)) (pc' := 345) at_344 rfl (by decide) ?_
                  refine own_iaload X732 (v := u2) (pc' := 346) A729 rfl rfl at_345 rfl ?_
                  refine own_callS X732 (W := 1) (argsL := [(.ref ad4), (.int (3 : Int32)), (.int u2)]) (rest := [(.int (own_hd [s1, s2] u2))]) (S' := [(.int (own_mb [s0, s1, s2] u2)), (.int (own_hd [s1, s2] u2))]) (pc' := 349) (rm6_3 l Z a0 hw n0 ad4 u2 h725 X732.size s0 s1 s2 A727) (hw _ (List.mem_of_getElem? (i := 26) rfl)) (hw _ (List.mem_of_getElem? (i := 27) rfl)) (hw _ (List.mem_of_getElem? (i := 3) rfl)) (hw _ (List.mem_of_getElem? (i := 28) rfl)) (by decide) (by decide) (by decide) rfl rfl (by decide) (by decide) (lenOf pd_4 rfl) rfl (by first | decide | exact Nat.le_of_eq rfl) rfl at_346 rfl rfl ?_
                  intro T733 h733 X733 qq733
                  rw [show h733 = h725 from qq733] at X733
                  refine own_icmp_ne X733 (pct := 372) (pc' := 352) at_349 rfl (by decide) (by decide) (fun hc => absurd hc (fun q => q (own_hm_3_1 s0 s1 s2 u2 hs1 hs2 (by omega)))) (fun _ => ?_)
                  refine own_iload X733 (pc' := 354) at_352 rfl rfl ?_
                  refine own_aload X733 (pc' := 356) at_354 rfl rfl rfl ?_
                  refine own_iload X733 (pc' := 358) at_356 rfl rfl ?_
                  refine own_aload X733 (pc' := 360) at_358 rfl rfl rfl ?_
                  refine own_iconst X733 (v := (3 : Int32)) (pc' := 361) at_360 rfl (by decide) ?_
                  refine own_iaload X733 (v := u3) (pc' := 362) A729 rfl rfl at_361 rfl ?_
                  refine own_callS X733 (W := 1) (argsL := [(.ref ad4), (.int (3 : Int32)), (.int u3)]) (rest := [(.int (own_hd [s2] u3))]) (S' := [(.int (own_mb [s0, s1, s2] u3)), (.int (own_hd [s2] u3))]) (pc' := 365) (rm6_3 l Z a0 hw n0 ad4 u3 h725 X733.size s0 s1 s2 A727) (hw _ (List.mem_of_getElem? (i := 26) rfl)) (hw _ (List.mem_of_getElem? (i := 27) rfl)) (hw _ (List.mem_of_getElem? (i := 3) rfl)) (hw _ (List.mem_of_getElem? (i := 28) rfl)) (by decide) (by decide) (by decide) rfl rfl (by decide) (by decide) (lenOf pd_4 rfl) rfl (by first | decide | exact Nat.le_of_eq rfl) rfl at_362 rfl rfl ?_
                  intro T734 h734 X734 qq734
                  rw [show h734 = h725 from qq734] at X734
                  refine own_icmp_ne X734 (pct := 372) (pc' := 368) at_365 rfl (by decide) (by decide) (fun hc => absurd hc (fun q => q (own_hm_3_2 s0 s1 s2 u3 hs1 hs2 (by omega) (by omega)))) (fun _ => ?_)
                  refine own_iconst X734 (v := (1 : Int32)) (pc' := 369) at_368 rfl (by decide) ?_
                  refine own_goto X734 (pc' := 373) at_369 (by decide) (by decide) ?_
                  subst hΦ
                  exact own_retZ X734 at_373 (by decide) (by decide) (by decide) rfl trivial
                · rw [e726_1] at F726_n
                  refine own_iload X725 (pc' := 306) at_304 rfl rfl ?_
                  refine own_aload X725 (pc' := 308) at_306 rfl rfl rfl ?_
                  refine own_iload X725 (pc' := 310) at_308 rfl rfl ?_
                  refine own_aload X725 (pc' := 312) at_310 rfl rfl rfl ?_
                  refine own_iconst X725 (v := (0 : Int32)) (pc' := 313) at_312 rfl (by decide) ?_
                  refine own_iaload X725 (v := u0) (pc' := 314) A729 rfl rfl at_313 rfl ?_
                  refine own_callS X725 (W := 1) (argsL := [(.ref ad4), (.int (3 : Int32)), (.int u0)]) (rest := [(.int (own_hd [s0, s1, s2] u0))]) (S' := [(.int (own_mb [s0, s1, s2] u0)), (.int (own_hd [s0, s1, s2] u0))]) (pc' := 317) (rm6_3 l Z a0 hw n0 ad4 u0 h725 X725.size s0 s1 s2 A727) (hw _ (List.mem_of_getElem? (i := 26) rfl)) (hw _ (List.mem_of_getElem? (i := 27) rfl)) (hw _ (List.mem_of_getElem? (i := 3) rfl)) (hw _ (List.mem_of_getElem? (i := 28) rfl)) (by decide) (by decide) (by decide) rfl rfl (by decide) (by decide) (lenOf pd_4 rfl) rfl (by first | decide | exact Nat.le_of_eq rfl) rfl at_314 rfl rfl ?_
                  intro T735 h735 X735 qq735
                  rw [show h735 = h725 from qq735] at X735
                  refine own_icmp_ne X735 (pct := 372) (pc' := 320) at_317 rfl (by decide) (by decide) (fun hc => absurd hc (fun q => q (own_hm_3_0 s0 s1 s2 u0 hs1 hs2 ))) (fun _ => ?_)
                  refine own_iload X735 (pc' := 322) at_320 rfl rfl ?_
                  refine own_aload X735 (pc' := 324) at_322 rfl rfl rfl ?_
                  refine own_iload X735 (pc' := 326) at_324 rfl rfl ?_
                  refine own_aload X735 (pc' := 328) at_326 rfl rfl rfl ?_
                  refine own_iconst X735 (v := (1 : Int32)) (pc' := 329) at_328 rfl (by decide) ?_
                  refine own_iaload X735 (v := u1) (pc' := 330) A729 rfl rfl at_329 rfl ?_
                  refine own_callS X735 (W := 1) (argsL := [(.ref ad4), (.int (3 : Int32)), (.int u1)]) (rest := [(.int (own_hd [s1, s2] u1))]) (S' := [(.int (own_mb [s0, s1, s2] u1)), (.int (own_hd [s1, s2] u1))]) (pc' := 333) (rm6_3 l Z a0 hw n0 ad4 u1 h725 X735.size s0 s1 s2 A727) (hw _ (List.mem_of_getElem? (i := 26) rfl)) (hw _ (List.mem_of_getElem? (i := 27) rfl)) (hw _ (List.mem_of_getElem? (i := 3) rfl)) (hw _ (List.mem_of_getElem? (i := 28) rfl)) (by decide) (by decide) (by decide) rfl rfl (by decide) (by decide) (lenOf pd_4 rfl) rfl (by first | decide | exact Nat.le_of_eq rfl) rfl at_330 rfl rfl ?_
                  intro T736 h736 X736 qq736
                  rw [show h736 = h725 from qq736] at X736
                  refine own_icmp_ne X736 (pct := 372) (pc' := 336) at_333 rfl (by decide) (by decide) (fun hc => absurd hc (fun q => q (own_hm_3_1 s0 s1 s2 u1 hs1 hs2 (by omega)))) (fun _ => ?_)
                  refine own_iload X736 (pc' := 338) at_336 rfl rfl ?_
                  refine own_aload X736 (pc' := 340) at_338 rfl rfl rfl ?_
                  refine own_iload X736 (pc' := 342) at_340 rfl rfl ?_
                  refine own_aload X736 (pc' := 344) at_342 rfl rfl rfl ?_
                  refine own_iconst X736 (v := (2 : Int32)) (pc' := 345) at_344 rfl (by decide) ?_
                  refine own_iaload X736 (v := u2) (pc' := 346) A729 rfl rfl at_345 rfl ?_
                  refine own_callS X736 (W := 1) (argsL := [(.ref ad4), (.int (3 : Int32)), (.int u2)]) (rest := [(.int (own_hd [s1, s2] u2))]) (S' := [(.int (own_mb [s0, s1, s2] u2)), (.int (own_hd [s1, s2] u2))]) (pc' := 349) (rm6_3 l Z a0 hw n0 ad4 u2 h725 X736.size s0 s1 s2 A727) (hw _ (List.mem_of_getElem? (i := 26) rfl)) (hw _ (List.mem_of_getElem? (i := 27) rfl)) (hw _ (List.mem_of_getElem? (i := 3) rfl)) (hw _ (List.mem_of_getElem? (i := 28) rfl)) (by decide) (by decide) (by decide) rfl rfl (by decide) (by decide) (lenOf pd_4 rfl) rfl (by first | decide | exact Nat.le_of_eq rfl) rfl at_346 rfl rfl ?_
                  intro T737 h737 X737 qq737
                  rw [show h737 = h725 from qq737] at X737
                  refine own_icmp_ne X737 (pct := 372) (pc' := 352) at_349 rfl (by decide) (by decide) (fun hc => absurd hc (fun q => q (own_hm_3_1 s0 s1 s2 u2 hs1 hs2 (by omega)))) (fun _ => ?_)
                  refine own_iload X737 (pc' := 354) at_352 rfl rfl ?_
                  refine own_aload X737 (pc' := 356) at_354 rfl rfl rfl ?_
                  refine own_iload X737 (pc' := 358) at_356 rfl rfl ?_
                  refine own_aload X737 (pc' := 360) at_358 rfl rfl rfl ?_
                  refine own_iconst X737 (v := (3 : Int32)) (pc' := 361) at_360 rfl (by decide) ?_
                  refine own_iaload X737 (v := u3) (pc' := 362) A729 rfl rfl at_361 rfl ?_
                  refine own_callS X737 (W := 1) (argsL := [(.ref ad4), (.int (3 : Int32)), (.int u3)]) (rest := [(.int (own_hd [s2] u3))]) (S' := [(.int (own_mb [s0, s1, s2] u3)), (.int (own_hd [s2] u3))]) (pc' := 365) (rm6_3 l Z a0 hw n0 ad4 u3 h725 X737.size s0 s1 s2 A727) (hw _ (List.mem_of_getElem? (i := 26) rfl)) (hw _ (List.mem_of_getElem? (i := 27) rfl)) (hw _ (List.mem_of_getElem? (i := 3) rfl)) (hw _ (List.mem_of_getElem? (i := 28) rfl)) (by decide) (by decide) (by decide) rfl rfl (by decide) (by decide) (lenOf pd_4 rfl) rfl (by first | decide | exact Nat.le_of_eq rfl) rfl at_362 rfl rfl ?_
                  intro T738 h738 X738 qq738
                  rw [show h738 = h725 from qq738] at X738
                  refine own_icmp_ne X738 (pct := 372) (pc' := 368) at_365 rfl (by decide) (by decide) (fun hc => absurd hc (fun q => q (own_hm_3_2 s0 s1 s2 u3 hs1 hs2 (by omega) (by omega)))) (fun _ => ?_)
                  refine own_iconst X738 (v := (1 : Int32)) (pc' := 369) at_368 rfl (by decide) ?_
                  refine own_goto X738 (pc' := 373) at_369 (by decide) (by decide) ?_
                  subst hΦ
                  exact own_retZ X738 at_373 (by decide) (by decide) (by decide) rfl trivial
              · rw [e702_2] at F702_n
                refine own_aload X701 (pc' := 295) at_293 rfl rfl rfl ?_
                refine own_aload X701 (pc' := 297) at_295 rfl rfl rfl ?_
                refine own_iconst X701 (v := (3 : Int32)) (pc' := 298) at_297 rfl (by decide) ?_
                refine own_iaload X701 (v := u3) (pc' := 299) A705 rfl rfl at_298 rfl ?_
                refine own_callV X701 (W := 0) (a := ad509) (argsL := [(.int u3)]) (rest := []) (S' := [(.int (own_hd [] u3))]) (pc' := 302) (rm5_33 l Z a0 hw n0 ad509 u3 h701 X701.size ad462 s0 s1 s2 ⟨Ex702, F702_d, F702_n⟩ A704 ge_ad509 ne_ad462_ad509) Ex702 (hw _ (List.mem_of_getElem? (i := 19) rfl)) (hw _ (List.mem_of_getElem? (i := 20) rfl)) (hw _ (List.mem_of_getElem? (i := 22) rfl)) (hw _ (List.mem_of_getElem? (i := 21) rfl)) (hw _ (List.mem_of_getElem? (i := 10) rfl)) (hw _ (List.mem_of_getElem? (i := 23) rfl)) (by decide) (by decide) (by decide) rfl rfl (by decide) (by decide) (lenOf pd_3 rfl) rfl (by first | decide | exact Nat.le_of_eq rfl) rfl at_299 rfl rfl ?_
                intro T739 h739 X739 qq739
                obtain ⟨⟨Ex740, F740_d, F740_n⟩, K740⟩ := qq739
                have A741 := A703.keep K740 (ninS ne_ad4_ad509 nin0)
                have A742 := A704.keep K740 (ninS ne_ad462_ad509 nin0)
                have A743 := A705.keep K740 (ninS ne_ad470_ad509 nin0)
                have Ex744 := Ex702.keep K740
                refine own_istore X739 (pc' := 304) (Ls' := #[.val (.int x0), .val (.int x1), .val (.int x2), .val (.int sel), .val (.int pp), .val (.int rr), .val (.ref ad4), .val (.int (3 : Int32)), .val (.ref ad462), .val (.ref ad470), .val (.ref ad509), .val (.int (own_hd [s0, s1, s2] u0)), .val (.int (own_hd [s1, s2] u1)), .val (.int (own_hd [s1, s2] u2)), .val (.int (own_hd [] u3))]) at_302 rfl rfl ?_
                have e740_0 := own_nc_3_3 0 u3
                rw [e740_0] at F740_n
                refine own_iload X739 (pc' := 306) at_304 rfl rfl ?_
                refine own_aload X739 (pc' := 308) at_306 rfl rfl rfl ?_
                refine own_iload X739 (pc' := 310) at_308 rfl rfl ?_
                refine own_aload X739 (pc' := 312) at_310 rfl rfl rfl ?_
                refine own_iconst X739 (v := (0 : Int32)) (pc' := 313) at_312 rfl (by decide) ?_
                refine own_iaload X739 (v := u0) (pc' := 314) A743 rfl rfl at_313 rfl ?_
                refine own_callS X739 (W := 1) (argsL := [(.ref ad4), (.int (3 : Int32)), (.int u0)]) (rest := [(.int (own_hd [s0, s1, s2] u0))]) (S' := [(.int (own_mb [s0, s1, s2] u0)), (.int (own_hd [s0, s1, s2] u0))]) (pc' := 317) (rm6_3 l Z a0 hw n0 ad4 u0 h739 X739.size s0 s1 s2 A741) (hw _ (List.mem_of_getElem? (i := 26) rfl)) (hw _ (List.mem_of_getElem? (i := 27) rfl)) (hw _ (List.mem_of_getElem? (i := 3) rfl)) (hw _ (List.mem_of_getElem? (i := 28) rfl)) (by decide) (by decide) (by decide) rfl rfl (by decide) (by decide) (lenOf pd_4 rfl) rfl (by first | decide | exact Nat.le_of_eq rfl) rfl at_314 rfl rfl ?_
                intro T745 h745 X745 qq745
                rw [show h745 = h739 from qq745] at X745
                refine own_icmp_ne X745 (pct := 372) (pc' := 320) at_317 rfl (by decide) (by decide) (fun hc => absurd hc (fun q => q (own_hm_3_0 s0 s1 s2 u0 hs1 hs2 ))) (fun _ => ?_)
                refine own_iload X745 (pc' := 322) at_320 rfl rfl ?_
                refine own_aload X745 (pc' := 324) at_322 rfl rfl rfl ?_
                refine own_iload X745 (pc' := 326) at_324 rfl rfl ?_
                refine own_aload X745 (pc' := 328) at_326 rfl rfl rfl ?_
                refine own_iconst X745 (v := (1 : Int32)) (pc' := 329) at_328 rfl (by decide) ?_
                refine own_iaload X745 (v := u1) (pc' := 330) A743 rfl rfl at_329 rfl ?_
                refine own_callS X745 (W := 1) (argsL := [(.ref ad4), (.int (3 : Int32)), (.int u1)]) (rest := [(.int (own_hd [s1, s2] u1))]) (S' := [(.int (own_mb [s0, s1, s2] u1)), (.int (own_hd [s1, s2] u1))]) (pc' := 333) (rm6_3 l Z a0 hw n0 ad4 u1 h739 X745.size s0 s1 s2 A741) (hw _ (List.mem_of_getElem? (i := 26) rfl)) (hw _ (List.mem_of_getElem? (i := 27) rfl)) (hw _ (List.mem_of_getElem? (i := 3) rfl)) (hw _ (List.mem_of_getElem? (i := 28) rfl)) (by decide) (by decide) (by decide) rfl rfl (by decide) (by decide) (lenOf pd_4 rfl) rfl (by first | decide | exact Nat.le_of_eq rfl) rfl at_330 rfl rfl ?_
                intro T746 h746 X746 qq746
                rw [show h746 = h739 from qq746] at X746
                refine own_icmp_ne X746 (pct := 372) (pc' := 336) at_333 rfl (by decide) (by decide) (fun hc => absurd hc (fun q => q (own_hm_3_1 s0 s1 s2 u1 hs1 hs2 (by omega)))) (fun _ => ?_)
                refine own_iload X746 (pc' := 338) at_336 rfl rfl ?_
                refine own_aload X746 (pc' := 340) at_338 rfl rfl rfl ?_
                refine own_iload X746 (pc' := 342) at_340 rfl rfl ?_
                refine own_aload X746 (pc' := 344) at_342 rfl rfl rfl ?_
                refine own_iconst X746 (v := (2 : Int32)) (pc' := 345) at_344 rfl (by decide) ?_
                refine own_iaload X746 (v := u2) (pc' := 346) A743 rfl rfl at_345 rfl ?_
                refine own_callS X746 (W := 1) (argsL := [(.ref ad4), (.int (3 : Int32)), (.int u2)]) (rest := [(.int (own_hd [s1, s2] u2))]) (S' := [(.int (own_mb [s0, s1, s2] u2)), (.int (own_hd [s1, s2] u2))]) (pc' := 349) (rm6_3 l Z a0 hw n0 ad4 u2 h739 X746.size s0 s1 s2 A741) (hw _ (List.mem_of_getElem? (i := 26) rfl)) (hw _ (List.mem_of_getElem? (i := 27) rfl)) (hw _ (List.mem_of_getElem? (i := 3) rfl)) (hw _ (List.mem_of_getElem? (i := 28) rfl)) (by decide) (by decide) (by decide) rfl rfl (by decide) (by decide) (lenOf pd_4 rfl) rfl (by first | decide | exact Nat.le_of_eq rfl) rfl at_346 rfl rfl ?_
                intro T747 h747 X747 qq747
                rw [show h747 = h739 from qq747] at X747
                refine own_icmp_ne X747 (pct := 372) (pc' := 352) at_349 rfl (by decide) (by decide) (fun hc => absurd hc (fun q => q (own_hm_3_1 s0 s1 s2 u2 hs1 hs2 (by omega)))) (fun _ => ?_)
                refine own_iload X747 (pc' := 354) at_352 rfl rfl ?_
                refine own_aload X747 (pc' := 356) at_354 rfl rfl rfl ?_
                refine own_iload X747 (pc' := 358) at_356 rfl rfl ?_
                refine own_aload X747 (pc' := 360) at_358 rfl rfl rfl ?_
                refine own_iconst X747 (v := (3 : Int32)) (pc' := 361) at_360 rfl (by decide) ?_
                refine own_iaload X747 (v := u3) (pc' := 362) A743 rfl rfl at_361 rfl ?_
                refine own_callS X747 (W := 1) (argsL := [(.ref ad4), (.int (3 : Int32)), (.int u3)]) (rest := [(.int (own_hd [] u3))]) (S' := [(.int (own_mb [s0, s1, s2] u3)), (.int (own_hd [] u3))]) (pc' := 365) (rm6_3 l Z a0 hw n0 ad4 u3 h739 X747.size s0 s1 s2 A741) (hw _ (List.mem_of_getElem? (i := 26) rfl)) (hw _ (List.mem_of_getElem? (i := 27) rfl)) (hw _ (List.mem_of_getElem? (i := 3) rfl)) (hw _ (List.mem_of_getElem? (i := 28) rfl)) (by decide) (by decide) (by decide) rfl rfl (by decide) (by decide) (lenOf pd_4 rfl) rfl (by first | decide | exact Nat.le_of_eq rfl) rfl at_362 rfl rfl ?_
                intro T748 h748 X748 qq748
                rw [show h748 = h739 from qq748] at X748
                refine own_icmp_ne X748 (pct := 372) (pc' := 368) at_365 rfl (by decide) (by decide) (fun hc => absurd hc (fun q => q (own_hm_3_3 s0 s1 s2 u3 hs1 hs2 (by omega) (by omega) (by omega)))) (fun _ => ?_)
                refine own_iconst X748 (v := (1 : Int32)) (pc' := 369) at_368 rfl (by decide) ?_
                refine own_goto X748 (pc' := 373) at_369 (by decide) (by decide) ?_
                subst hΦ
                exact own_retZ X748 at_373 (by decide) (by decide) (by decide) rfl trivial
            · rw [e696_1] at F696_n
              refine own_aload X695 (pc' := 284) at_282 rfl rfl rfl ?_
              refine own_aload X695 (pc' := 286) at_284 rfl rfl rfl ?_
              refine own_iconst X695 (v := (2 : Int32)) (pc' := 287) at_286 rfl (by decide) ?_
              refine own_iaload X695 (v := u2) (pc' := 288) A699 rfl rfl at_287 rfl ?_
              refine own_callV X695 (W := 0) (a := ad509) (argsL := [(.int u2)]) (rest := []) (S' := [(.int (own_hd [s2] u2))]) (pc' := 291) (rm5_32 l Z a0 hw n0 ad509 u2 h695 X695.size ad462 s0 s1 s2 ⟨Ex696, F696_d, F696_n⟩ A698 ge_ad509 ne_ad462_ad509) Ex696 (hw _ (List.mem_of_getElem? (i := 19) rfl)) (hw _ (List.mem_of_getElem? (i := 20) rfl)) (hw _ (List.mem_of_getElem? (i := 22) rfl)) (hw _ (List.mem_of_getElem? (i := 21) rfl)) (hw _ (List.mem_of_getElem? (i := 10) rfl)) (hw _ (List.mem_of_getElem? (i := 23) rfl)) (by decide) (by decide) (by decide) rfl rfl (by decide) (by decide) (lenOf pd_3 rfl) rfl (by first | decide | exact Nat.le_of_eq rfl) rfl at_288 rfl rfl ?_
              intro T749 h749 X749 qq749
              obtain ⟨⟨Ex750, F750_d, F750_n⟩, K750⟩ := qq749
              have A751 := A697.keep K750 (ninS ne_ad4_ad509 nin0)
              have A752 := A698.keep K750 (ninS ne_ad462_ad509 nin0)
              have A753 := A699.keep K750 (ninS ne_ad470_ad509 nin0)
              have Ex754 := Ex696.keep K750
              refine own_istore X749 (pc' := 293) (Ls' := #[.val (.int x0), .val (.int x1), .val (.int x2), .val (.int sel), .val (.int pp), .val (.int rr), .val (.ref ad4), .val (.int (3 : Int32)), .val (.ref ad462), .val (.ref ad470), .val (.ref ad509), .val (.int (own_hd [s0, s1, s2] u0)), .val (.int (own_hd [s1, s2] u1)), .val (.int (own_hd [s2] u2)), .unset]) at_291 rfl rfl ?_
              rcases own_nc_3_2 s2 u2 with e750_0 | ⟨e750_1, f750_1_0⟩
              · rw [e750_0] at F750_n
                refine own_aload X749 (pc' := 295) at_293 rfl rfl rfl ?_
                refine own_aload X749 (pc' := 297) at_295 rfl rfl rfl ?_
                refine own_iconst X749 (v := (3 : Int32)) (pc' := 298) at_297 rfl (by decide) ?_
                refine own_iaload X749 (v := u3) (pc' := 299) A753 rfl rfl at_298 rfl ?_
                refine own_callV X749 (W := 0) (a := ad509) (argsL := [(.int u3)]) (rest := []) (S' := [(.int (own_hd [s2] u3))]) (pc' := 302) (rm5_32 l Z a0 hw n0 ad509 u3 h749 X749.size ad462 s0 s1 s2 ⟨Ex750, F750_d, F750_n⟩ A752 ge_ad509 ne_ad462_ad509) Ex750 (hw _ (List.mem_of_getElem? (i := 19) rfl)) (hw _ (List.mem_of_getElem? (i := 20) rfl)) (hw _ (List.mem_of_getElem? (i := 22) rfl)) (hw _ (List.mem_of_getElem? (i := 21) rfl)) (hw _ (List.mem_of_getElem? (i := 10) rfl)) (hw _ (List.mem_of_getElem? (i := 23) rfl)) (by decide) (by decide) (by decide) rfl rfl (by decide) (by decide) (lenOf pd_3 rfl) rfl (by first | decide | exact Nat.le_of_eq rfl) rfl at_299 rfl rfl ?_
                intro T755 h755 X755 qq755
                obtain ⟨⟨Ex756, F756_d, F756_n⟩, K756⟩ := qq755
                have A757 := A751.keep K756 (ninS ne_ad4_ad509 nin0)
                have A758 := A752.keep K756 (ninS ne_ad462_ad509 nin0)
                have A759 := A753.keep K756 (ninS ne_ad470_ad509 nin0)
                have Ex760 := Ex750.keep K756
                refine own_istore X755 (pc' := 304) (Ls' := #[.val (.int x0), .val (.int x1), .val (.int x2), .val (.int sel), .val (.int pp), .val (.int rr), .val (.ref ad4), .val (.int (3 : Int32)), .val (.ref ad462), .val (.ref ad470), .val (.ref ad509), .val (.int (own_hd [s0, s1, s2] u0)), .val (.int (own_hd [s1, s2] u1)), .val (.int (own_hd [s2] u2)), .val (.int (own_hd [s2] u3))]) at_302 rfl rfl ?_
                rcases own_nc_3_2 s2 u3 with e756_0 | ⟨e756_1, f756_1_0⟩
                · rw [e756_0] at F756_n
                  refine own_iload X755 (pc' := 306) at_304 rfl rfl ?_
                  refine own_aload X755 (pc' := 308) at_306 rfl rfl rfl ?_
                  refine own_iload X755 (pc' := 310) at_308 rfl rfl ?_
                  refine own_aload X755 (pc' := 312) at_310 rfl rfl rfl ?_
                  refine own_iconst X755 (v := (0 : Int32)) (pc' := 313) at_312 rfl (by decide) ?_
                  refine own_iaload X755 (v := u0) (pc' := 314) A759 rfl rfl at_313 rfl ?_
                  refine own_callS X755 (W := 1) (argsL := [(.ref ad4), (.int (3 : Int32)), (.int u0)]) (rest := [(.int (own_hd [s0, s1, s2] u0))]) (S' := [(.int (own_mb [s0, s1, s2] u0)), (.int (own_hd [s0, s1, s2] u0))]) (pc' := 317) (rm6_3 l Z a0 hw n0 ad4 u0 h755 X755.size s0 s1 s2 A757) (hw _ (List.mem_of_getElem? (i := 26) rfl)) (hw _ (List.mem_of_getElem? (i := 27) rfl)) (hw _ (List.mem_of_getElem? (i := 3) rfl)) (hw _ (List.mem_of_getElem? (i := 28) rfl)) (by decide) (by decide) (by decide) rfl rfl (by decide) (by decide) (lenOf pd_4 rfl) rfl (by first | decide | exact Nat.le_of_eq rfl) rfl at_314 rfl rfl ?_
                  intro T761 h761 X761 qq761
                  rw [show h761 = h755 from qq761] at X761
                  refine own_icmp_ne X761 (pct := 372) (pc' := 320) at_317 rfl (by decide) (by decide) (fun hc => absurd hc (fun q => q (own_hm_3_0 s0 s1 s2 u0 hs1 hs2 ))) (fun _ => ?_)
                  refine own_iload X761 (pc' := 322) at_320 rfl rfl ?_
                  refine own_aload X761 (pc' := 324) at_322 rfl rfl rfl ?_
                  refine own_iload X761 (pc' := 326) at_324 rfl rfl ?_
                  refine own_aload X761 (pc' := 328) at_326 rfl rfl rfl ?_
                  refine own_iconst X761 (v := (1 : Int32)) (pc' := 329) at_328 rfl (by decide) ?_
                  refine own_iaload X761 (v := u1) (pc' := 330) A759 rfl rfl at_329 rfl ?_
                  refine own_callS X761 (W := 1) (argsL := [(.ref ad4), (.int (3 : Int32)), (.int u1)]) (rest := [(.int (own_hd [s1, s2] u1))]) (S' := [(.int (own_mb [s0, s1, s2] u1)), (.int (own_hd [s1, s2] u1))]) (pc' := 333) (rm6_3 l Z a0 hw n0 ad4 u1 h755 X761.size s0 s1 s2 A757) (hw _ (List.mem_of_getElem? (i := 26) rfl)) (hw _ (List.mem_of_getElem? (i := 27) rfl)) (hw _ (List.mem_of_getElem? (i := 3) rfl)) (hw _ (List.mem_of_getElem? (i := 28) rfl)) (by decide) (by decide) (by decide) rfl rfl (by decide) (by decide) (lenOf pd_4 rfl) rfl (by first | decide | exact Nat.le_of_eq rfl) rfl at_330 rfl rfl ?_
                  intro T762 h762 X762 qq762
                  rw [show h762 = h755 from qq762] at X762
                  refine own_icmp_ne X762 (pct := 372) (pc' := 336) at_333 rfl (by decide) (by decide) (fun hc => absurd hc (fun q => q (own_hm_3_1 s0 s1 s2 u1 hs1 hs2 (by omega)))) (fun _ => ?_)
                  refine own_iload X762 (pc' := 338) at_336 rfl rfl ?_
                  refine own_aload X762 (pc' := 340) at_338 rfl rfl rfl ?_
                  refine own_iload X762 (pc' := 342) at_340 rfl rfl ?_
                  refine own_aload X762 (pc' := 344) at_342 rfl rfl rfl ?_
                  refine own_iconst X762 (v := (2 : Int32)) (pc' := 345) at_344 rfl (by decide) ?_
                  refine own_iaload X762 (v := u2) (pc' := 346) A759 rfl rfl at_345 rfl ?_
                  refine own_callS X762 (W := 1) (argsL := [(.ref ad4), (.int (3 : Int32)), (.int u2)]) (rest := [(.int (own_hd [s2] u2))]) (S' := [(.int (own_mb [s0, s1, s2] u2)), (.int (own_hd [s2] u2))]) (pc' := 349) (rm6_3 l Z a0 hw n0 ad4 u2 h755 X762.size s0 s1 s2 A757) (hw _ (List.mem_of_getElem? (i := 26) rfl)) (hw _ (List.mem_of_getElem? (i := 27) rfl)) (hw _ (List.mem_of_getElem? (i := 3) rfl)) (hw _ (List.mem_of_getElem? (i := 28) rfl)) (by decide) (by decide) (by decide) rfl rfl (by decide) (by decide) (lenOf pd_4 rfl) rfl (by first | decide | exact Nat.le_of_eq rfl) rfl at_346 rfl rfl ?_
                  intro T763 h763 X763 qq763
                  rw [show h763 = h755 from qq763] at X763
                  refine own_icmp_ne X763 (pct := 372) (pc' := 352) at_349 rfl (by decide) (by decide) (fun hc => absurd hc (fun q => q (own_hm_3_2 s0 s1 s2 u2 hs1 hs2 (by omega) (by omega)))) (fun _ => ?_)
                  refine own_iload X763 (pc' := 354) at_352 rfl rfl ?_
                  refine own_aload X763 (pc' := 356) at_354 rfl rfl rfl ?_
                  refine own_iload X763 (pc' := 358) at_356 rfl rfl ?_
                  refine own_aload X763 (pc' := 360) at_358 rfl rfl rfl ?_
                  refine own_iconst X763 (v := (3 : Int32)) (pc' := 361) at_360 rfl (by decide) ?_
                  refine own_iaload X763 (v := u3) (pc' := 362) A759 rfl rfl at_361 rfl ?_
                  refine own_callS X763 (W := 1) (argsL := [(.ref ad4), (.int (3 : Int32)), (.int u3)]) (rest := [(.int (own_hd [s2] u3))]) (S' := [(.int (own_mb [s0, s1, s2] u3)), (.int (own_hd [s2] u3))]) (pc' := 365) (rm6_3 l Z a0 hw n0 ad4 u3 h755 X763.size s0 s1 s2 A757) (hw _ (List.mem_of_getElem? (i := 26) rfl)) (hw _ (List.mem_of_getElem? (i := 27) rfl)) (hw _ (List.mem_of_getElem? (i := 3) rfl)) (hw _ (List.mem_of_getElem? (i := 28) rfl)) (by decide) (by decide) (by decide) rfl rfl (by decide) (by decide) (lenOf pd_4 rfl) rfl (by first | decide | exact Nat.le_of_eq rfl) rfl at_362 rfl rfl ?_
                  intro T764 h764 X764 qq764
                  rw [show h764 = h755 from qq764] at X764
                  refine own_icmp_ne X764 (pct := 372) (pc' := 368) at_365 rfl (by decide) (by decide) (fun hc => absurd hc (fun q => q (own_hm_3_2 s0 s1 s2 u3 hs1 hs2 (by omega) (by omega)))) (fun _ => ?_)
                  refine own_iconst X764 (v := (1 : Int32)) (pc' := 369) at_368 rfl (by decide) ?_
                  refine own_goto X764 (pc' := 373) at_369 (by decide) (by decide) ?_
                  subst hΦ
                  exact own_retZ X764 at_373 (by decide) (by decide) (by decide) rfl trivial
                · rw [e756_1] at F756_n
                  refine own_iload X755 (pc' := 306) at_304 rfl rfl ?_
                  refine own_aload X755 (pc' := 308) at_306 rfl rfl rfl ?_
                  refine own_iload X755 (pc' := 310) at_308 rfl rfl ?_
                  refine own_aload X755 (pc' := 312) at_310 rfl rfl rfl ?_
                  refine own_iconst X755 (v := (0 : Int32)) (pc' := 313) at_312 rfl (by decide) ?_
                  refine own_iaload X755 (v := u0) (pc' := 314) A759 rfl rfl at_313 rfl ?_
                  refine own_callS X755 (W := 1) (argsL := [(.ref ad4), (.int (3 : Int32)), (.int u0)]) (rest := [(.int (own_hd [s0, s1, s2] u0))]) (S' := [(.int (own_mb [s0, s1, s2] u0)), (.int (own_hd [s0, s1, s2] u0))]) (pc' := 317) (rm6_3 l Z a0 hw n0 ad4 u0 h755 X755.size s0 s1 s2 A757) (hw _ (List.mem_of_getElem? (i := 26) rfl)) (hw _ (List.mem_of_getElem? (i := 27) rfl)) (hw _ (List.mem_of_getElem? (i := 3) rfl)) (hw _ (List.mem_of_getElem? (i := 28) rfl)) (by decide) (by decide) (by decide) rfl rfl (by decide) (by decide) (lenOf pd_4 rfl) rfl (by first | decide | exact Nat.le_of_eq rfl) rfl at_314 rfl rfl ?_
                  intro T765 h765 X765 qq765
                  rw [show h765 = h755 from qq765] at X765
                  refine own_icmp_ne X765 (pct := 372) (pc' := 320) at_317 rfl (by decide) (by decide) (fun hc => absurd hc (fun q => q (own_hm_3_0 s0 s1 s2 u0 hs1 hs2 ))) (fun _ => ?_)
                  refine own_iload X765 (pc' := 322) at_320 rfl rfl ?_
                  refine own_aload X765 (pc' := 324) at_322 rfl rfl rfl ?_
                  refine own_iload X765 (pc' := 326) at_324 rfl rfl ?_
                  refine own_aload X765 (pc' := 328) at_326 rfl rfl rfl ?_
                  refine own_iconst X765 (v := (1 : Int32)) (pc' := 329) at_328 rfl (by decide) ?_
                  refine own_iaload X765 (v := u1) (pc' := 330) A759 rfl rfl at_329 rfl ?_
                  refine own_callS X765 (W := 1) (argsL := [(.ref ad4), (.int (3 : Int32)), (.int u1)]) (rest := [(.int (own_hd [s1, s2] u1))]) (S' := [(.int (own_mb [s0, s1, s2] u1)), (.int (own_hd [s1, s2] u1))]) (pc' := 333) (rm6_3 l Z a0 hw n0 ad4 u1 h755 X765.size s0 s1 s2 A757) (hw _ (List.mem_of_getElem? (i := 26) rfl)) (hw _ (List.mem_of_getElem? (i := 27) rfl)) (hw _ (List.mem_of_getElem? (i := 3) rfl)) (hw _ (List.mem_of_getElem? (i := 28) rfl)) (by decide) (by decide) (by decide) rfl rfl (by decide) (by decide) (lenOf pd_4 rfl) rfl (by first | decide | exact Nat.le_of_eq rfl) rfl at_330 rfl rfl ?_
                  intro T766 h766 X766 qq766
                  rw [show h766 = h755 from qq766] at X766
                  refine own_icmp_ne X766 (pct := 372) (pc' := 336) at_333 rfl (by decide) (by decide) (fun hc => absurd hc (fun q => q (own_hm_3_1 s0 s1 s2 u1 hs1 hs2 (by omega)))) (fun _ => ?_)
                  refine own_iload X766 (pc' := 338) at_336 rfl rfl ?_
                  refine own_aload X766 (pc' := 340) at_338 rfl rfl rfl ?_
                  refine own_iload X766 (pc' := 342) at_340 rfl rfl ?_
                  refine own_aload X766 (pc' := 344) at_342 rfl rfl rfl ?_
                  refine own_iconst X766 (v := (2 : Int32)) (pc' := 345) at_344 rfl (by decide) ?_
                  refine own_iaload X766 (v := u2) (pc' := 346) A759 rfl rfl at_345 rfl ?_
                  refine own_callS X766 (W := 1) (argsL := [(.ref ad4), (.int (3 : Int32)), (.int u2)]) (rest := [(.int (own_hd [s2] u2))]) (S' := [(.int (own_mb [s0, s1, s2] u2)), (.int (own_hd [s2] u2))]) (pc' := 349) (rm6_3 l Z a0 hw n0 ad4 u2 h755 X766.size s0 s1 s2 A757) (hw _ (List.mem_of_getElem? (i := 26) rfl)) (hw _ (List.mem_of_getElem? (i := 27) rfl)) (hw _ (List.mem_of_getElem? (i := 3) rfl)) (hw _ (List.mem_of_getElem? (i := 28) rfl)) (by decide) (by decide) (by decide) rfl rfl (by decide) (by decide) (lenOf pd_4 rfl) rfl (by first | decide | exact Nat.le_of_eq rfl) rfl at_346 rfl rfl ?_
                  intro T767 h767 X767 qq767
                  rw [show h767 = h755 from qq767] at X767
                  refine own_icmp_ne X767 (pct := 372) (pc' := 352) at_349 rfl (by decide) (by decide) (fun hc => absurd hc (fun q => q (own_hm_3_2 s0 s1 s2 u2 hs1 hs2 (by omega) (by omega)))) (fun _ => ?_)
                  refine own_iload X767 (pc' := 354) at_352 rfl rfl ?_
                  refine own_aload X767 (pc' := 356) at_354 rfl rfl rfl ?_
                  refine own_iload X767 (pc' := 358) at_356 rfl rfl ?_
                  refine own_aload X767 (pc' := 360) at_358 rfl rfl rfl ?_
                  refine own_iconst X767 (v := (3 : Int32)) (pc' := 361) at_360 rfl (by decide) ?_
                  refine own_iaload X767 (v := u3) (pc' := 362) A759 rfl rfl at_361 rfl ?_
                  refine own_callS X767 (W := 1) (argsL := [(.ref ad4), (.int (3 : Int32)), (.int u3)]) (rest := [(.int (own_hd [s2] u3))]) (S' := [(.int (own_mb [s0, s1, s2] u3)), (.int (own_hd [s2] u3))]) (pc' := 365) (rm6_3 l Z a0 hw n0 ad4 u3 h755 X767.size s0 s1 s2 A757) (hw _ (List.mem_of_getElem? (i := 26) rfl)) (hw _ (List.mem_of_getElem? (i := 27) rfl)) (hw _ (List.mem_of_getElem? (i := 3) rfl)) (hw _ (List.mem_of_getElem? (i := 28) rfl)) (by decide) (by decide) (by decide) rfl rfl (by decide) (by decide) (lenOf pd_4 rfl) rfl (by first | decide | exact Nat.le_of_eq rfl) rfl at_362 rfl rfl ?_
                  intro T768 h768 X768 qq768
                  rw [show h768 = h755 from qq768] at X768
                  refine own_icmp_ne X768 (pct := 372) (pc' := 368) at_365 rfl (by decide) (by decide) (fun hc => absurd hc (fun q => q (own_hm_3_2 s0 s1 s2 u3 hs1 hs2 (by omega) (by omega)))) (fun _ => ?_)
                  refine own_iconst X768 (v := (1 : Int32)) (pc' := 369) at_368 rfl (by decide) ?_
                  refine own_goto X768 (pc' := 373) at_369 (by decide) (by decide) ?_
                  subst hΦ
                  exact own_retZ X768 at_373 (by decide) (by decide) (by decide) rfl trivial
              · rw [e750_1] at F750_n
                refine own_aload X749 (pc' := 295) at_293 rfl rfl rfl ?_
                refine own_aload X749 (pc' := 297) at_295 rfl rfl rfl ?_
                refine own_iconst X749 (v := (3 : Int32)) (pc' := 298) at_297 rfl (by decide) ?_
                refine own_iaload X749 (v := u3) (pc' := 299) A753 rfl rfl at_298 rfl ?_
                refine own_callV X749 (W := 0) (a := ad509) (argsL := [(.int u3)]) (rest := []) (S' := [(.int (own_hd [] u3))]) (pc' := 302) (rm5_33 l Z a0 hw n0 ad509 u3 h749 X749.size ad462 s0 s1 s2 ⟨Ex750, F750_d, F750_n⟩ A752 ge_ad509 ne_ad462_ad509) Ex750 (hw _ (List.mem_of_getElem? (i := 19) rfl)) (hw _ (List.mem_of_getElem? (i := 20) rfl)) (hw _ (List.mem_of_getElem? (i := 22) rfl)) (hw _ (List.mem_of_getElem? (i := 21) rfl)) (hw _ (List.mem_of_getElem? (i := 10) rfl)) (hw _ (List.mem_of_getElem? (i := 23) rfl)) (by decide) (by decide) (by decide) rfl rfl (by decide) (by decide) (lenOf pd_3 rfl) rfl (by first | decide | exact Nat.le_of_eq rfl) rfl at_299 rfl rfl ?_
                intro T769 h769 X769 qq769
                obtain ⟨⟨Ex770, F770_d, F770_n⟩, K770⟩ := qq769
                have A771 := A751.keep K770 (ninS ne_ad4_ad509 nin0)
                have A772 := A752.keep K770 (ninS ne_ad462_ad509 nin0)
                have A773 := A753.keep K770 (ninS ne_ad470_ad509 nin0)
                have Ex774 := Ex750.keep K770
                refine own_istore X769 (pc' := 304) (Ls' := #[.val (.int x0), .val (.int x1), .val (.int x2), .val (.int sel), .val (.int pp), .val (.int rr), .val (.ref ad4), .val (.int (3 : Int32)), .val (.ref ad462), .val (.ref ad470), .val (.ref ad509), .val (.int (own_hd [s0, s1, s2] u0)), .val (.int (own_hd [s1, s2] u1)), .val (.int (own_hd [s2] u2)), .val (.int (own_hd [] u3))]) at_302 rfl rfl ?_
                have e770_0 := own_nc_3_3 0 u3
                rw [e770_0] at F770_n
                refine own_iload X769 (pc' := 306) at_304 rfl rfl ?_
                refine own_aload X769 (pc' := 308) at_306 rfl rfl rfl ?_
                refine own_iload X769 (pc' := 310) at_308 rfl rfl ?_
                refine own_aload X769 (pc' := 312) at_310 rfl rfl rfl ?_
                refine own_iconst X769 (v := (0 : Int32)) (pc' := 313) at_312 rfl (by decide) ?_
                refine own_iaload X769 (v := u0) (pc' := 314) A773 rfl rfl at_313 rfl ?_
                refine own_callS X769 (W := 1) (argsL := [(.ref ad4), (.int (3 : Int32)), (.int u0)]) (rest := [(.int (own_hd [s0, s1, s2] u0))]) (S' := [(.int (own_mb [s0, s1, s2] u0)), (.int (own_hd [s0, s1, s2] u0))]) (pc' := 317) (rm6_3 l Z a0 hw n0 ad4 u0 h769 X769.size s0 s1 s2 A771) (hw _ (List.mem_of_getElem? (i := 26) rfl)) (hw _ (List.mem_of_getElem? (i := 27) rfl)) (hw _ (List.mem_of_getElem? (i := 3) rfl)) (hw _ (List.mem_of_getElem? (i := 28) rfl)) (by decide) (by decide) (by decide) rfl rfl (by decide) (by decide) (lenOf pd_4 rfl) rfl (by first | decide | exact Nat.le_of_eq rfl) rfl at_314 rfl rfl ?_
                intro T775 h775 X775 qq775
                rw [show h775 = h769 from qq775] at X775
                refine own_icmp_ne X775 (pct := 372) (pc' := 320) at_317 rfl (by decide) (by decide) (fun hc => absurd hc (fun q => q (own_hm_3_0 s0 s1 s2 u0 hs1 hs2 ))) (fun _ => ?_)
                refine own_iload X775 (pc' := 322) at_320 rfl rfl ?_
                refine own_aload X775 (pc' := 324) at_322 rfl rfl rfl ?_
                refine own_iload X775 (pc' := 326) at_324 rfl rfl ?_
                refine own_aload X775 (pc' := 328) at_326 rfl rfl rfl ?_
                refine own_iconst X775 (v := (1 : Int32)) (pc' := 329) at_328 rfl (by decide) ?_
                refine own_iaload X775 (v := u1) (pc' := 330) A773 rfl rfl at_329 rfl ?_
                refine own_callS X775 (W := 1) (argsL := [(.ref ad4), (.int (3 : Int32)), (.int u1)]) (rest := [(.int (own_hd [s1, s2] u1))]) (S' := [(.int (own_mb [s0, s1, s2] u1)), (.int (own_hd [s1, s2] u1))]) (pc' := 333) (rm6_3 l Z a0 hw n0 ad4 u1 h769 X775.size s0 s1 s2 A771) (hw _ (List.mem_of_getElem? (i := 26) rfl)) (hw _ (List.mem_of_getElem? (i := 27) rfl)) (hw _ (List.mem_of_getElem? (i := 3) rfl)) (hw _ (List.mem_of_getElem? (i := 28) rfl)) (by decide) (by decide) (by decide) rfl rfl (by decide) (by decide) (lenOf pd_4 rfl) rfl (by first | decide | exact Nat.le_of_eq rfl) rfl at_330 rfl rfl ?_
                intro T776 h776 X776 qq776
                rw [show h776 = h769 from qq776] at X776
                refine own_icmp_ne X776 (pct := 372) (pc' := 336) at_333 rfl (by decide) (by decide) (fun hc => absurd hc (fun q => q (own_hm_3_1 s0 s1 s2 u1 hs1 hs2 (by omega)))) (fun _ => ?_)
                refine own_iload X776 (pc' := 338) at_336 rfl rfl ?_
                refine own_aload X776 (pc' := 340) at_338 rfl rfl rfl ?_
                refine own_iload X776 (pc' := 342) at_340 rfl rfl ?_
                refine own_aload X776 (pc' := 344) at_342 rfl rfl rfl ?_
                refine own_iconst X776 (v := (2 : Int32)) (pc' := 345) at_344 rfl (by decide) ?_
                refine own_iaload X776 (v := u2) (pc' := 346) A773 rfl rfl at_345 rfl ?_
                refine own_callS X776 (W := 1) (argsL := [(.ref ad4), (.int (3 : Int32)), (.int u2)]) (rest := [(.int (own_hd [s2] u2))]) (S' := [(.int (own_mb [s0, s1, s2] u2)), (.int (own_hd [s2] u2))]) (pc' := 349) (rm6_3 l Z a0 hw n0 ad4 u2 h769 X776.size s0 s1 s2 A771) (hw _ (List.mem_of_getElem? (i := 26) rfl)) (hw _ (List.mem_of_getElem? (i := 27) rfl)) (hw _ (List.mem_of_getElem? (i := 3) rfl)) (hw _ (List.mem_of_getElem? (i := 28) rfl)) (by decide) (by decide) (by decide) rfl rfl (by decide) (by decide) (lenOf pd_4 rfl) rfl (by first | decide | exact Nat.le_of_eq rfl) rfl at_346 rfl rfl ?_
                intro T777 h777 X777 qq777
                rw [show h777 = h769 from qq777] at X777
                refine own_icmp_ne X777 (pct := 372) (pc' := 352) at_349 rfl (by decide) (by decide) (fun hc => absurd hc (fun q => q (own_hm_3_2 s0 s1 s2 u2 hs1 hs2 (by omega) (by omega)))) (fun _ => ?_)
                refine own_iload X777 (pc' := 354) at_352 rfl rfl ?_
                refine own_aload X777 (pc' := 356) at_354 rfl rfl rfl ?_
                refine own_iload X777 (pc' := 358) at_356 rfl rfl ?_
                refine own_aload X777 (pc' := 360) at_358 rfl rfl rfl ?_
                refine own_iconst X777 (v := (3 : Int32)) (pc' := 361) at_360 rfl (by decide) ?_
                refine own_iaload X777 (v := u3) (pc' := 362) A773 rfl rfl at_361 rfl ?_
                refine own_callS X777 (W := 1) (argsL := [(.ref ad4), (.int (3 : Int32)), (.int u3)]) (rest := [(.int (own_hd [] u3))]) (S' := [(.int (own_mb [s0, s1, s2] u3)), (.int (own_hd [] u3))]) (pc' := 365) (rm6_3 l Z a0 hw n0 ad4 u3 h769 X777.size s0 s1 s2 A771) (hw _ (List.mem_of_getElem? (i := 26) rfl)) (hw _ (List.mem_of_getElem? (i := 27) rfl)) (hw _ (List.mem_of_getElem? (i := 3) rfl)) (hw _ (List.mem_of_getElem? (i := 28) rfl)) (by decide) (by decide) (by decide) rfl rfl (by decide) (by decide) (lenOf pd_4 rfl) rfl (by first | decide | exact Nat.le_of_eq rfl) rfl at_362 rfl rfl ?_
                intro T778 h778 X778 qq778
                rw [show h778 = h769 from qq778] at X778
                refine own_icmp_ne X778 (pct := 372) (pc' := 368) at_365 rfl (by decide) (by decide) (fun hc => absurd hc (fun q => q (own_hm_3_3 s0 s1 s2 u3 hs1 hs2 (by omega) (by omega) (by omega)))) (fun _ => ?_)
                refine own_iconst X778 (v := (1 : Int32)) (pc' := 369) at_368 rfl (by decide) ?_
                refine own_goto X778 (pc' := 373) at_369 (by decide) (by decide) ?_
                subst hΦ
                exact own_retZ X778 at_373 (by decide) (by decide) (by decide) rfl trivial
            · rw [e696_2] at F696_n
              refine own_aload X695 (pc' := 284) at_282 rfl rfl rfl ?_
              refine own_aload X695 (pc' := 286) at_284 rfl rfl rfl ?_
              refine own_iconst X695 (v := (2 : Int32)) (pc' := 287) at_286 rfl (by decide) ?_
              refine own_iaload X695 (v := u2) (pc' := 288) A699 rfl rfl at_287 rfl ?_
              refine own_callV X695 (W := 0) (a := ad509) (argsL := [(.int u2)]) (rest := []) (S' := [(.int (own_hd [] u2))]) (pc' := 291) (rm5_33 l Z a0 hw n0 ad509 u2 h695 X695.size ad462 s0 s1 s2 ⟨Ex696, F696_d, F696_n⟩ A698 ge_ad509 ne_ad462_ad509) Ex696 (hw _ (List.mem_of_getElem? (i := 19) rfl)) (hw _ (List.mem_of_getElem? (i := 20) rfl)) (hw _ (List.mem_of_getElem? (i := 22) rfl)) (hw _ (List.mem_of_getElem? (i := 21) rfl)) (hw _ (List.mem_of_getElem? (i := 10) rfl)) (hw _ (List.mem_of_getElem? (i := 23) rfl)) (by decide) (by decide) (by decide) rfl rfl (by decide) (by decide) (lenOf pd_3 rfl) rfl (by first | decide | exact Nat.le_of_eq rfl) rfl at_288 rfl rfl ?_
              intro T779 h779 X779 qq779
              obtain ⟨⟨Ex780, F780_d, F780_n⟩, K780⟩ := qq779
              have A781 := A697.keep K780 (ninS ne_ad4_ad509 nin0)
              have A782 := A698.keep K780 (ninS ne_ad462_ad509 nin0)
              have A783 := A699.keep K780 (ninS ne_ad470_ad509 nin0)
              have Ex784 := Ex696.keep K780
              refine own_istore X779 (pc' := 293) (Ls' := #[.val (.int x0), .val (.int x1), .val (.int x2), .val (.int sel), .val (.int pp), .val (.int rr), .val (.ref ad4), .val (.int (3 : Int32)), .val (.ref ad462), .val (.ref ad470), .val (.ref ad509), .val (.int (own_hd [s0, s1, s2] u0)), .val (.int (own_hd [s1, s2] u1)), .val (.int (own_hd [] u2)), .unset]) at_291 rfl rfl ?_
              have e780_0 := own_nc_3_3 0 u2
              rw [e780_0] at F780_n
              refine own_aload X779 (pc' := 295) at_293 rfl rfl rfl ?_
              refine own_aload X779 (pc' := 297) at_295 rfl rfl rfl ?_
              refine own_iconst X779 (v := (3 : Int32)) (pc' := 298) at_297 rfl (by decide) ?_
              refine own_iaload X779 (v := u3) (pc' := 299) A783 rfl rfl at_298 rfl ?_
              refine own_callV X779 (W := 0) (a := ad509) (argsL := [(.int u3)]) (rest := []) (S' := [(.int (own_hd [] u3))]) (pc' := 302) (rm5_33 l Z a0 hw n0 ad509 u3 h779 X779.size ad462 s0 s1 s2 ⟨Ex780, F780_d, F780_n⟩ A782 ge_ad509 ne_ad462_ad509) Ex780 (hw _ (List.mem_of_getElem? (i := 19) rfl)) (hw _ (List.mem_of_getElem? (i := 20) rfl)) (hw _ (List.mem_of_getElem? (i := 22) rfl)) (hw _ (List.mem_of_getElem? (i := 21) rfl)) (hw _ (List.mem_of_getElem? (i := 10) rfl)) (hw _ (List.mem_of_getElem? (i := 23) rfl)) (by decide) (by decide) (by decide) rfl rfl (by decide) (by decide) (lenOf pd_3 rfl) rfl (by first | decide | exact Nat.le_of_eq rfl) rfl at_299 rfl rfl ?_
              intro T785 h785 X785 qq785
              obtain ⟨⟨Ex786, F786_d, F786_n⟩, K786⟩ := qq785
              have A787 := A781.keep K786 (ninS ne_ad4_ad509 nin0)
              have A788 := A782.keep K786 (ninS ne_ad462_ad509 nin0)
              have A789 := A783.keep K786 (ninS ne_ad470_ad509 nin0)
              have Ex790 := Ex780.keep K786
              refine own_istore X785 (pc' := 304) (Ls' := #[.val (.int x0), .val (.int x1), .val (.int x2), .val (.int sel), .val (.int pp), .val (.int rr), .val (.ref ad4), .val (.int (3 : Int32)), .val (.ref ad462), .val (.ref ad470), .val (.ref ad509), .val (.int (own_hd [s0, s1, s2] u0)), .val (.int (own_hd [s1, s2] u1)), .val (.int (own_hd [] u2)), .val (.int (own_hd [] u3))]) at_302 rfl rfl ?_
              have e786_0 := own_nc_3_3 0 u3
              rw [e786_0] at F786_n
              refine own_iload X785 (pc' := 306) at_304 rfl rfl ?_
              refine own_aload X785 (pc' := 308) at_306 rfl rfl rfl ?_
              refine own_iload X785 (pc' := 310) at_308 rfl rfl ?_
              refine own_aload X785 (pc' := 312) at_310 rfl rfl rfl ?_
              refine own_iconst X785 (v := (0 : Int32)) (pc' := 313) at_312 rfl (by decide) ?_
              refine own_iaload X785 (v := u0) (pc' := 314) A789 rfl rfl at_313 rfl ?_
              refine own_callS X785 (W := 1) (argsL := [(.ref ad4), (.int (3 : Int32)), (.int u0)]) (rest := [(.int (own_hd [s0, s1, s2] u0))]) (S' := [(.int (own_mb [s0, s1, s2] u0)), (.int (own_hd [s0, s1, s2] u0))]) (pc' := 317) (rm6_3 l Z a0 hw n0 ad4 u0 h785 X785.size s0 s1 s2 A787) (hw _ (List.mem_of_getElem? (i := 26) rfl)) (hw _ (List.mem_of_getElem? (i := 27) rfl)) (hw _ (List.mem_of_getElem? (i := 3) rfl)) (hw _ (List.mem_of_getElem? (i := 28) rfl)) (by decide) (by decide) (by decide) rfl rfl (by decide) (by decide) (lenOf pd_4 rfl) rfl (by first | decide | exact Nat.le_of_eq rfl) rfl at_314 rfl rfl ?_
              intro T791 h791 X791 qq791
              rw [show h791 = h785 from qq791] at X791
              refine own_icmp_ne X791 (pct := 372) (pc' := 320) at_317 rfl (by decide) (by decide) (fun hc => absurd hc (fun q => q (own_hm_3_0 s0 s1 s2 u0 hs1 hs2 ))) (fun _ => ?_)
              refine own_iload X791 (pc' := 322) at_320 rfl rfl ?_
              refine own_aload X791 (pc' := 324) at_322 rfl rfl rfl ?_
              refine own_iload X791 (pc' := 326) at_324 rfl rfl ?_
              refine own_aload X791 (pc' := 328) at_326 rfl rfl rfl ?_
              refine own_iconst X791 (v := (1 : Int32)) (pc' := 329) at_328 rfl (by decide) ?_
              refine own_iaload X791 (v := u1) (pc' := 330) A789 rfl rfl at_329 rfl ?_
              refine own_callS X791 (W := 1) (argsL := [(.ref ad4), (.int (3 : Int32)), (.int u1)]) (rest := [(.int (own_hd [s1, s2] u1))]) (S' := [(.int (own_mb [s0, s1, s2] u1)), (.int (own_hd [s1, s2] u1))]) (pc' := 333) (rm6_3 l Z a0 hw n0 ad4 u1 h785 X791.size s0 s1 s2 A787) (hw _ (List.mem_of_getElem? (i := 26) rfl)) (hw _ (List.mem_of_getElem? (i := 27) rfl)) (hw _ (List.mem_of_getElem? (i := 3) rfl)) (hw _ (List.mem_of_getElem? (i := 28) rfl)) (by decide) (by decide) (by decide) rfl rfl (by decide) (by decide) (lenOf pd_4 rfl) rfl (by first | decide | exact Nat.le_of_eq rfl) rfl at_330 rfl rfl ?_
              intro T792 h792 X792 qq792
              rw [show h792 = h785 from qq792] at X792
              refine own_icmp_ne X792 (pct := 372) (pc' := 336) at_333 rfl (by decide) (by decide) (fun hc => absurd hc (fun q => q (own_hm_3_1 s0 s1 s2 u1 hs1 hs2 (by omega)))) (fun _ => ?_)
              refine own_iload X792 (pc' := 338) at_336 rfl rfl ?_
              refine own_aload X792 (pc' := 340) at_338 rfl rfl rfl ?_
              refine own_iload X792 (pc' := 342) at_340 rfl rfl ?_
              refine own_aload X792 (pc' := 344) at_342 rfl rfl rfl ?_
              refine own_iconst X792 (v := (2 : Int32)) (pc' := 345) at_344 rfl (by decide) ?_
              refine own_iaload X792 (v := u2) (pc' := 346) A789 rfl rfl at_345 rfl ?_
              refine own_callS X792 (W := 1) (argsL := [(.ref ad4), (.int (3 : Int32)), (.int u2)]) (rest := [(.int (own_hd [] u2))]) (S' := [(.int (own_mb [s0, s1, s2] u2)), (.int (own_hd [] u2))]) (pc' := 349) (rm6_3 l Z a0 hw n0 ad4 u2 h785 X792.size s0 s1 s2 A787) (hw _ (List.mem_of_getElem? (i := 26) rfl)) (hw _ (List.mem_of_getElem? (i := 27) rfl)) (hw _ (List.mem_of_getElem? (i := 3) rfl)) (hw _ (List.mem_of_getElem? (i := 28) rfl)) (by decide) (by decide) (by decide) rfl rfl (by decide) (by decide) (lenOf pd_4 rfl) rfl (by first | decide | exact Nat.le_of_eq rfl) rfl at_346 rfl rfl ?_
              intro T793 h793 X793 qq793
              rw [show h793 = h785 from qq793] at X793
              refine own_icmp_ne X793 (pct := 372) (pc' := 352) at_349 rfl (by decide) (by decide) (fun hc => absurd hc (fun q => q (own_hm_3_3 s0 s1 s2 u2 hs1 hs2 (by omega) (by omega) (by omega)))) (fun _ => ?_)
              refine own_iload X793 (pc' := 354) at_352 rfl rfl ?_
              refine own_aload X793 (pc' := 356) at_354 rfl rfl rfl ?_
              refine own_iload X793 (pc' := 358) at_356 rfl rfl ?_
              refine own_aload X793 (pc' := 360) at_358 rfl rfl rfl ?_
              refine own_iconst X793 (v := (3 : Int32)) (pc' := 361) at_360 rfl (by decide) ?_
              refine own_iaload X793 (v := u3) (pc' := 362) A789 rfl rfl at_361 rfl ?_
              refine own_callS X793 (W := 1) (argsL := [(.ref ad4), (.int (3 : Int32)), (.int u3)]) (rest := [(.int (own_hd [] u3))]) (S' := [(.int (own_mb [s0, s1, s2] u3)), (.int (own_hd [] u3))]) (pc' := 365) (rm6_3 l Z a0 hw n0 ad4 u3 h785 X793.size s0 s1 s2 A787) (hw _ (List.mem_of_getElem? (i := 26) rfl)) (hw _ (List.mem_of_getElem? (i := 27) rfl)) (hw _ (List.mem_of_getElem? (i := 3) rfl)) (hw _ (List.mem_of_getElem? (i := 28) rfl)) (by decide) (by decide) (by decide) rfl rfl (by decide) (by decide) (lenOf pd_4 rfl) rfl (by first | decide | exact Nat.le_of_eq rfl) rfl at_362 rfl rfl ?_
              intro T794 h794 X794 qq794
              rw [show h794 = h785 from qq794] at X794
              refine own_icmp_ne X794 (pct := 372) (pc' := 368) at_365 rfl (by decide) (by decide) (fun hc => absurd hc (fun q => q (own_hm_3_3 s0 s1 s2 u3 hs1 hs2 (by omega) (by omega) (by omega)))) (fun _ => ?_)
              refine own_iconst X794 (v := (1 : Int32)) (pc' := 369) at_368 rfl (by decide) ?_
              refine own_goto X794 (pc' := 373) at_369 (by decide) (by decide) ?_
              subst hΦ
              exact own_retZ X794 at_373 (by decide) (by decide) (by decide) rfl trivial
          · rw [e520_2] at F520_n
            refine own_aload X519 (pc' := 273) at_271 rfl rfl rfl ?_
            refine own_aload X519 (pc' := 275) at_273 rfl rfl rfl ?_
            refine own_iconst X519 (v := (1 : Int32)) (pc' := 276) at_275 rfl (by decide) ?_
            refine own_iaload X519 (v := u1) (pc' := 277) A523 rfl rfl at_276 rfl ?_
            refine own_callV X519 (W := 0) (a := ad509) (argsL := [(.int u1)]) (rest := []) (S' := [(.int (own_hd [s2] u1))]) (pc' := 280) (rm5_32 l Z a0 hw n0 ad509 u1 h519 X519.size ad462 s0 s1 s2 ⟨Ex520, F520_d, F520_n⟩ A522 ge_ad509 ne_ad462_ad509) Ex520 (hw _ (List.mem_of_getElem? (i := 19) rfl)) (hw _ (List.mem_of_getElem? (i := 20) rfl)) (hw _ (List.mem_of_getElem? (i := 22) rfl)) (hw _ (List.mem_of_getElem? (i := 21) rfl)) (hw _ (List.mem_of_getElem? (i := 10) rfl)) (hw _ (List.mem_of_getElem? (i := 23) rfl)) (by decide) (by decide) (by decide) rfl rfl (by decide) (by decide) (lenOf pd_3 rfl) rfl (by first | decide | exact Nat.le_of_eq rfl) rfl at_277 rfl rfl ?_
            intro T795 h795 X795 qq795
            obtain ⟨⟨Ex796, F796_d, F796_n⟩, K796⟩ := qq795
            have A797 := A521.keep K796 (ninS ne_ad4_ad509 nin0)
            have A798 := A522.keep K796 (ninS ne_ad462_ad509 nin0)
            have A799 := A523.keep K796 (ninS ne_ad470_ad509 nin0)
            have Ex800 := Ex520.keep K796
            refine own_istore X795 (pc' := 282) (Ls' := #[.val (.int x0), .val (.int x1), .val (.int x2), .val (.int sel), .val (.int pp), .val (.int rr), .val (.ref ad4), .val (.int (3 : Int32)), .val (.ref ad462), .val (.ref ad470), .val (.ref ad509), .val (.int (own_hd [s0, s1, s2] u0)), .val (.int (own_hd [s2] u1)), .unset, .unset]) at_280 rfl rfl ?_
            rcases own_nc_3_2 s2 u1 with e796_0 | ⟨e796_1, f796_1_0⟩
            · rw [e796_0] at F796_n
              refine own_aload X795 (pc' := 284) at_282 rfl rfl rfl ?_
              refine own_aload X795 (pc' := 286) at_284 rfl rfl rfl ?_
              refine own_iconst X795 (v := (2 : Int32)) (pc' := 287) at_286 rfl (by decide) ?_
              refine own_iaload X795 (v := u2) (pc' := 288) A799 rfl rfl at_287 rfl ?_
              refine own_callV X795 (W := 0) (a := ad509) (argsL := [(.int u2)]) (rest := []) (S' := [(.int (own_hd [s2] u2))]) (pc' := 291) (rm5_32 l Z a0 hw n0 ad509 u2 h795 X795.size ad462 s0 s1 s2 ⟨Ex796, F796_d, F796_n⟩ A798 ge_ad509 ne_ad462_ad509) Ex796 (hw _ (List.mem_of_getElem? (i := 19) rfl)) (hw _ (List.mem_of_getElem? (i := 20) rfl)) (hw _ (List.mem_of_getElem? (i := 22) rfl)) (hw _ (List.mem_of_getElem? (i := 21) rfl)) (hw _ (List.mem_of_getElem? (i := 10) rfl)) (hw _ (List.mem_of_getElem? (i := 23) rfl)) (by decide) (by decide) (by decide) rfl rfl (by decide) (by decide) (lenOf pd_3 rfl) rfl (by first | decide | exact Nat.le_of_eq rfl) rfl at_288 rfl rfl ?_
              intro T801 h801 X801 qq801
              obtain ⟨⟨Ex802, F802_d, F802_n⟩, K802⟩ := qq801
              have A803 := A797.keep K802 (ninS ne_ad4_ad509 nin0)
              have A804 := A798.keep K802 (ninS ne_ad462_ad509 nin0)
              have A805 := A799.keep K802 (ninS ne_ad470_ad509 nin0)
              have Ex806 := Ex796.keep K802
              refine own_istore X801 (pc' := 293) (Ls' := #[.val (.int x0), .val (.int x1), .val (.int x2), .val (.int sel), .val (.int pp), .val (.int rr), .val (.ref ad4), .val (.int (3 : Int32)), .val (.ref ad462), .val (.ref ad470), .val (.ref ad509), .val (.int (own_hd [s0, s1, s2] u0)), .val (.int (own_hd [s2] u1)), .val (.int (own_hd [s2] u2)), .unset]) at_291 rfl rfl ?_
              rcases own_nc_3_2 s2 u2 with e802_0 | ⟨e802_1, f802_1_0⟩
              · rw [e802_0] at F802_n
                refine own_aload X801 (pc' := 295) at_293 rfl rfl rfl ?_
                refine own_aload X801 (pc' := 297) at_295 rfl rfl rfl ?_
                refine own_iconst X801 (v := (3 : Int32)) (pc' := 298) at_297 rfl (by decide) ?_
                refine own_iaload X801 (v := u3) (pc' := 299) A805 rfl rfl at_298 rfl ?_
                refine own_callV X801 (W := 0) (a := ad509) (argsL := [(.int u3)]) (rest := []) (S' := [(.int (own_hd [s2] u3))]) (pc' := 302) (rm5_32 l Z a0 hw n0 ad509 u3 h801 X801.size ad462 s0 s1 s2 ⟨Ex802, F802_d, F802_n⟩ A804 ge_ad509 ne_ad462_ad509) Ex802 (hw _ (List.mem_of_getElem? (i := 19) rfl)) (hw _ (List.mem_of_getElem? (i := 20) rfl)) (hw _ (List.mem_of_getElem? (i := 22) rfl)) (hw _ (List.mem_of_getElem? (i := 21) rfl)) (hw _ (List.mem_of_getElem? (i := 10) rfl)) (hw _ (List.mem_of_getElem? (i := 23) rfl)) (by decide) (by decide) (by decide) rfl rfl (by decide) (by decide) (lenOf pd_3 rfl) rfl (by first | decide | exact Nat.le_of_eq rfl) rfl at_299 rfl rfl ?_
                intro T807 h807 X807 qq807
                obtain ⟨⟨Ex808, F808_d, F808_n⟩, K808⟩ := qq807
                have A809 := A803.keep K808 (ninS ne_ad4_ad509 nin0)
                have A810 := A804.keep K808 (ninS ne_ad462_ad509 nin0)
                have A811 := A805.keep K808 (ninS ne_ad470_ad509 nin0)
                have Ex812 := Ex802.keep K808
                refine own_istore X807 (pc' := 304) (Ls' := #[.val (.int x0), .val (.int x1), .val (.int x2), .val (.int sel), .val (.int pp), .val (.int rr), .val (.ref ad4), .val (.int (3 : Int32)), .val (.ref ad462), .val (.ref ad470), .val (.ref ad509), .val (.int (own_hd [s0, s1, s2] u0)), .val (.int (own_hd [s2] u1)), .val (.int (own_hd [s2] u2)), .val (.int (own_hd [s2] u3))]) at_302 rfl rfl ?_
                rcases own_nc_3_2 s2 u3 with e808_0 | ⟨e808_1, f808_1_0⟩
                · rw [e808_0] at F808_n
                  refine own_iload X807 (pc' := 306) at_304 rfl rfl ?_
                  refine own_aload X807 (pc' := 308) at_306 rfl rfl rfl ?_
                  refine own_iload X807 (pc' := 310) at_308 rfl rfl ?_
                  refine own_aload X807 (pc' := 312) at_310 rfl rfl rfl ?_
                  refine own_iconst X807 (v := (0 : Int32)) (pc' := 313) at_312 rfl (by decide) ?_
                  refine own_iaload X807 (v := u0) (pc' := 314) A811 rfl rfl at_313 rfl ?_
                  refine own_callS X807 (W := 1) (argsL := [(.ref ad4), (.int (3 : Int32)), (.int u0)]) (rest := [(.int (own_hd [s0, s1, s2] u0))]) (S' := [(.int (own_mb [s0, s1, s2] u0)), (.int (own_hd [s0, s1, s2] u0))]) (pc' := 317) (rm6_3 l Z a0 hw n0 ad4 u0 h807 X807.size s0 s1 s2 A809) (hw _ (List.mem_of_getElem? (i := 26) rfl)) (hw _ (List.mem_of_getElem? (i := 27) rfl)) (hw _ (List.mem_of_getElem? (i := 3) rfl)) (hw _ (List.mem_of_getElem? (i := 28) rfl)) (by decide) (by decide) (by decide) rfl rfl (by decide) (by decide) (lenOf pd_4 rfl) rfl (by first | decide | exact Nat.le_of_eq rfl) rfl at_314 rfl rfl ?_
                  intro T813 h813 X813 qq813
                  rw [show h813 = h807 from qq813] at X813
                  refine own_icmp_ne X813 (pct := 372) (pc' := 320) at_317 rfl (by decide) (by decide) (fun hc => absurd hc (fun q => q (own_hm_3_0 s0 s1 s2 u0 hs1 hs2 ))) (fun _ => ?_)
                  refine own_iload X813 (pc' := 322) at_320 rfl rfl ?_
                  refine own_aload X813 (pc' := 324) at_322 rfl rfl rfl ?_
                  refine own_iload X813 (pc' := 326) at_324 rfl rfl ?_
                  refine own_aload X813 (pc' := 328) at_326 rfl rfl rfl ?_
                  refine own_iconst X813 (v := (1 : Int32)) (pc' := 329) at_328 rfl (by decide) ?_
                  refine own_iaload X813 (v := u1) (pc' := 330) A811 rfl rfl at_329 rfl ?_
                  refine own_callS X813 (W := 1) (argsL := [(.ref ad4), (.int (3 : Int32)), (.int u1)]) (rest := [(.int (own_hd [s2] u1))]) (S' := [(.int (own_mb [s0, s1, s2] u1)), (.int (own_hd [s2] u1))]) (pc' := 333) (rm6_3 l Z a0 hw n0 ad4 u1 h807 X813.size s0 s1 s2 A809) (hw _ (List.mem_of_getElem? (i := 26) rfl)) (hw _ (List.mem_of_getElem? (i := 27) rfl)) (hw _ (List.mem_of_getElem? (i := 3) rfl)) (hw _ (List.mem_of_getElem? (i := 28) rfl)) (by decide) (by decide) (by decide) rfl rfl (by decide) (by decide) (lenOf pd_4 rfl) rfl (by first | decide | exact Nat.le_of_eq rfl) rfl at_330 rfl rfl ?_
                  intro T814 h814 X814 qq814
                  rw [show h814 = h807 from qq814] at X814
                  refine own_icmp_ne X814 (pct := 372) (pc' := 336) at_333 rfl (by decide) (by decide) (fun hc => absurd hc (fun q => q (own_hm_3_2 s0 s1 s2 u1 hs1 hs2 (by omega) (by omega)))) (fun _ => ?_)
                  refine own_iload X814 (pc' := 338) at_336 rfl rfl ?_
                  refine own_aload X814 (pc' := 340) at_338 rfl rfl rfl ?_
                  refine own_iload X814 (pc' := 342) at_340 rfl rfl ?_
                  refine own_aload X814 (pc' := 344) at_342 rfl rfl rfl ?_
                  refine own_iconst X814 (v := (2 : Int32)) (pc' := 345) at_344 rfl (by decide) ?_
                  refine own_iaload X814 (v := u2) (pc' := 346) A811 rfl rfl at_345 rfl ?_
                  refine own_callS X814 (W := 1) (argsL := [(.ref ad4), (.int (3 : Int32)), (.int u2)]) (rest := [(.int (own_hd [s2] u2))]) (S' := [(.int (own_mb [s0, s1, s2] u2)), (.int (own_hd [s2] u2))]) (pc' := 349) (rm6_3 l Z a0 hw n0 ad4 u2 h807 X814.size s0 s1 s2 A809) (hw _ (List.mem_of_getElem? (i := 26) rfl)) (hw _ (List.mem_of_getElem? (i := 27) rfl)) (hw _ (List.mem_of_getElem? (i := 3) rfl)) (hw _ (List.mem_of_getElem? (i := 28) rfl)) (by decide) (by decide) (by decide) rfl rfl (by decide) (by decide) (lenOf pd_4 rfl) rfl (by first | decide | exact Nat.le_of_eq rfl) rfl at_346 rfl rfl ?_
                  intro T815 h815 X815 qq815
                  rw [show h815 = h807 from qq815] at X815
                  refine own_icmp_ne X815 (pct := 372) (pc' := 352) at_349 rfl (by decide) (by decide) (fun hc => absurd hc (fun q => q (own_hm_3_2 s0 s1 s2 u2 hs1 hs2 (by omega) (by omega)))) (fun _ => ?_)
                  refine own_iload X815 (pc' := 354) at_352 rfl rfl ?_
                  refine own_aload X815 (pc' := 356) at_354 rfl rfl rfl ?_
                  refine own_iload X815 (pc' := 358) at_356 rfl rfl ?_
                  refine own_aload X815 (pc' := 360) at_358 rfl rfl rfl ?_
                  refine own_iconst X815 (v := (3 : Int32)) (pc' := 361) at_360 rfl (by decide) ?_
                  refine own_iaload X815 (v := u3) (pc' := 362) A811 rfl rfl at_361 rfl ?_
                  refine own_callS X815 (W := 1) (argsL := [(.ref ad4), (.int (3 : Int32)), (.int u3)]) (rest := [(.int (own_hd [s2] u3))]) (S' := [(.int (own_mb [s0, s1, s2] u3)), (.int (own_hd [s2] u3))]) (pc' := 365) (rm6_3 l Z a0 hw n0 ad4 u3 h807 X815.size s0 s1 s2 A809) (hw _ (List.mem_of_getElem? (i := 26) rfl)) (hw _ (List.mem_of_getElem? (i := 27) rfl)) (hw _ (List.mem_of_getElem? (i := 3) rfl)) (hw _ (List.mem_of_getElem? (i := 28) rfl)) (by decide) (by decide) (by decide) rfl rfl (by decide) (by decide) (lenOf pd_4 rfl) rfl (by first | decide | exact Nat.le_of_eq rfl) rfl at_362 rfl rfl ?_
                  intro T816 h816 X816 qq816
                  rw [show h816 = h807 from qq816] at X816
                  refine own_icmp_ne X816 (pct := 372) (pc' := 368) at_365 rfl (by decide) (by decide) (fun hc => absurd hc (fun q => q (own_hm_3_2 s0 s1 s2 u3 hs1 hs2 (by omega) (by omega)))) (fun _ => ?_)
                  refine own_iconst X816 (v := (1 : Int32)) (pc' := 369) at_368 rfl (by decide) ?_
                  refine own_goto X816 (pc' := 373) at_369 (by decide) (by decide) ?_
                  subst hΦ
                  exact own_retZ X816 at_373 (by decide) (by decide) (by decide) rfl trivial
                · rw [e808_1] at F808_n
                  refine own_iload X807 (pc' := 306) at_304 rfl rfl ?_
                  refine own_aload X807 (pc' := 308) at_306 rfl rfl rfl ?_
                  refine own_iload X807 (pc' := 310) at_308 rfl rfl ?_
                  refine own_aload X807 (pc' := 312) at_310 rfl rfl rfl ?_
                  refine own_iconst X807 (v := (0 : Int32)) (pc' := 313) at_312 rfl (by decide) ?_
                  refine own_iaload X807 (v := u0) (pc' := 314) A811 rfl rfl at_313 rfl ?_
                  refine own_callS X807 (W := 1) (argsL := [(.ref ad4), (.int (3 : Int32)), (.int u0)]) (rest := [(.int (own_hd [s0, s1, s2] u0))]) (S' := [(.int (own_mb [s0, s1, s2] u0)), (.int (own_hd [s0, s1, s2] u0))]) (pc' := 317) (rm6_3 l Z a0 hw n0 ad4 u0 h807 X807.size s0 s1 s2 A809) (hw _ (List.mem_of_getElem? (i := 26) rfl)) (hw _ (List.mem_of_getElem? (i := 27) rfl)) (hw _ (List.mem_of_getElem? (i := 3) rfl)) (hw _ (List.mem_of_getElem? (i := 28) rfl)) (by decide) (by decide) (by decide) rfl rfl (by decide) (by decide) (lenOf pd_4 rfl) rfl (by first | decide | exact Nat.le_of_eq rfl) rfl at_314 rfl rfl ?_
                  intro T817 h817 X817 qq817
                  rw [show h817 = h807 from qq817] at X817
                  refine own_icmp_ne X817 (pct := 372) (pc' := 320) at_317 rfl (by decide) (by decide) (fun hc => absurd hc (fun q => q (own_hm_3_0 s0 s1 s2 u0 hs1 hs2 ))) (fun _ => ?_)
                  refine own_iload X817 (pc' := 322) at_320 rfl rfl ?_
                  refine own_aload X817 (pc' := 324) at_322 rfl rfl rfl ?_
                  refine own_iload X817 (pc' := 326) at_324 rfl rfl ?_
                  refine own_aload X817 (pc' := 328) at_326 rfl rfl rfl ?_
                  refine own_iconst X817 (v := (1 : Int32)) (pc' := 329) at_328 rfl (by decide) ?_
                  refine own_iaload X817 (v := u1) (pc' := 330) A811 rfl rfl at_329 rfl ?_
                  refine own_callS X817 (W := 1) (argsL := [(.ref ad4), (.int (3 : Int32)), (.int u1)]) (rest := [(.int (own_hd [s2] u1))]) (S' := [(.int (own_mb [s0, s1, s2] u1)), (.int (own_hd [s2] u1))]) (pc' := 333) (rm6_3 l Z a0 hw n0 ad4 u1 h807 X817.size s0 s1 s2 A809) (hw _ (List.mem_of_getElem? (i := 26) rfl)) (hw _ (List.mem_of_getElem? (i := 27) rfl)) (hw _ (List.mem_of_getElem? (i := 3) rfl)) (hw _ (List.mem_of_getElem? (i := 28) rfl)) (by decide) (by decide) (by decide) rfl rfl (by decide) (by decide) (lenOf pd_4 rfl) rfl (by first | decide | exact Nat.le_of_eq rfl) rfl at_330 rfl rfl ?_
                  intro T818 h818 X818 qq818
                  rw [show h818 = h807 from qq818] at X818
                  refine own_icmp_ne X818 (pct := 372) (pc' := 336) at_333 rfl (by decide) (by decide) (fun hc => absurd hc (fun q => q (own_hm_3_2 s0 s1 s2 u1 hs1 hs2 (by omega) (by omega)))) (fun _ => ?_)
                  refine own_iload X818 (pc' := 338) at_336 rfl rfl ?_
                  refine own_aload X818 (pc' := 340) at_338 rfl rfl rfl ?_
                  refine own_iload X818 (pc' := 342) at_340 rfl rfl ?_
                  refine own_aload X818 (pc' := 344) at_342 rfl rfl rfl ?_
                  refine own_iconst X818 (v := (2 : Int32)) (pc' := 345) at_344 rfl (by decide) ?_
                  refine own_iaload X818 (v := u2) (pc' := 346) A811 rfl rfl at_345 rfl ?_
                  refine own_callS X818 (W := 1) (argsL := [(.ref ad4), (.int (3 : Int32)), (.int u2)]) (rest := [(.int (own_hd [s2] u2))]) (S' := [(.int (own_mb [s0, s1, s2] u2)), (.int (own_hd [s2] u2))]) (pc' := 349) (rm6_3 l Z a0 hw n0 ad4 u2 h807 X818.size s0 s1 s2 A809) (hw _ (List.mem_of_getElem? (i := 26) rfl)) (hw _ (List.mem_of_getElem? (i := 27) rfl)) (hw _ (List.mem_of_getElem? (i := 3) rfl)) (hw _ (List.mem_of_getElem? (i := 28) rfl)) (by decide) (by decide) (by decide) rfl rfl (by decide) (by decide) (lenOf pd_4 rfl) rfl (by first | decide | exact Nat.le_of_eq rfl) rfl at_346 rfl rfl ?_
                  intro T819 h819 X819 qq819
                  rw [show h819 = h807 from qq819] at X819
                  refine own_icmp_ne X819 (pct := 372) (pc' := 352) at_349 rfl (by decide) (by decide) (fun hc => absurd hc (fun q => q (own_hm_3_2 s0 s1 s2 u2 hs1 hs2 (by omega) (by omega)))) (fun _ => ?_)
                  refine own_iload X819 (pc' := 354) at_352 rfl rfl ?_
                  refine own_aload X819 (pc' := 356) at_354 rfl rfl rfl ?_
                  refine own_iload X819 (pc' := 358) at_356 rfl rfl ?_
                  refine own_aload X819 (pc' := 360) at_358 rfl rfl rfl ?_
                  refine own_iconst X819 (v := (3 : Int32)) (pc' := 361) at_360 rfl (by decide) ?_
                  refine own_iaload X819 (v := u3) (pc' := 362) A811 rfl rfl at_361 rfl ?_
                  refine own_callS X819 (W := 1) (argsL := [(.ref ad4), (.int (3 : Int32)), (.int u3)]) (rest := [(.int (own_hd [s2] u3))]) (S' := [(.int (own_mb [s0, s1, s2] u3)), (.int (own_hd [s2] u3))]) (pc' := 365) (rm6_3 l Z a0 hw n0 ad4 u3 h807 X819.size s0 s1 s2 A809) (hw _ (List.mem_of_getElem? (i := 26) rfl)) (hw _ (List.mem_of_getElem? (i := 27) rfl)) (hw _ (List.mem_of_getElem? (i := 3) rfl)) (hw _ (List.mem_of_getElem? (i := 28) rfl)) (by decide) (by decide) (by decide) rfl rfl (by decide) (by decide) (lenOf pd_4 rfl) rfl (by first | decide | exact Nat.le_of_eq rfl) rfl at_362 rfl rfl ?_
                  intro T820 h820 X820 qq820
                  rw [show h820 = h807 from qq820] at X820
                  refine own_icmp_ne X820 (pct := 372) (pc' := 368) at_365 rfl (by decide) (by decide) (fun hc => absurd hc (fun q => q (own_hm_3_2 s0 s1 s2 u3 hs1 hs2 (by omega) (by omega)))) (fun _ => ?_)
                  refine own_iconst X820 (v := (1 : Int32)) (pc' := 369) at_368 rfl (by decide) ?_
                  refine own_goto X820 (pc' := 373) at_369 (by decide) (by decide) ?_
                  subst hΦ
                  exact own_retZ X820 at_373 (by decide) (by decide) (by decide) rfl trivial
              · rw [e802_1] at F802_n
                refine own_aload X801 (pc' := 295) at_293 rfl rfl rfl ?_
                refine own_aload X801 (pc' := 297) at_295 rfl rfl rfl ?_
                refine own_iconst X801 (v := (3 : Int32)) (pc' := 298) at_297 rfl (by decide) ?_
                refine own_iaload X801 (v := u3) (pc' := 299) A805 rfl rfl at_298 rfl ?_
                refine own_callV X801 (W := 0) (a := ad509) (argsL := [(.int u3)]) (rest := []) (S' := [(.int (own_hd [] u3))]) (pc' := 302) (rm5_33 l Z a0 hw n0 ad509 u3 h801 X801.size ad462 s0 s1 s2 ⟨Ex802, F802_d, F802_n⟩ A804 ge_ad509 ne_ad462_ad509) Ex802 (hw _ (List.mem_of_getElem? (i := 19) rfl)) (hw _ (List.mem_of_getElem? (i := 20) rfl)) (hw _ (List.mem_of_getElem? (i := 22) rfl)) (hw _ (List.mem_of_getElem? (i := 21) rfl)) (hw _ (List.mem_of_getElem? (i := 10) rfl)) (hw _ (List.mem_of_getElem? (i := 23) rfl)) (by decide) (by decide) (by decide) rfl rfl (by decide) (by decide) (lenOf pd_3 rfl) rfl (by first | decide | exact Nat.le_of_eq rfl) rfl at_299 rfl rfl ?_
                intro T821 h821 X821 qq821
                obtain ⟨⟨Ex822, F822_d, F822_n⟩, K822⟩ := qq821
                have A823 := A803.keep K822 (ninS ne_ad4_ad509 nin0)
                have A824 := A804.keep K822 (ninS ne_ad462_ad509 nin0)
                have A825 := A805.keep K822 (ninS ne_ad470_ad509 nin0)
                have Ex826 := Ex802.keep K822
                refine own_istore X821 (pc' := 304) (Ls' := #[.val (.int x0), .val (.int x1), .val (.int x2), .val (.int sel), .val (.int pp), .val (.int rr), .val (.ref ad4), .val (.int (3 : Int32)), .val (.ref ad462), .val (.ref ad470), .val (.ref ad509), .val (.int (own_hd [s0, s1, s2] u0)), .val (.int (own_hd [s2] u1)), .val (.int (own_hd [s2] u2)), .val (.int (own_hd [] u3))]) at_302 rfl rfl ?_
                have e822_0 := own_nc_3_3 0 u3
                rw [e822_0] at F822_n
                refine own_iload X821 (pc' := 306) at_304 rfl rfl ?_
                refine own_aload X821 (pc' := 308) at_306 rfl rfl rfl ?_
                refine own_iload X821 (pc' := 310) at_308 rfl rfl ?_
                refine own_aload X821 (pc' := 312) at_310 rfl rfl rfl ?_
                refine own_iconst X821 (v := (0 : Int32)) (pc' := 313) at_312 rfl (by decide) ?_
                refine own_iaload X821 (v := u0) (pc' := 314) A825 rfl rfl at_313 rfl ?_
                refine own_callS X821 (W := 1) (argsL := [(.ref ad4), (.int (3 : Int32)), (.int u0)]) (rest := [(.int (own_hd [s0, s1, s2] u0))]) (S' := [(.int (own_mb [s0, s1, s2] u0)), (.int (own_hd [s0, s1, s2] u0))]) (pc' := 317) (rm6_3 l Z a0 hw n0 ad4 u0 h821 X821.size s0 s1 s2 A823) (hw _ (List.mem_of_getElem? (i := 26) rfl)) (hw _ (List.mem_of_getElem? (i := 27) rfl)) (hw _ (List.mem_of_getElem? (i := 3) rfl)) (hw _ (List.mem_of_getElem? (i := 28) rfl)) (by decide) (by decide) (by decide) rfl rfl (by decide) (by decide) (lenOf pd_4 rfl) rfl (by first | decide | exact Nat.le_of_eq rfl) rfl at_314 rfl rfl ?_
                intro T827 h827 X827 qq827
                rw [show h827 = h821 from qq827] at X827
                refine own_icmp_ne X827 (pct := 372) (pc' := 320) at_317 rfl (by decide) (by decide) (fun hc => absurd hc (fun q => q (own_hm_3_0 s0 s1 s2 u0 hs1 hs2 ))) (fun _ => ?_)
                refine own_iload X827 (pc' := 322) at_320 rfl rfl ?_
                refine own_aload X827 (pc' := 324) at_322 rfl rfl rfl ?_
                refine own_iload X827 (pc' := 326) at_324 rfl rfl ?_
                refine own_aload X827 (pc' := 328) at_326 rfl rfl rfl ?_
                refine own_iconst X827 (v := (1 : Int32)) (pc' := 329) at_328 rfl (by decide) ?_
                refine own_iaload X827 (v := u1) (pc' := 330) A825 rfl rfl at_329 rfl ?_
                refine own_callS X827 (W := 1) (argsL := [(.ref ad4), (.int (3 : Int32)), (.int u1)]) (rest := [(.int (own_hd [s2] u1))]) (S' := [(.int (own_mb [s0, s1, s2] u1)), (.int (own_hd [s2] u1))]) (pc' := 333) (rm6_3 l Z a0 hw n0 ad4 u1 h821 X827.size s0 s1 s2 A823) (hw _ (List.mem_of_getElem? (i := 26) rfl)) (hw _ (List.mem_of_getElem? (i := 27) rfl)) (hw _ (List.mem_of_getElem? (i := 3) rfl)) (hw _ (List.mem_of_getElem? (i := 28) rfl)) (by decide) (by decide) (by decide) rfl rfl (by decide) (by decide) (lenOf pd_4 rfl) rfl (by first | decide | exact Nat.le_of_eq rfl) rfl at_330 rfl rfl ?_
                intro T828 h828 X828 qq828
                rw [show h828 = h821 from qq828] at X828
                refine own_icmp_ne X828 (pct := 372) (pc' := 336) at_333 rfl (by decide) (by decide) (fun hc => absurd hc (fun q => q (own_hm_3_2 s0 s1 s2 u1 hs1 hs2 (by omega) (by omega)))) (fun _ => ?_)
                refine own_iload X828 (pc' := 338) at_336 rfl rfl ?_
                refine own_aload X828 (pc' := 340) at_338 rfl rfl rfl ?_
                refine own_iload X828 (pc' := 342) at_340 rfl rfl ?_
                refine own_aload X828 (pc' := 344) at_342 rfl rfl rfl ?_
                refine own_iconst X828 (v := (2 : Int32)) (pc' := 345) at_344 rfl (by decide) ?_
                refine own_iaload X828 (v := u2) (pc' := 346) A825 rfl rfl at_345 rfl ?_
                refine own_callS X828 (W := 1) (argsL := [(.ref ad4), (.int (3 : Int32)), (.int u2)]) (rest := [(.int (own_hd [s2] u2))]) (S' := [(.int (own_mb [s0, s1, s2] u2)), (.int (own_hd [s2] u2))]) (pc' := 349) (rm6_3 l Z a0 hw n0 ad4 u2 h821 X828.size s0 s1 s2 A823) (hw _ (List.mem_of_getElem? (i := 26) rfl)) (hw _ (List.mem_of_getElem? (i := 27) rfl)) (hw _ (List.mem_of_getElem? (i := 3) rfl)) (hw _ (List.mem_of_getElem? (i := 28) rfl)) (by decide) (by decide) (by decide) rfl rfl (by decide) (by decide) (lenOf pd_4 rfl) rfl (by first | decide | exact Nat.le_of_eq rfl) rfl at_346 rfl rfl ?_
                intro T829 h829 X829 qq829
                rw [show h829 = h821 from qq829] at X829
                refine own_icmp_ne X829 (pct := 372) (pc' := 352) at_349 rfl (by decide) (by decide) (fun hc => absurd hc (fun q => q (own_hm_3_2 s0 s1 s2 u2 hs1 hs2 (by omega) (by omega)))) (fun _ => ?_)
                refine own_iload X829 (pc' := 354) at_352 rfl rfl ?_
                refine own_aload X829 (pc' := 356) at_354 rfl rfl rfl ?_
                refine own_iload X829 (pc' := 358) at_356 rfl rfl ?_
                refine own_aload X829 (pc' := 360) at_358 rfl rfl rfl ?_
                refine own_iconst X829 (v := (3 : Int32)) (pc' := 361) at_360 rfl (by decide) ?_
                refine own_iaload X829 (v := u3) (pc' := 362) A825 rfl rfl at_361 rfl ?_
                refine own_callS X829 (W := 1) (argsL := [(.ref ad4), (.int (3 : Int32)), (.int u3)]) (rest := [(.int (own_hd [] u3))]) (S' := [(.int (own_mb [s0, s1, s2] u3)), (.int (own_hd [] u3))]) (pc' := 365) (rm6_3 l Z a0 hw n0 ad4 u3 h821 X829.size s0 s1 s2 A823) (hw _ (List.mem_of_getElem? (i := 26) rfl)) (hw _ (List.mem_of_getElem? (i := 27) rfl)) (hw _ (List.mem_of_getElem? (i := 3) rfl)) (hw _ (List.mem_of_getElem? (i := 28) rfl)) (by decide) (by decide) (by decide) rfl rfl (by decide) (by decide) (lenOf pd_4 rfl) rfl (by first | decide | exact Nat.le_of_eq rfl) rfl at_362 rfl rfl ?_
                intro T830 h830 X830 qq830
                rw [show h830 = h821 from qq830] at X830
                refine own_icmp_ne X830 (pct := 372) (pc' := 368) at_365 rfl (by decide) (by decide) (fun hc => absurd hc (fun q => q (own_hm_3_3 s0 s1 s2 u3 hs1 hs2 (by omega) (by omega) (by omega)))) (fun _ => ?_)
                refine own_iconst X830 (v := (1 : Int32)) (pc' := 369) at_368 rfl (by decide) ?_
                refine own_goto X830 (pc' := 373) at_369 (by decide) (by decide) ?_
                subst hΦ
                exact own_retZ X830 at_373 (by decide) (by decide) (by decide) rfl trivial
            · rw [e796_1] at F796_n
              refine own_aload X795 (pc' := 284) at_282 rfl rfl rfl ?_
              refine own_aload X795 (pc' := 286) at_284 rfl rfl rfl ?_
              refine own_iconst X795 (v := (2 : Int32)) (pc' := 287) at_286 rfl (by decide) ?_
              refine own_iaload X795 (v := u2) (pc' := 288) A799 rfl rfl at_287 rfl ?_
              refine own_callV X795 (W := 0) (a := ad509) (argsL := [(.int u2)]) (rest := []) (S' := [(.int (own_hd [] u2))]) (pc' := 291) (rm5_33 l Z a0 hw n0 ad509 u2 h795 X795.size ad462 s0 s1 s2 ⟨Ex796, F796_d, F796_n⟩ A798 ge_ad509 ne_ad462_ad509) Ex796 (hw _ (List.mem_of_getElem? (i := 19) rfl)) (hw _ (List.mem_of_getElem? (i := 20) rfl)) (hw _ (List.mem_of_getElem? (i := 22) rfl)) (hw _ (List.mem_of_getElem? (i := 21) rfl)) (hw _ (List.mem_of_getElem? (i := 10) rfl)) (hw _ (List.mem_of_getElem? (i := 23) rfl)) (by decide) (by decide) (by decide) rfl rfl (by decide) (by decide) (lenOf pd_3 rfl) rfl (by first | decide | exact Nat.le_of_eq rfl) rfl at_288 rfl rfl ?_
              intro T831 h831 X831 qq831
              obtain ⟨⟨Ex832, F832_d, F832_n⟩, K832⟩ := qq831
              have A833 := A797.keep K832 (ninS ne_ad4_ad509 nin0)
              have A834 := A798.keep K832 (ninS ne_ad462_ad509 nin0)
              have A835 := A799.keep K832 (ninS ne_ad470_ad509 nin0)
              have Ex836 := Ex796.keep K832
              refine own_istore X831 (pc' := 293) (Ls' := #[.val (.int x0), .val (.int x1), .val (.int x2), .val (.int sel), .val (.int pp), .val (.int rr), .val (.ref ad4), .val (.int (3 : Int32)), .val (.ref ad462), .val (.ref ad470), .val (.ref ad509), .val (.int (own_hd [s0, s1, s2] u0)), .val (.int (own_hd [s2] u1)), .val (.int (own_hd [] u2)), .unset]) at_291 rfl rfl ?_
              have e832_0 := own_nc_3_3 0 u2
              rw [e832_0] at F832_n
              refine own_aload X831 (pc' := 295) at_293 rfl rfl rfl ?_
              refine own_aload X831 (pc' := 297) at_295 rfl rfl rfl ?_
              refine own_iconst X831 (v := (3 : Int32)) (pc' := 298) at_297 rfl (by decide) ?_
              refine own_iaload X831 (v := u3) (pc' := 299) A835 rfl rfl at_298 rfl ?_
              refine own_callV X831 (W := 0) (a := ad509) (argsL := [(.int u3)]) (rest := []) (S' := [(.int (own_hd [] u3))]) (pc' := 302) (rm5_33 l Z a0 hw n0 ad509 u3 h831 X831.size ad462 s0 s1 s2 ⟨Ex832, F832_d, F832_n⟩ A834 ge_ad509 ne_ad462_ad509) Ex832 (hw _ (List.mem_of_getElem? (i := 19) rfl)) (hw _ (List.mem_of_getElem? (i := 20) rfl)) (hw _ (List.mem_of_getElem? (i := 22) rfl)) (hw _ (List.mem_of_getElem? (i := 21) rfl)) (hw _ (List.mem_of_getElem? (i := 10) rfl)) (hw _ (List.mem_of_getElem? (i := 23) rfl)) (by decide) (by decide) (by decide) rfl rfl (by decide) (by decide) (lenOf pd_3 rfl) rfl (by first | decide | exact Nat.le_of_eq rfl) rfl at_299 rfl rfl ?_
              intro T837 h837 X837 qq837
              obtain ⟨⟨Ex838, F838_d, F838_n⟩, K838⟩ := qq837
              have A839 := A833.keep K838 (ninS ne_ad4_ad509 nin0)
              have A840 := A834.keep K838 (ninS ne_ad462_ad509 nin0)
              have A841 := A835.keep K838 (ninS ne_ad470_ad509 nin0)
              have Ex842 := Ex832.keep K838
              refine own_istore X837 (pc' := 304) (Ls' := #[.val (.int x0), .val (.int x1), .val (.int x2), .val (.int sel), .val (.int pp), .val (.int rr), .val (.ref ad4), .val (.int (3 : Int32)), .val (.ref ad462), .val (.ref ad470), .val (.ref ad509), .val (.int (own_hd [s0, s1, s2] u0)), .val (.int (own_hd [s2] u1)), .val (.int (own_hd [] u2)), .val (.int (own_hd [] u3))]) at_302 rfl rfl ?_
              have e838_0 := own_nc_3_3 0 u3
              rw [e838_0] at F838_n
              refine own_iload X837 (pc' := 306) at_304 rfl rfl ?_
              refine own_aload X837 (pc' := 308) at_306 rfl rfl rfl ?_
              refine own_iload X837 (pc' := 310) at_308 rfl rfl ?_
              refine own_aload X837 (pc' := 312) at_310 rfl rfl rfl ?_
              refine own_iconst X837 (v := (0 : Int32)) (pc' := 313) at_312 rfl (by decide) ?_
              refine own_iaload X837 (v := u0) (pc' := 314) A841 rfl rfl at_313 rfl ?_
              refine own_callS X837 (W := 1) (argsL := [(.ref ad4), (.int (3 : Int32)), (.int u0)]) (rest := [(.int (own_hd [s0, s1, s2] u0))]) (S' := [(.int (own_mb [s0, s1, s2] u0)), (.int (own_hd [s0, s1, s2] u0))]) (pc' := 317) (rm6_3 l Z a0 hw n0 ad4 u0 h837 X837.size s0 s1 s2 A839) (hw _ (List.mem_of_getElem? (i := 26) rfl)) (hw _ (List.mem_of_getElem? (i := 27) rfl)) (hw _ (List.mem_of_getElem? (i := 3) rfl)) (hw _ (List.mem_of_getElem? (i := 28) rfl)) (by decide) (by decide) (by decide) rfl rfl (by decide) (by decide) (lenOf pd_4 rfl) rfl (by first | decide | exact Nat.le_of_eq rfl) rfl at_314 rfl rfl ?_
              intro T843 h843 X843 qq843
              rw [show h843 = h837 from qq843] at X843
              refine own_icmp_ne X843 (pct := 372) (pc' := 320) at_317 rfl (by decide) (by decide) (fun hc => absurd hc (fun q => q (own_hm_3_0 s0 s1 s2 u0 hs1 hs2 ))) (fun _ => ?_)
              refine own_iload X843 (pc' := 322) at_320 rfl rfl ?_
              refine own_aload X843 (pc' := 324) at_322 rfl rfl rfl ?_
              refine own_iload X843 (pc' := 326) at_324 rfl rfl ?_
              refine own_aload X843 (pc' := 328) at_326 rfl rfl rfl ?_
              refine own_iconst X843 (v := (1 : Int32)) (pc' := 329) at_328 rfl (by decide) ?_
              refine own_iaload X843 (v := u1) (pc' := 330) A841 rfl rfl at_329 rfl ?_
              refine own_callS X843 (W := 1) (argsL := [(.ref ad4), (.int (3 : Int32)), (.int u1)]) (rest := [(.int (own_hd [s2] u1))]) (S' := [(.int (own_mb [s0, s1, s2] u1)), (.int (own_hd [s2] u1))]) (pc' := 333) (rm6_3 l Z a0 hw n0 ad4 u1 h837 X843.size s0 s1 s2 A839) (hw _ (List.mem_of_getElem? (i := 26) rfl)) (hw _ (List.mem_of_getElem? (i := 27) rfl)) (hw _ (List.mem_of_getElem? (i := 3) rfl)) (hw _ (List.mem_of_getElem? (i := 28) rfl)) (by decide) (by decide) (by decide) rfl rfl (by decide) (by decide) (lenOf pd_4 rfl) rfl (by first | decide | exact Nat.le_of_eq rfl) rfl at_330 rfl rfl ?_
              intro T844 h844 X844 qq844
              rw [show h844 = h837 from qq844] at X844
              refine own_icmp_ne X844 (pct := 372) (pc' := 336) at_333 rfl (by decide) (by decide) (fun hc => absurd hc (fun q => q (own_hm_3_2 s0 s1 s2 u1 hs1 hs2 (by omega) (by omega)))) (fun _ => ?_)
              refine own_iload X844 (pc' := 338) at_336 rfl rfl ?_
              refine own_aload X844 (pc' := 340) at_338 rfl rfl rfl ?_
              refine own_iload X844 (pc' := 342) at_340 rfl rfl ?_
              refine own_aload X844 (pc' := 344) at_342 rfl rfl rfl ?_
              refine own_iconst X844 (v := (2 : Int32)) (pc' := 345) at_344 rfl (by decide) ?_
              refine own_iaload X844 (v := u2) (pc' := 346) A841 rfl rfl at_345 rfl ?_
              refine own_callS X844 (W := 1) (argsL := [(.ref ad4), (.int (3 : Int32)), (.int u2)]) (rest := [(.int (own_hd [] u2))]) (S' := [(.int (own_mb [s0, s1, s2] u2)), (.int (own_hd [] u2))]) (pc' := 349) (rm6_3 l Z a0 hw n0 ad4 u2 h837 X844.size s0 s1 s2 A839) (hw _ (List.mem_of_getElem? (i := 26) rfl)) (hw _ (List.mem_of_getElem? (i := 27) rfl)) (hw _ (List.mem_of_getElem? (i := 3) rfl)) (hw _ (List.mem_of_getElem? (i := 28) rfl)) (by decide) (by decide) (by decide) rfl rfl (by decide) (by decide) (lenOf pd_4 rfl) rfl (by first | decide | exact Nat.le_of_eq rfl) rfl at_346 rfl rfl ?_
              intro T845 h845 X845 qq845
              rw [show h845 = h837 from qq845] at X845
              refine own_icmp_ne X845 (pct := 372) (pc' := 352) at_349 rfl (by decide) (by decide) (fun hc => absurd hc (fun q => q (own_hm_3_3 s0 s1 s2 u2 hs1 hs2 (by omega) (by omega) (by omega)))) (fun _ => ?_)
              refine own_iload X845 (pc' := 354) at_352 rfl rfl ?_
              refine own_aload X845 (pc' := 356) at_354 rfl rfl rfl ?_
              refine own_iload X845 (pc' := 358) at_356 rfl rfl ?_
              refine own_aload X845 (pc' := 360) at_358 rfl rfl rfl ?_
              refine own_iconst X845 (v := (3 : Int32)) (pc' := 361) at_360 rfl (by decide) ?_
              refine own_iaload X845 (v := u3) (pc' := 362) A841 rfl rfl at_361 rfl ?_
              refine own_callS X845 (W := 1) (argsL := [(.ref ad4), (.int (3 : Int32)), (.int u3)]) (rest := [(.int (own_hd [] u3))]) (S' := [(.int (own_mb [s0, s1, s2] u3)), (.int (own_hd [] u3))]) (pc' := 365) (rm6_3 l Z a0 hw n0 ad4 u3 h837 X845.size s0 s1 s2 A839) (hw _ (List.mem_of_getElem? (i := 26) rfl)) (hw _ (List.mem_of_getElem? (i := 27) rfl)) (hw _ (List.mem_of_getElem? (i := 3) rfl)) (hw _ (List.mem_of_getElem? (i := 28) rfl)) (by decide) (by decide) (by decide) rfl rfl (by decide) (by decide) (lenOf pd_4 rfl) rfl (by first | decide | exact Nat.le_of_eq rfl) rfl at_362 rfl rfl ?_
              intro T846 h846 X846 qq846
              rw [show h846 = h837 from qq846] at X846
              refine own_icmp_ne X846 (pct := 372) (pc' := 368) at_365 rfl (by decide) (by decide) (fun hc => absurd hc (fun q => q (own_hm_3_3 s0 s1 s2 u3 hs1 hs2 (by omega) (by omega) (by omega)))) (fun _ => ?_)
              refine own_iconst X846 (v := (1 : Int32)) (pc' := 369) at_368 rfl (by decide) ?_
              refine own_goto X846 (pc' := 373) at_369 (by decide) (by decide) ?_
              subst hΦ
              exact own_retZ X846 at_373 (by decide) (by decide) (by decide) rfl trivial
          · rw [e520_3] at F520_n
            refine own_aload X519 (pc' := 273) at_271 rfl rfl rfl ?_
            refine own_aload X519 (pc' := 275) at_273 rfl rfl rfl ?_
            refine own_iconst X519 (v := (1 : Int32)) (pc' := 276) at_275 rfl (by decide) ?_
            refine own_iaload X519 (v := u1) (pc' := 277) A523 rfl rfl at_276 rfl ?_
            refine own_callV X519 (W := 0) (a := ad509) (argsL := [(.int u1)]) (rest := []) (S' := [(.int (own_hd [] u1))]) (pc' := 280) (rm5_33 l Z a0 hw n0 ad509 u1 h519 X519.size ad462 s0 s1 s2 ⟨Ex520, F520_d, F520_n⟩ A522 ge_ad509 ne_ad462_ad509) Ex520 (hw _ (List.mem_of_getElem? (i := 19) rfl)) (hw _ (List.mem_of_getElem? (i := 20) rfl)) (hw _ (List.mem_of_getElem? (i := 22) rfl)) (hw _ (List.mem_of_getElem? (i := 21) rfl)) (hw _ (List.mem_of_getElem? (i := 10) rfl)) (hw _ (List.mem_of_getElem? (i := 23) rfl)) (by decide) (by decide) (by decide) rfl rfl (by decide) (by decide) (lenOf pd_3 rfl) rfl (by first | decide | exact Nat.le_of_eq rfl) rfl at_277 rfl rfl ?_
            intro T847 h847 X847 qq847
            obtain ⟨⟨Ex848, F848_d, F848_n⟩, K848⟩ := qq847
            have A849 := A521.keep K848 (ninS ne_ad4_ad509 nin0)
            have A850 := A522.keep K848 (ninS ne_ad462_ad509 nin0)
            have A851 := A523.keep K848 (ninS ne_ad470_ad509 nin0)
            have Ex852 := Ex520.keep K848
            refine own_istore X847 (pc' := 282) (Ls' := #[.val (.int x0), .val (.int x1), .val (.int x2), .val (.int sel), .val (.int pp), .val (.int rr), .val (.ref ad4), .val (.int (3 : Int32)), .val (.ref ad462), .val (.ref ad470), .val (.ref ad509), .val (.int (own_hd [s0, s1, s2] u0)), .val (.int (own_hd [] u1)), .unset, .unset]) at_280 rfl rfl ?_
            have e848_0 := own_nc_3_3 0 u1
            rw [e848_0] at F848_n
            refine own_aload X847 (pc' := 284) at_282 rfl rfl rfl ?_
            refine own_aload X847 (pc' := 286) at_284 rfl rfl rfl ?_
            refine own_iconst X847 (v := (2 : Int32)) (pc' := 287) at_286 rfl (by decide) ?_
            refine own_iaload X847 (v := u2) (pc' := 288) A851 rfl rfl at_287 rfl ?_
            refine own_callV X847 (W := 0) (a := ad509) (argsL := [(.int u2)]) (rest := []) (S' := [(.int (own_hd [] u2))]) (pc' := 291) (rm5_33 l Z a0 hw n0 ad509 u2 h847 X847.size ad462 s0 s1 s2 ⟨Ex848, F848_d, F848_n⟩ A850 ge_ad509 ne_ad462_ad509) Ex848 (hw _ (List.mem_of_getElem? (i := 19) rfl)) (hw _ (List.mem_of_getElem? (i := 20) rfl)) (hw _ (List.mem_of_getElem? (i := 22) rfl)) (hw _ (List.mem_of_getElem? (i := 21) rfl)) (hw _ (List.mem_of_getElem? (i := 10) rfl)) (hw _ (List.mem_of_getElem? (i := 23) rfl)) (by decide) (by decide) (by decide) rfl rfl (by decide) (by decide) (lenOf pd_3 rfl) rfl (by first | decide | exact Nat.le_of_eq rfl) rfl at_288 rfl rfl ?_
            intro T853 h853 X853 qq853
            obtain ⟨⟨Ex854, F854_d, F854_n⟩, K854⟩ := qq853
            have A855 := A849.keep K854 (ninS ne_ad4_ad509 nin0)
            have A856 := A850.keep K854 (ninS ne_ad462_ad509 nin0)
            have A857 := A851.keep K854 (ninS ne_ad470_ad509 nin0)
            have Ex858 := Ex848.keep K854
            refine own_istore X853 (pc' := 293) (Ls' := #[.val (.int x0), .val (.int x1), .val (.int x2), .val (.int sel), .val (.int pp), .val (.int rr), .val (.ref ad4), .val (.int (3 : Int32)), .val (.ref ad462), .val (.ref ad470), .val (.ref ad509), .val (.int (own_hd [s0, s1, s2] u0)), .val (.int (own_hd [] u1)), .val (.int (own_hd [] u2)), .unset]) at_291 rfl rfl ?_
            have e854_0 := own_nc_3_3 0 u2
            rw [e854_0] at F854_n
            refine own_aload X853 (pc' := 295) at_293 rfl rfl rfl ?_
            refine own_aload X853 (pc' := 297) at_295 rfl rfl rfl ?_
            refine own_iconst X853 (v := (3 : Int32)) (pc' := 298) at_297 rfl (by decide) ?_
            refine own_iaload X853 (v := u3) (pc' := 299) A857 rfl rfl at_298 rfl ?_
            refine own_callV X853 (W := 0) (a := ad509) (argsL := [(.int u3)]) (rest := []) (S' := [(.int (own_hd [] u3))]) (pc' := 302) (rm5_33 l Z a0 hw n0 ad509 u3 h853 X853.size ad462 s0 s1 s2 ⟨Ex854, F854_d, F854_n⟩ A856 ge_ad509 ne_ad462_ad509) Ex854 (hw _ (List.mem_of_getElem? (i := 19) rfl)) (hw _ (List.mem_of_getElem? (i := 20) rfl)) (hw _ (List.mem_of_getElem? (i := 22) rfl)) (hw _ (List.mem_of_getElem? (i := 21) rfl)) (hw _ (List.mem_of_getElem? (i := 10) rfl)) (hw _ (List.mem_of_getElem? (i := 23) rfl)) (by decide) (by decide) (by decide) rfl rfl (by decide) (by decide) (lenOf pd_3 rfl) rfl (by first | decide | exact Nat.le_of_eq rfl) rfl at_299 rfl rfl ?_
            intro T859 h859 X859 qq859
            obtain ⟨⟨Ex860, F860_d, F860_n⟩, K860⟩ := qq859
            have A861 := A855.keep K860 (ninS ne_ad4_ad509 nin0)
            have A862 := A856.keep K860 (ninS ne_ad462_ad509 nin0)
            have A863 := A857.keep K860 (ninS ne_ad470_ad509 nin0)
            have Ex864 := Ex854.keep K860
            refine own_istore X859 (pc' := 304) (Ls' := #[.val (.int x0), .val (.int x1), .val (.int x2), .val (.int sel), .val (.int pp), .val (.int rr), .val (.ref ad4), .val (.int (3 : Int32)), .val (.ref ad462), .val (.ref ad470), .val (.ref ad509), .val (.int (own_hd [s0, s1, s2] u0)), .val (.int (own_hd [] u1)), .val (.int (own_hd [] u2)), .val (.int (own_hd [] u3))]) at_302 rfl rfl ?_
            have e860_0 := own_nc_3_3 0 u3
            rw [e860_0] at F860_n
            refine own_iload X859 (pc' := 306) at_304 rfl rfl ?_
            refine own_aload X859 (pc' := 308) at_306 rfl rfl rfl ?_
            refine own_iload X859 (pc' := 310) at_308 rfl rfl ?_
            refine own_aload X859 (pc' := 312) at_310 rfl rfl rfl ?_
            refine own_iconst X859 (v := (0 : Int32)) (pc' := 313) at_312 rfl (by decide) ?_
            refine own_iaload X859 (v := u0) (pc' := 314) A863 rfl rfl at_313 rfl ?_
            refine own_callS X859 (W := 1) (argsL := [(.ref ad4), (.int (3 : Int32)), (.int u0)]) (rest := [(.int (own_hd [s0, s1, s2] u0))]) (S' := [(.int (own_mb [s0, s1, s2] u0)), (.int (own_hd [s0, s1, s2] u0))]) (pc' := 317) (rm6_3 l Z a0 hw n0 ad4 u0 h859 X859.size s0 s1 s2 A861) (hw _ (List.mem_of_getElem? (i := 26) rfl)) (hw _ (List.mem_of_getElem? (i := 27) rfl)) (hw _ (List.mem_of_getElem? (i := 3) rfl)) (hw _ (List.mem_of_getElem? (i := 28) rfl)) (by decide) (by decide) (by decide) rfl rfl (by decide) (by decide) (lenOf pd_4 rfl) rfl (by first | decide | exact Nat.le_of_eq rfl) rfl at_314 rfl rfl ?_
            intro T865 h865 X865 qq865
            rw [show h865 = h859 from qq865] at X865
            refine own_icmp_ne X865 (pct := 372) (pc' := 320) at_317 rfl (by decide) (by decide) (fun hc => absurd hc (fun q => q (own_hm_3_0 s0 s1 s2 u0 hs1 hs2 ))) (fun _ => ?_)
            refine own_iload X865 (pc' := 322) at_320 rfl rfl ?_
            refine own_aload X865 (pc' := 324) at_322 rfl rfl rfl ?_
            refine own_iload X865 (pc' := 326) at_324 rfl rfl ?_
            refine own_aload X865 (pc' := 328) at_326 rfl rfl rfl ?_
            refine own_iconst X865 (v := (1 : Int32)) (pc' := 329) at_328 rfl (by decide) ?_
            refine own_iaload X865 (v := u1) (pc' := 330) A863 rfl rfl at_329 rfl ?_
            refine own_callS X865 (W := 1) (argsL := [(.ref ad4), (.int (3 : Int32)), (.int u1)]) (rest := [(.int (own_hd [] u1))]) (S' := [(.int (own_mb [s0, s1, s2] u1)), (.int (own_hd [] u1))]) (pc' := 333) (rm6_3 l Z a0 hw n0 ad4 u1 h859 X865.size s0 s1 s2 A861) (hw _ (List.mem_of_getElem? (i := 26) rfl)) (hw _ (List.mem_of_getElem? (i := 27) rfl)) (hw _ (List.mem_of_getElem? (i := 3) rfl)) (hw _ (List.mem_of_getElem? (i := 28) rfl)) (by decide) (by decide) (by decide) rfl rfl (by decide) (by decide) (lenOf pd_4 rfl) rfl (by first | decide | exact Nat.le_of_eq rfl) rfl at_330 rfl rfl ?_
            intro T866 h866 X866 qq866
            rw [show h866 = h859 from qq866] at X866
            refine own_icmp_ne X866 (pct := 372) (pc' := 336) at_333 rfl (by decide) (by decide) (fun hc => absurd hc (fun q => q (own_hm_3_3 s0 s1 s2 u1 hs1 hs2 (by omega) (by omega) (by omega)))) (fun _ => ?_)
            refine own_iload X866 (pc' := 338) at_336 rfl rfl ?_
            refine own_aload X866 (pc' := 340) at_338 rfl rfl rfl ?_
            refine own_iload X866 (pc' := 342) at_340 rfl rfl ?_
            refine own_aload X866 (pc' := 344) at_342 rfl rfl rfl ?_
            refine own_iconst X866 (v := (2 : Int32)) (pc' := 345) at_344 rfl (by decide) ?_
            refine own_iaload X866 (v := u2) (pc' := 346) A863 rfl rfl at_345 rfl ?_
            refine own_callS X866 (W := 1) (argsL := [(.ref ad4), (.int (3 : Int32)), (.int u2)]) (rest := [(.int (own_hd [] u2))]) (S' := [(.int (own_mb [s0, s1, s2] u2)), (.int (own_hd [] u2))]) (pc' := 349) (rm6_3 l Z a0 hw n0 ad4 u2 h859 X866.size s0 s1 s2 A861) (hw _ (List.mem_of_getElem? (i := 26) rfl)) (hw _ (List.mem_of_getElem? (i := 27) rfl)) (hw _ (List.mem_of_getElem? (i := 3) rfl)) (hw _ (List.mem_of_getElem? (i := 28) rfl)) (by decide) (by decide) (by decide) rfl rfl (by decide) (by decide) (lenOf pd_4 rfl) rfl (by first | decide | exact Nat.le_of_eq rfl) rfl at_346 rfl rfl ?_
            intro T867 h867 X867 qq867
            rw [show h867 = h859 from qq867] at X867
            refine own_icmp_ne X867 (pct := 372) (pc' := 352) at_349 rfl (by decide) (by decide) (fun hc => absurd hc (fun q => q (own_hm_3_3 s0 s1 s2 u2 hs1 hs2 (by omega) (by omega) (by omega)))) (fun _ => ?_)
            refine own_iload X867 (pc' := 354) at_352 rfl rfl ?_
            refine own_aload X867 (pc' := 356) at_354 rfl rfl rfl ?_
            refine own_iload X867 (pc' := 358) at_356 rfl rfl ?_
            refine own_aload X867 (pc' := 360) at_358 rfl rfl rfl ?_
            refine own_iconst X867 (v := (3 : Int32)) (pc' := 361) at_360 rfl (by decide) ?_
            refine own_iaload X867 (v := u3) (pc' := 362) A863 rfl rfl at_361 rfl ?_
            refine own_callS X867 (W := 1) (argsL := [(.ref ad4), (.int (3 : Int32)), (.int u3)]) (rest := [(.int (own_hd [] u3))]) (S' := [(.int (own_mb [s0, s1, s2] u3)), (.int (own_hd [] u3))]) (pc' := 365) (rm6_3 l Z a0 hw n0 ad4 u3 h859 X867.size s0 s1 s2 A861) (hw _ (List.mem_of_getElem? (i := 26) rfl)) (hw _ (List.mem_of_getElem? (i := 27) rfl)) (hw _ (List.mem_of_getElem? (i := 3) rfl)) (hw _ (List.mem_of_getElem? (i := 28) rfl)) (by decide) (by decide) (by decide) rfl rfl (by decide) (by decide) (lenOf pd_4 rfl) rfl (by first | decide | exact Nat.le_of_eq rfl) rfl at_362 rfl rfl ?_
            intro T868 h868 X868 qq868
            rw [show h868 = h859 from qq868] at X868
            refine own_icmp_ne X868 (pct := 372) (pc' := 368) at_365 rfl (by decide) (by decide) (fun hc => absurd hc (fun q => q (own_hm_3_3 s0 s1 s2 u3 hs1 hs2 (by omega) (by omega) (by omega)))) (fun _ => ?_)
            refine own_iconst X868 (v := (1 : Int32)) (pc' := 369) at_368 rfl (by decide) ?_
            refine own_goto X868 (pc' := 373) at_369 (by decide) (by decide) ?_
            subst hΦ
            exact own_retZ X868 at_373 (by decide) (by decide) (by decide) rfl trivial
      · refine own_iconst X (v := (1 : Int32)) (pc' := 16) at_15 rfl (by decide) ?_
        subst hΦ
        exact own_retZ X at_16 (by decide) (by decide) (by decide) rfl trivial
set_option maxRecDepth 65536 in
set_option maxHeartbeats 4000000 in
theorem comes_1 {Post : Tables → Env → Array Value → State → Outcome → State → Prop} (hpost : ∀ tb e args s v u, (limb_1_1.after args s (.returned v) u = true ∧ limb_1_2.after args s (.returned v) u = true ∧ True) → FrameEnd s (.returned v) u (Jvm.fieldLocs frame_1_writes args s ++ Jvm.arrayLocs frame_1_arrays args s ++ Jvm.staticLocs frame_1_statics s) 16 128 → Post tb e args s (.returned v) u) :
    ArmFor flags0 classFile x code maxLocals ret World_1 tables_1 room_1 Calls_1 rest_1 Pre_1 Post := by
  intro l hfl _ _ p e ha hc hk s m args below hf hA hF happ hP
  obtain ⟨hcalls, hrest, hpre⟩ := hP
  obtain ⟨-, -, -, hnamed, -, -, -, hat⟩ := (Spec.applies_iff hf).mp happ
  obtain ⟨hg, hn⟩ := and_e (Cond.before_iff.mp (show (Jvm.Cond.and given_1 narrow_1).before args s = true from hpre))
  obtain ⟨hcnt, r0⟩ := and_e hg
  obtain ⟨k0, r1⟩ := and_e r0
  obtain ⟨k1, r2⟩ := and_e r1
  obtain ⟨k2, r3⟩ := and_e r2
  obtain ⟨k3, r4⟩ := and_e r3
  obtain ⟨k4, r5⟩ := and_e r4
  obtain ⟨w0, w1, w2, w3, w4, w5, rfl⟩ : ∃ w0 w1 w2 w3 w4 w5 : Value, args = #[w0, w1, w2, w3, w4, w5] := by
    have hs : args.size = 6 := by simpa [Cond.value, given_1] using hcnt
    obtain ⟨L⟩ := args
    match L, hs with
    | [w0, w1, w2, w3, w4, w5], _ => exact ⟨w0, w1, w2, w3, w4, w5, rfl⟩
  have hw := fun d (hd : d ∈ tables_1) => atoms_spec (ws := Jvm.Cond.code x code maxLocals ret :: tables_1) hat d (List.mem_cons_of_mem _ hd)
  obtain ⟨i0, ei0⟩ := is_v k0
  obtain rfl : w0 = (.int i0) := Option.some.inj ei0
  obtain ⟨i1, ei1⟩ := is_v k1
  obtain rfl : w1 = (.int i1) := Option.some.inj ei1
  obtain ⟨i2, ei2⟩ := is_v k2
  obtain rfl : w2 = (.int i2) := Option.some.inj ei2
  obtain ⟨i3, ei3⟩ := is_v k3
  obtain rfl : w3 = (.int i3) := Option.some.inj ei3
  obtain ⟨i4, ei4⟩ := is_v k4
  obtain rfl : w4 = (.int i4) := Option.some.inj ei4
  obtain ⟨i5, ei5⟩ := is_v r5
  obtain rfl : w5 = (.int i5) := Option.some.inj ei5
  obtain ⟨n, o, h1, h2, h3, _, L, rfl, ⟨⟨rfl, -⟩, N⟩, hq⟩ := rm0 l s _ hw s.heap.size i0 i1 i2 i3 i4 i5 s.heap (Nat.le_refl _) tables_1 p e ha hc hk s m _ below hf ((Spec.applies_iff_loose hf).mp happ).1 ⟨rfl, State.Warmed39.refl s, rfl⟩ trivial
  refine ⟨n, _, h1, h2, h3, hpost _ _ _ _ _ _ ⟨Cond.after_iff.mpr rfl, Cond.after_iff.mpr (eq_i res_at (Term.int_eval (1)) rfl), trivial⟩ ⟨hq.1, hq.2.1, (hq.2.2.sift fun y hy => Or.inr (N y hy)).mono (by decide) (by decide)⟩⟩
theorem main_1_1 : Claimed_1_1 := comes_1 fun _ _ _ _ _ _ h hF => ⟨h.1, hF⟩
theorem main_1_2 : Claimed_1_2 := comes_1 fun _ _ _ _ _ _ h hF => ⟨h.2.1, hF⟩
end Jvm.Pilot.@@N@@
namespace Jvm.Pilot.@@N@@
open Jvm Jvm.ClassFile Sem Op Lib Jvm.Free Jvm.Stand Jvm.Pilot.@@N@@.Jvm.D
/-! MADE BY PROGRAM (witnessworld.py) out of the Statement's table words and the real class files: 9 classes; the members and pool entries that the words name. The judged class is class 1, her method 1. -/
namespace start1
open Jvm.ClassFile
def u (s : String) : CpInfo := .utf8 (stringToUtf16 s)
/-- a pool by its gaps: so many unusable entries, then the entry; so many at the end -/
def gap : Nat → List CpInfo → List CpInfo
  | 0, r => r
  | n + 1, r => .unusable :: gap n r
def poolList (es : List (Nat × CpInfo)) (last : Nat) : List CpInfo := es.foldr (fun e r => gap e.1 (e.2 :: r)) (gap last [])
def pool (es : List (Nat × CpInfo)) (last : Nat) : Array CpInfo := ⟨poolList es last⟩
def fileOf (pool : Array CpInfo) (this : Nat) (attrs : Array Attribute := #[]) (ms : Array MethodInfo := #[]) (fl : Nat := 33) (sup : Nat := 0) (ifs : Array Nat := #[]) (fds : Array FieldInfo := #[]) : ClassFile where
  minorVersion := 0
  majorVersion := 65
  constantPool := pool
  accessFlags := fl
  thisClass := this
  superClass := sup
  interfaces := ifs
  fields := fds
  methods := ms
  attributes := attrs
def plain (name : String) (sup : Option ClassId) : Class where
  name := name
  kind := .ordinary
  loader := none
  accessFlags := 33
  super := sup
  interfaces := #[]
  cf := none
  fields := #[]
  methods := #[]
  instanceTypes := #[]
  staticTypes := #[]
  resolved := #[]
  callSites := []
  init := .initialized
  statics := none
  mirror := none

def pool0 : Array CpInfo := pool [(5, u "<init>"), (0, u "()V"), (1, .class_ 10), (1, u "java/lang/Object")] 113

def k0c0 : Code := { maxStack := 0, maxLocals := 1, code := object_method_1_code, exceptionTable := #[], attributes := #[] }
def k0m0 : Method := { name := "<init>", desc := "()V", sig := { parameters := [], returnType := none }, accessFlags := 1, code := some k0c0 }
/-- java/lang/Object -/
def k0 : Class := { plain "java/lang/Object" none with
  accessFlags := 33
  interfaces := #[]
  cf := some (fileOf pool0 8 #[] #[{ accessFlags := 1, nameIndex := 5, descriptorIndex := 6, attributes := #[] }] 33 0 #[] #[])
  fields := #[]
  methods := #[k0m0]
  instanceTypes := #[]
  staticTypes := #[]
  resolved := Array.replicate 124 none
  statics := none }

def pool1 : Array CpInfo := pool [(2, .class_ 4), (1, u "java/lang/Object"), (0, u "<init>"), (0, u "()V"), (0, .methodref 8 9), (0, .class_ 10), (0, .nameAndType 11 12), (0, u "com/example/quern/quern/index/WalkHoldsPinLaw"), (0, u "swap"), (0, u "([III)V"), (0, .methodref 8 14), (0, .nameAndType 15 16), (0, u "pick"), (0, u "([III)I"), (0, .class_ 18), (0, u "com/example/quern/quern/index/DeletionsFile$Walk"), (0, .methodref 17 20), (0, .nameAndType 5 21), (0, u "([I)V"), (0, .methodref 17 23), (0, .nameAndType 24 25), (0, u "holds"), (0, u "(I)Z"), (0, .methodref 8 27), (0, .nameAndType 28 29), (0, u "member"), (0, u "([III)Z"), (2, u "law"), (0, u "(IIIIII)Z")] 9

def k1m0 : Method := { name := "<init>", desc := "()V", sig := { parameters := [], returnType := none }, accessFlags := 2, code := none }
def k1c1 : Code := { maxStack := 7, maxLocals := 15, code := code, exceptionTable := #[], attributes := #[] }
def k1m1 : Method := { name := "law", desc := "(IIIIII)Z", sig := { parameters := [.int, .int, .int, .int, .int, .int], returnType := some .boolean }, accessFlags := 9, code := some k1c1 }
def k1c2 : Code := { maxStack := 4, maxLocals := 4, code := method_3_code, exceptionTable := #[], attributes := #[] }
def k1m2 : Method := { name := "swap", desc := "([III)V", sig := { parameters := [(.array .int), .int, .int], returnType := none }, accessFlags := 10, code := some k1c2 }
def k1c3 : Code := { maxStack := 3, maxLocals := 4, code := method_4_code, exceptionTable := #[], attributes := #[] }
def k1m3 : Method := { name := "pick", desc := "([III)I", sig := { parameters := [(.array .int), .int, .int], returnType := some .int }, accessFlags := 10, code := some k1c3 }
def k1c4 : Code := { maxStack := 3, maxLocals := 3, code := method_5_code, exceptionTable := #[], attributes := #[] }
def k1m4 : Method := { name := "member", desc := "([III)Z", sig := { parameters := [(.array .int), .int, .int], returnType := some .boolean }, accessFlags := 10, code := some k1c4 }
/-- com/example/quern/quern/index/WalkHoldsPinLaw -/
def k1 : Class := { plain "com/example/quern/quern/index/WalkHoldsPinLaw" (some 0) with
  accessFlags := 49
  interfaces := #[]
  cf := some (fileOf pool1 8 #[] #[{ accessFlags := 2, nameIndex := 5, descriptorIndex := 6, attributes := #[] }, { accessFlags := 9, nameIndex := 32, descriptorIndex := 33, attributes := #[] }, { accessFlags := 10, nameIndex := 11, descriptorIndex := 12, attributes := #[] }, { accessFlags := 10, nameIndex := 15, descriptorIndex := 16, attributes := #[] }, { accessFlags := 10, nameIndex := 28, descriptorIndex := 29, attributes := #[] }] 49 2 #[] #[])
  fields := #[]
  methods := #[k1m0, k1m1, k1m2, k1m3, k1m4]
  instanceTypes := #[]
  staticTypes := #[]
  resolved := Array.replicate 43 none
  statics := none }

def pool2 : Array CpInfo := pool [(1, .methodref 2 3), (0, .class_ 4), (0, .nameAndType 5 6), (0, u "java/lang/Object"), (0, u "<init>"), (0, u "()V"), (0, .fieldref 8 9), (0, .class_ 10), (0, .nameAndType 11 12), (0, u "com/example/quern/quern/index/DeletionsFile$Walk"), (0, u "documents"), (0, u "[I"), (0, .fieldref 8 14), (0, .nameAndType 15 16), (0, u "next"), (0, u "I"), (0, u "([I)V"), (2, u "holds"), (0, u "(I)Z"), (4, .class_ 27), (0, u "com/example/quern/quern/index/DeletionsFile")] 2

def k2c0 : Code := { maxStack := 2, maxLocals := 2, code := prog_64_method_1_code, exceptionTable := #[], attributes := #[] }
def k2m0 : Method := { name := "<init>", desc := "([I)V", sig := { parameters := [(.array .int)], returnType := none }, accessFlags := 0, code := some k2c0 }
def k2c1 : Code := { maxStack := 3, maxLocals := 2, code := prog_64_method_2_code, exceptionTable := #[], attributes := #[] }
def k2m1 : Method := { name := "holds", desc := "(I)Z", sig := { parameters := [.int], returnType := some .boolean }, accessFlags := 0, code := some k2c1 }
/-- com/example/quern/quern/index/DeletionsFile$Walk -/
def k2 : Class := { plain "com/example/quern/quern/index/DeletionsFile$Walk" (some 0) with
  accessFlags := 48
  interfaces := #[]
  cf := some (fileOf pool2 8 #[.nestHost 26] #[{ accessFlags := 0, nameIndex := 5, descriptorIndex := 17, attributes := #[] }, { accessFlags := 0, nameIndex := 20, descriptorIndex := 21, attributes := #[] }] 48 2 #[] #[{ accessFlags := 18, nameIndex := 11, descriptorIndex := 12, attributes := #[] }, { accessFlags := 2, nameIndex := 15, descriptorIndex := 16, attributes := #[] }])
  fields := #[{ name := "documents", type := (.array .int), accessFlags := 18, slot := 0, constantValue := 0 }, { name := "next", type := .int, accessFlags := 2, slot := 1, constantValue := 0 }]
  methods := #[k2m0, k2m1]
  instanceTypes := #[(.array .int), .int]
  staticTypes := #[]
  resolved := Array.replicate 30 none
  statics := none }

def pool3 : Array CpInfo := pool [(1, u "java/lang/Cloneable"), (0, .class_ 1), (0, u "java/lang/Object"), (0, .class_ 3)] 3

/-- java/lang/Cloneable -/
def k3 : Class := { plain "java/lang/Cloneable" (some 0) with
  accessFlags := 1537
  interfaces := #[]
  cf := some (fileOf pool3 2 #[] #[] 1537 4 #[] #[])
  fields := #[]
  methods := #[]
  instanceTypes := #[]
  staticTypes := #[]
  resolved := Array.replicate 8 none
  statics := none }

def pool4 : Array CpInfo := pool [(1, u "java/io/Serializable"), (0, .class_ 1), (0, u "java/lang/Object"), (0, .class_ 3)] 3

/-- java/io/Serializable -/
def k4 : Class := { plain "java/io/Serializable" (some 0) with
  accessFlags := 1537
  interfaces := #[]
  cf := some (fileOf pool4 2 #[] #[] 1537 4 #[] #[])
  fields := #[]
  methods := #[]
  instanceTypes := #[]
  staticTypes := #[]
  resolved := Array.replicate 8 none
  statics := none }

/-- the primitive byte -/
def k5 : Class := { plain "byte" none with kind := .primitive 'B', accessFlags := 0x411 }
/-- [B -/
def k6 : Class := { plain "[B" (some 0) with kind := .array 5 .byte, interfaces := #[3, 4], accessFlags := 1041 }

/-- the primitive int -/
def k7 : Class := { plain "int" none with kind := .primitive 'I', accessFlags := 0x411 }
/-- [I -/
def k8 : Class := { plain "[I" (some 0) with kind := .array 7 .int, interfaces := #[3, 4], accessFlags := 1041 }

def heap : Heap := #[]
def classes : Array Class := #[k0, k1, k2, k3, k4, k5, k6, k7, k8]
def interned : List (Array UInt16 × Addr) := []
def slotsUsed : Nat := 0
def theMethod : MethodId := ⟨1, 1⟩
def args0 : Array Value := #[.int 7, .int 1, .int 2, .int 3, .int 4, .int 5]
def aboutOver (below : List Frame) : State where
  vm := { classes := classes, interned := interned.toArray }
  heap := heap
  slotsUsed := slotsUsed
  threads := #[{ frames := .invoking theMethod args0 :: below }]
def below0 : List Frame := [.native { method := ⟨0, 0⟩, args := #[] }]
def about1 : State := aboutOver below0
def p0 : Program := .bare "" "" ""
def e0 : Env := launch0.env 0 0 0
theorem w_frames : about1.frames = Frame.invoking theMethod args0 :: below0 := rfl
set_option maxRecDepth 65536 in
theorem w_args : argsFit about1.vm theMethod args0 = true := by decide +kernel
set_option maxRecDepth 65536 in
theorem w_heap : heapFits about1 = true := by decide +kernel
set_option maxRecDepth 65536 in
theorem w_runnable : about1.curStatus? = some .runnable := by decide +kernel
set_option maxRecDepth 65536 in
theorem w_alone : about1.alone = true := by decide +kernel
set_option maxRecDepth 65536 in
theorem w_named : about1.methodNamed? x = some theMethod := by decide +kernel
set_option maxRecDepth 65536 in
theorem w_hears : about1.hears theMethod below0 = true := by decide +kernel
set_option maxRecDepth 65536 in
theorem w_ripe : about1.ripe theMethod args0 below0 = true := by decide +kernel
theorem w_running : about1.status = .running := rfl
set_option maxRecDepth 65536 in
theorem w_room : about1.hasRoom e0.platform room_1 = true :=
  launch0.hasRoom_least _ room_1 (by decide +kernel) (by decide +kernel) (by decide +kernel) (by decide +kernel) (by decide +kernel) (by decide +kernel)
theorem allAtoms_all (ts : List Jvm.Cond) (a : Array Jvm.Value) (st : Jvm.State) : (allAtoms ts).before a st = ts.all (fun c => c.before a st) := by
  induction ts with
  | nil => rfl
  | cons c t ih =>
    show (Jvm.Cond.and c (allAtoms t)).before a st = _
    rw [Jvm.Cond.before_and, ih, List.all_cons]
def words1 : List Jvm.Cond := Jvm.Cond.code x code maxLocals ret :: tables_1
/-- a 'code' word, met by the world's own term for the bytes: nothing is compared byte by byte -/
theorem code_word {y : MethodName} {bytes : ByteArray} {mx : Nat} {rt : Option FieldType} {a : Array Value} {s : State} {m : MethodId} {meth : Method} {c : Code} (h1 : s.methodNamed? y = some m) (h2 : s.vm.method? m = some meth) (h3 : meth.code = some c) (h4 : c.code = bytes)
    (h5 : (c.maxLocals == mx && c.exceptionTable.isEmpty && decide (c.maxStack ≤ mostOperands) && decide (meth.sig.returnType = rt) && !meth.locks && decide (parseMethodDescriptor y.desc = some meth.sig)) = true) : (Jvm.Cond.code y bytes mx rt).before a s = true := by
  simp only [Bool.and_eq_true, beq_iff_eq, Bool.not_eq_true', decide_eq_true_eq] at h5
  obtain ⟨⟨⟨⟨⟨g1, g2⟩, g3⟩, g4⟩, g5⟩, g6⟩ := h5
  simp [Cond.before, Cond.holds, Cond.value, h1, h2, h3, h4, g1, g2, g3, g4, g5, g6]
def isCode : Jvm.Cond → Bool
  | .code _ _ _ _ => true
  | _ => false
theorem all_split {L : List Jvm.Cond} {P : Jvm.Cond → Bool} (h1 : L.all (fun c => isCode c || P c) = true) (h2 : ∀ c ∈ L.filter isCode, P c = true) : L.all P = true := by
  refine List.all_eq_true.mpr fun c hc => ?_
  have h := List.all_eq_true.mp h1 c hc
  rcases Bool.eq_false_or_eq_true (isCode c) with hi | hi
  · exact h2 c (List.mem_filter.mpr ⟨hc, hi⟩)
  · simpa [hi] using h
set_option maxRecDepth 65536 in
theorem w_c0 : (Jvm.Cond.code x code maxLocals ret).before args0 about1 = true := code_word (m := ⟨1, 1⟩) (meth := k1m1) (c := k1c1) (by decide +kernel) rfl rfl rfl (by decide +kernel)
set_option maxRecDepth 65536 in
theorem w_c1 : (Jvm.Cond.code ({ cls := "com/example/quern/quern/index/WalkHoldsPinLaw", name := "swap", desc := "([III)V" } : Jvm.MethodName) method_3_code (4 : Nat) (Option.none : Option Jvm.ClassFile.FieldType)).before args0 about1 = true := code_word (m := ⟨1, 2⟩) (meth := k1m2) (c := k1c2) (by decide +kernel) rfl rfl rfl (by decide +kernel)
set_option maxRecDepth 65536 in
theorem w_c2 : (Jvm.Cond.code ({ cls := "com/example/quern/quern/index/WalkHoldsPinLaw", name := "pick", desc := "([III)I" } : Jvm.MethodName) method_4_code (4 : Nat) (Option.some Jvm.ClassFile.FieldType.int)).before args0 about1 = true := code_word (m := ⟨1, 3⟩) (meth := k1m3) (c := k1c3) (by decide +kernel) rfl rfl rfl (by decide +kernel)
set_option maxRecDepth 65536 in
theorem w_c3 : (Jvm.Cond.code ({ cls := "com/example/quern/quern/index/DeletionsFile$Walk", name := "<init>", desc := "([I)V" } : Jvm.MethodName) prog_64_method_1_code (2 : Nat) (Option.none : Option Jvm.ClassFile.FieldType)).before args0 about1 = true := code_word (m := ⟨2, 0⟩) (meth := k2m0) (c := k2c0) (by decide +kernel) rfl rfl rfl (by decide +kernel)
set_option maxRecDepth 65536 in
theorem w_c4 : (Jvm.Cond.code ({ cls := "java/lang/Object", name := "<init>", desc := "()V" } : Jvm.MethodName) object_method_1_code (1 : Nat) (Option.none : Option Jvm.ClassFile.FieldType)).before args0 about1 = true := code_word (m := ⟨0, 0⟩) (meth := k0m0) (c := k0c0) (by decide +kernel) rfl rfl rfl (by decide +kernel)
set_option maxRecDepth 65536 in
theorem w_c5 : (Jvm.Cond.code ({ cls := "com/example/quern/quern/index/DeletionsFile$Walk", name := "holds", desc := "(I)Z" } : Jvm.MethodName) prog_64_method_2_code (2 : Nat) (Option.some Jvm.ClassFile.FieldType.boolean)).before args0 about1 = true := code_word (m := ⟨2, 1⟩) (meth := k2m1) (c := k2c1) (by decide +kernel) rfl rfl rfl (by decide +kernel)
set_option maxRecDepth 65536 in
theorem w_c6 : (Jvm.Cond.code ({ cls := "com/example/quern/quern/index/WalkHoldsPinLaw", name := "member", desc := "([III)Z" } : Jvm.MethodName) method_5_code (3 : Nat) (Option.some Jvm.ClassFile.FieldType.boolean)).before args0 about1 = true := code_word (m := ⟨1, 4⟩) (meth := k1m4) (c := k1c4) (by decide +kernel) rfl rfl rfl (by decide +kernel)
def codes1 : List Jvm.Cond := [Jvm.Cond.code x code maxLocals ret, Jvm.Cond.code ({ cls := "com/example/quern/quern/index/WalkHoldsPinLaw", name := "swap", desc := "([III)V" } : Jvm.MethodName) method_3_code (4 : Nat) (Option.none : Option Jvm.ClassFile.FieldType), Jvm.Cond.code ({ cls := "com/example/quern/quern/index/WalkHoldsPinLaw", name := "pick", desc := "([III)I" } : Jvm.MethodName) method_4_code (4 : Nat) (Option.some Jvm.ClassFile.FieldType.int), Jvm.Cond.code ({ cls := "com/example/quern/quern/index/DeletionsFile$Walk", name := "<init>", desc := "([I)V" } : Jvm.MethodName) prog_64_method_1_code (2 : Nat) (Option.none : Option Jvm.ClassFile.FieldType), Jvm.Cond.code ({ cls := "java/lang/Object", name := "<init>", desc := "()V" } : Jvm.MethodName) object_method_1_code (1 : Nat) (Option.none : Option Jvm.ClassFile.FieldType), Jvm.Cond.code ({ cls := "com/example/quern/quern/index/DeletionsFile$Walk", name := "holds", desc := "(I)Z" } : Jvm.MethodName) prog_64_method_2_code (2 : Nat) (Option.some Jvm.ClassFile.FieldType.boolean), Jvm.Cond.code ({ cls := "com/example/quern/quern/index/WalkHoldsPinLaw", name := "member", desc := "([III)Z" } : Jvm.MethodName) method_5_code (3 : Nat) (Option.some Jvm.ClassFile.FieldType.boolean)]
set_option maxRecDepth 65536 in
theorem codes_eq : words1.filter isCode = codes1 := rfl
theorem w_codes : ∀ c ∈ words1.filter isCode, c.before args0 about1 = true := by
  rw [codes_eq]
  intro c hc
  simp only [codes1, List.mem_cons, List.not_mem_nil, or_false] at hc
  rcases hc with rfl | rfl | rfl | rfl | rfl | rfl | rfl
  · exact w_c0
  · exact w_c1
  · exact w_c2
  · exact w_c3
  · exact w_c4
  · exact w_c5
  · exact w_c6
set_option maxRecDepth 65536 in
theorem w_t1 : (words1.take 24).all (fun c => isCode c || c.before args0 about1) = true := by decide +kernel
set_option maxRecDepth 65536 in
theorem w_t2 : (words1.drop 24).all (fun c => isCode c || c.before args0 about1) = true := by decide +kernel
theorem w_tables : (allAtoms (Jvm.Cond.code x code maxLocals ret :: tables_1)).before args0 about1 = true := by
  rw [allAtoms_all]
  show words1.all (fun c => c.before args0 about1) = true
  refine all_split ?_ w_codes
  rw [← List.take_append_drop 24 words1, List.all_append, w_t1, w_t2]
  rfl
set_option maxRecDepth 65536 in
theorem w_case : (Jvm.Cond.and given_1 narrow_1).before args0 about1 = true := by decide +kernel
theorem w_applies : (headSpec (Jvm.Cond.code x code maxLocals ret :: tables_1) room_1).applies x e0.platform about1 = true :=
  (Spec.applies_iff w_frames).mpr ⟨w_running, w_runnable, w_alone, w_named, w_hears, w_ripe, w_room, w_tables⟩
theorem atStart : AtStart classFile x code maxLocals ret World_1 tables_1 room_1 Calls_1 rest_1 Pre_1 launch0 p0 e0 about1 theMethod args0 below0 :=
  ⟨lists_1, trivial, launch0.admits_env _ _ _, launch0.least_env, fairChoices_fair.cas, fairChoices_fair.clock, w_frames, w_args, w_heap, w_applies, trivial, trivial, w_case⟩
end start1
theorem witness_1 : WitnessClaimed_1 := ⟨start1.p0, start1.e0, start1.about1, start1.theMethod, start1.args0, start1.below0, start1.atStart⟩
end Jvm.Pilot.@@N@@
