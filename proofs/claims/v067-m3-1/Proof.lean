import JvmDerived
import JvmDerived.Pilot.@@N@@Statement
import JvmDerived.Pilot.@@N@@Code
set_option linter.unusedVariables false
set_option linter.unusedSimpArgs false
namespace Jvm.Pilot.@@N@@
open Jvm Jvm.ClassFile Sem Op Lib Jvm.Free Jvm.Stand Jvm.LawKit Jvm.RoadKit Bundle Jvm.Pilot.@@N@@.Jvm.D
section OwnKit
def own_G (p : Program) (e : Env) (below : List Frame) (Φ : State → Outcome → Prop) (T : State) (f : JFrame) : Prop := ∃ s₂ o, Steps p.tables e below (T.setTop f) s₂ ∧ Φ s₂ o
def own_S (Z : State) (n0 : Nat) (bytes : ByteArray) (y : MethodName) (ml : Nat) (ret : Option FieldType) (p : Program) (l : Launch) (e : Env) (R : Room) (s : State) (m : MethodId) (args : Array Value) (below : List Frame) (meth : Method) (c : Code) (T : State) (k sl : Nat) (h : Heap) : Prop :=
  (∃ locs, Stand p l e R s m args below meth c T locs k sl ∧ Fr n0 locs) ∧ T.heap = h ∧ n0 ≤ s.heap.size ∧ p.tables.exec = Jvm.exec ∧ Z.Warmed39 s.vm ∧ c.code = bytes ∧ c.maxLocals = ml ∧ s.vm.findClass y.cls = some m.cls ∧ meth.name = y.name ∧ meth.sig.returnType = ret ∧ meth.locks = false
def own_Q (n0 : Nat) (below : List Frame) (s : State) (R : Room) (w : Option Value) (Θ : Heap → Prop) : State → Outcome → Prop := fun s₂ o => s₂.status = .running ∧ Ended s₂ below o ∧ ∃ v L, o = .returned v ∧ ((v = w ∧ Θ s₂.heap) ∧ Fr n0 L) ∧ FrameEnd s o s₂ L R.cells R.slots
def own_Met (l : Launch) (y : MethodName) (bytes : ByteArray) (ml : Nat) (ret : Option FieldType) (rm : Room) (Z : State) (n0 : Nat) (as : Array Value) (h0 : Heap) (w : Option Value) (Θ : Heap → Prop) : Prop :=
  ∀ ws, MetFree l y (head1 (Jvm.Cond.code y bytes ml ret :: ws) rm) (fun a U => a = as ∧ Z.Warmed39 U.vm ∧ U.heap = h0) (fun _ _ _ _ _ => True) (fun _ U o U' => ∃ v L, o = .returned v ∧ ((v = w ∧ Θ U'.heap) ∧ Fr n0 L) ∧ FrameEnd U o U' L rm.cells rm.slots)
theorem own_met {l : Launch} {y : MethodName} {bytes : ByteArray} {ml : Nat} {ret : Option FieldType} {rm : Room} {Z : State} {n0 : Nat} {as : Array Value} {h0 : Heap} {w : Option Value} {Θ : Heap → Prop} (hp : plainFor y = true) (hn0 : n0 ≤ h0.size)
    (body : ∀ p e s m below meth c T, own_S Z n0 bytes y ml ret p l e rm s m as below meth c T 0 0 h0 → own_G p e below (own_Q n0 below s rm w Θ) T (entryFrame m as ml)) : own_Met l y bytes ml ret rm Z n0 as h0 w Θ := by
  intro ws
  refine MetFree.of_bodySF hp hisR ?_
  intro p e s m args below meth c s₁ Bd hml0 hP hK
  obtain ⟨rfl, hZ, hh⟩ := hP
  obtain ⟨s₂, o, st, h1, h2, h3⟩ := body p e s m below meth c s₁ ⟨⟨[], Stand.of_body Bd, Fr.nil n0⟩, by rw [← hh, Bd.state]; rfl, by rw [hh]; exact hn0, Bd.exec, hZ, Bd.bytes, hml0, findClass_of_methodNamed Bd.named, (name_of_methodNamed Bd.named Bd.method).1, Bd.returns, BodyLoose.notSynchronized Bd⟩
  exact ⟨s₂, o, st, h1, h2, h3⟩
variable {Z : State} {n0 : Nat} {bytes : ByteArray} {y : MethodName} {ml : Nat} {ret : Option FieldType} {p : Program} {l : Launch} {e : Env} {R : Room} {s : State} {m : MethodId} {args : Array Value} {below : List Frame} {meth : Method} {c : Code} {T : State} {k sl : Nat} {h : Heap} {Φ : State → Outcome → Prop} {pc pc' : Nat} {Ls Ls' : Array Slot} {S : List Value} {a0 : Array Value}
theorem own_cast {f f' : JFrame} (q : f = f') (K : own_G p e below Φ T f') : own_G p e below Φ T f := q ▸ K
theorem own_by {T T' : State} {f f' : JFrame} (K : own_G p e below Φ T' f') (st : ∀ t, Steps p.tables e below (T'.setTop f') t → Steps p.tables e below (T.setTop f) t) : own_G p e below Φ T f := by
  obtain ⟨s₂, o, q, r⟩ := K
  exact ⟨s₂, o, st _ q, r⟩
theorem own_S.size (X : own_S Z n0 bytes y ml ret p l e R s m args below meth c T k sl h) : n0 ≤ h.size := by
  obtain ⟨⟨locs, Y, N⟩, hh, hn, hx, hZ, hby, hml, hown, hnm, hret, hlk⟩ := X
  subst hh
  exact Nat.le_trans hn Y.same.2.1
theorem own_iadd (X : own_S Z n0 bytes y ml ret p l e R s m args below meth c T k sl h) {a b r : Int32} (hd : decode bytes pc = .ok (.iadd, 1)) (hpc : pc + 1 = pc') (hr : a + b = r) (K : own_G p e below Φ T (mkF m pc' Ls (.int r :: S))) : own_G p e below Φ T (mkF m pc Ls (.int b :: .int a :: S)) := by
  obtain ⟨⟨locs, Y, N⟩, hh, hn, hx, hZ, hby, hml, hown, hnm, hret, hlk⟩ := X
  subst hpc
  exact own_by K fun t kk => XS.iadd Y.here hx rfl (hb hby hd) rfl (hr ▸ kk)
theorem own_ladd (X : own_S Z n0 bytes y ml ret p l e R s m args below meth c T k sl h) {a b r : Int64} (hd : decode bytes pc = .ok (.ladd, 1)) (hpc : pc + 1 = pc') (hr : a + b = r) (K : own_G p e below Φ T (mkF m pc' Ls (.long r :: S))) : own_G p e below Φ T (mkF m pc Ls (.long b :: .long a :: S)) := by
  obtain ⟨⟨locs, Y, N⟩, hh, hn, hx, hZ, hby, hml, hown, hnm, hret, hlk⟩ := X
  subst hpc
  exact own_by K fun t kk => XS.ladd Y.here hx rfl (hb hby hd) rfl (hr ▸ kk)
theorem own_isub (X : own_S Z n0 bytes y ml ret p l e R s m args below meth c T k sl h) {a b r : Int32} (hd : decode bytes pc = .ok (.isub, 1)) (hpc : pc + 1 = pc') (hr : a - b = r) (K : own_G p e below Φ T (mkF m pc' Ls (.int r :: S))) : own_G p e below Φ T (mkF m pc Ls (.int b :: .int a :: S)) := by
  obtain ⟨⟨locs, Y, N⟩, hh, hn, hx, hZ, hby, hml, hown, hnm, hret, hlk⟩ := X
  subst hpc
  exact own_by K fun t kk => XS.isub Y.here hx rfl (hb hby hd) rfl (hr ▸ kk)
theorem own_lsub (X : own_S Z n0 bytes y ml ret p l e R s m args below meth c T k sl h) {a b r : Int64} (hd : decode bytes pc = .ok (.lsub, 1)) (hpc : pc + 1 = pc') (hr : a - b = r) (K : own_G p e below Φ T (mkF m pc' Ls (.long r :: S))) : own_G p e below Φ T (mkF m pc Ls (.long b :: .long a :: S)) := by
  obtain ⟨⟨locs, Y, N⟩, hh, hn, hx, hZ, hby, hml, hown, hnm, hret, hlk⟩ := X
  subst hpc
  exact own_by K fun t kk => XS.lsub Y.here hx rfl (hb hby hd) rfl (hr ▸ kk)
theorem own_imul (X : own_S Z n0 bytes y ml ret p l e R s m args below meth c T k sl h) {a b r : Int32} (hd : decode bytes pc = .ok (.imul, 1)) (hpc : pc + 1 = pc') (hr : a * b = r) (K : own_G p e below Φ T (mkF m pc' Ls (.int r :: S))) : own_G p e below Φ T (mkF m pc Ls (.int b :: .int a :: S)) := by
  obtain ⟨⟨locs, Y, N⟩, hh, hn, hx, hZ, hby, hml, hown, hnm, hret, hlk⟩ := X
  subst hpc
  exact own_by K fun t kk => XS.imul Y.here hx rfl (hb hby hd) rfl (hr ▸ kk)
theorem own_lmul (X : own_S Z n0 bytes y ml ret p l e R s m args below meth c T k sl h) {a b r : Int64} (hd : decode bytes pc = .ok (.lmul, 1)) (hpc : pc + 1 = pc') (hr : a * b = r) (K : own_G p e below Φ T (mkF m pc' Ls (.long r :: S))) : own_G p e below Φ T (mkF m pc Ls (.long b :: .long a :: S)) := by
  obtain ⟨⟨locs, Y, N⟩, hh, hn, hx, hZ, hby, hml, hown, hnm, hret, hlk⟩ := X
  subst hpc
  exact own_by K fun t kk => XS.lmul Y.here hx rfl (hb hby hd) rfl (hr ▸ kk)
theorem own_iand (X : own_S Z n0 bytes y ml ret p l e R s m args below meth c T k sl h) {a b r : Int32} (hd : decode bytes pc = .ok (.iand, 1)) (hpc : pc + 1 = pc') (hr : a &&& b = r) (K : own_G p e below Φ T (mkF m pc' Ls (.int r :: S))) : own_G p e below Φ T (mkF m pc Ls (.int b :: .int a :: S)) := by
  obtain ⟨⟨locs, Y, N⟩, hh, hn, hx, hZ, hby, hml, hown, hnm, hret, hlk⟩ := X
  subst hpc
  exact own_by K fun t kk => XS.iand Y.here hx rfl (hb hby hd) rfl (hr ▸ kk)
theorem own_land (X : own_S Z n0 bytes y ml ret p l e R s m args below meth c T k sl h) {a b r : Int64} (hd : decode bytes pc = .ok (.land, 1)) (hpc : pc + 1 = pc') (hr : a &&& b = r) (K : own_G p e below Φ T (mkF m pc' Ls (.long r :: S))) : own_G p e below Φ T (mkF m pc Ls (.long b :: .long a :: S)) := by
  obtain ⟨⟨locs, Y, N⟩, hh, hn, hx, hZ, hby, hml, hown, hnm, hret, hlk⟩ := X
  subst hpc
  exact own_by K fun t kk => XS.land Y.here hx rfl (hb hby hd) rfl (hr ▸ kk)
theorem own_ior (X : own_S Z n0 bytes y ml ret p l e R s m args below meth c T k sl h) {a b r : Int32} (hd : decode bytes pc = .ok (.ior, 1)) (hpc : pc + 1 = pc') (hr : a ||| b = r) (K : own_G p e below Φ T (mkF m pc' Ls (.int r :: S))) : own_G p e below Φ T (mkF m pc Ls (.int b :: .int a :: S)) := by
  obtain ⟨⟨locs, Y, N⟩, hh, hn, hx, hZ, hby, hml, hown, hnm, hret, hlk⟩ := X
  subst hpc
  exact own_by K fun t kk => XS.ior Y.here hx rfl (hb hby hd) rfl (hr ▸ kk)
theorem own_lor (X : own_S Z n0 bytes y ml ret p l e R s m args below meth c T k sl h) {a b r : Int64} (hd : decode bytes pc = .ok (.lor, 1)) (hpc : pc + 1 = pc') (hr : a ||| b = r) (K : own_G p e below Φ T (mkF m pc' Ls (.long r :: S))) : own_G p e below Φ T (mkF m pc Ls (.long b :: .long a :: S)) := by
  obtain ⟨⟨locs, Y, N⟩, hh, hn, hx, hZ, hby, hml, hown, hnm, hret, hlk⟩ := X
  subst hpc
  exact own_by K fun t kk => XS.lor Y.here hx rfl (hb hby hd) rfl (hr ▸ kk)
theorem own_ixor (X : own_S Z n0 bytes y ml ret p l e R s m args below meth c T k sl h) {a b r : Int32} (hd : decode bytes pc = .ok (.ixor, 1)) (hpc : pc + 1 = pc') (hr : a ^^^ b = r) (K : own_G p e below Φ T (mkF m pc' Ls (.int r :: S))) : own_G p e below Φ T (mkF m pc Ls (.int b :: .int a :: S)) := by
  obtain ⟨⟨locs, Y, N⟩, hh, hn, hx, hZ, hby, hml, hown, hnm, hret, hlk⟩ := X
  subst hpc
  exact own_by K fun t kk => XS.ixor Y.here hx rfl (hb hby hd) rfl (hr ▸ kk)
theorem own_lxor (X : own_S Z n0 bytes y ml ret p l e R s m args below meth c T k sl h) {a b r : Int64} (hd : decode bytes pc = .ok (.lxor, 1)) (hpc : pc + 1 = pc') (hr : a ^^^ b = r) (K : own_G p e below Φ T (mkF m pc' Ls (.long r :: S))) : own_G p e below Φ T (mkF m pc Ls (.long b :: .long a :: S)) := by
  obtain ⟨⟨locs, Y, N⟩, hh, hn, hx, hZ, hby, hml, hown, hnm, hret, hlk⟩ := X
  subst hpc
  exact own_by K fun t kk => XS.lxor Y.here hx rfl (hb hby hd) rfl (hr ▸ kk)
theorem own_ishl (X : own_S Z n0 bytes y ml ret p l e R s m args below meth c T k sl h) {a r : Int32} {b : Int32} (hd : decode bytes pc = .ok (.ishl, 1)) (hpc : pc + 1 = pc') (hr : (a <<< (b &&& 31)) = r) (K : own_G p e below Φ T (mkF m pc' Ls (.int r :: S))) : own_G p e below Φ T (mkF m pc Ls (.int b :: .int a :: S)) := by
  obtain ⟨⟨locs, Y, N⟩, hh, hn, hx, hZ, hby, hml, hown, hnm, hret, hlk⟩ := X
  subst hpc
  exact own_by K fun t kk => XS.ishl Y.here hx rfl (hb hby hd) rfl (hr ▸ kk)
theorem own_ishr (X : own_S Z n0 bytes y ml ret p l e R s m args below meth c T k sl h) {a r : Int32} {b : Int32} (hd : decode bytes pc = .ok (.ishr, 1)) (hpc : pc + 1 = pc') (hr : (a >>> (b &&& 31)) = r) (K : own_G p e below Φ T (mkF m pc' Ls (.int r :: S))) : own_G p e below Φ T (mkF m pc Ls (.int b :: .int a :: S)) := by
  obtain ⟨⟨locs, Y, N⟩, hh, hn, hx, hZ, hby, hml, hown, hnm, hret, hlk⟩ := X
  subst hpc
  exact own_by K fun t kk => XS.ishr Y.here hx rfl (hb hby hd) rfl (hr ▸ kk)
theorem own_iushr (X : own_S Z n0 bytes y ml ret p l e R s m args below meth c T k sl h) {a r : Int32} {b : Int32} (hd : decode bytes pc = .ok (.iushr, 1)) (hpc : pc + 1 = pc') (hr : ((a.toUInt32 >>> (b &&& 31).toUInt32).toInt32) = r) (K : own_G p e below Φ T (mkF m pc' Ls (.int r :: S))) : own_G p e below Φ T (mkF m pc Ls (.int b :: .int a :: S)) := by
  obtain ⟨⟨locs, Y, N⟩, hh, hn, hx, hZ, hby, hml, hown, hnm, hret, hlk⟩ := X
  subst hpc
  exact own_by K fun t kk => XS.iushr Y.here hx rfl (hb hby hd) rfl (hr ▸ kk)
theorem own_lshl (X : own_S Z n0 bytes y ml ret p l e R s m args below meth c T k sl h) {a r : Int64} {b : Int32} (hd : decode bytes pc = .ok (.lshl, 1)) (hpc : pc + 1 = pc') (hr : (a <<< (b &&& 0x3f).toInt64) = r) (K : own_G p e below Φ T (mkF m pc' Ls (.long r :: S))) : own_G p e below Φ T (mkF m pc Ls (.int b :: .long a :: S)) := by
  obtain ⟨⟨locs, Y, N⟩, hh, hn, hx, hZ, hby, hml, hown, hnm, hret, hlk⟩ := X
  subst hpc
  exact own_by K fun t kk => XS.lshl Y.here hx rfl (hb hby hd) rfl (hr ▸ kk)
theorem own_lshr (X : own_S Z n0 bytes y ml ret p l e R s m args below meth c T k sl h) {a r : Int64} {b : Int32} (hd : decode bytes pc = .ok (.lshr, 1)) (hpc : pc + 1 = pc') (hr : (a >>> (b &&& 0x3f).toInt64) = r) (K : own_G p e below Φ T (mkF m pc' Ls (.long r :: S))) : own_G p e below Φ T (mkF m pc Ls (.int b :: .long a :: S)) := by
  obtain ⟨⟨locs, Y, N⟩, hh, hn, hx, hZ, hby, hml, hown, hnm, hret, hlk⟩ := X
  subst hpc
  exact own_by K fun t kk => XS.lshr Y.here hx rfl (hb hby hd) rfl (hr ▸ kk)
theorem own_lushr (X : own_S Z n0 bytes y ml ret p l e R s m args below meth c T k sl h) {a r : Int64} {b : Int32} (hd : decode bytes pc = .ok (.lushr, 1)) (hpc : pc + 1 = pc') (hr : ((a.toUInt64 >>> (b &&& 0x3f).toInt64.toUInt64).toInt64) = r) (K : own_G p e below Φ T (mkF m pc' Ls (.long r :: S))) : own_G p e below Φ T (mkF m pc Ls (.int b :: .long a :: S)) := by
  obtain ⟨⟨locs, Y, N⟩, hh, hn, hx, hZ, hby, hml, hown, hnm, hret, hlk⟩ := X
  subst hpc
  exact own_by K fun t kk => XS.lushr Y.here hx rfl (hb hby hd) rfl (hr ▸ kk)
theorem own_idiv (X : own_S Z n0 bytes y ml ret p l e R s m args below meth c T k sl h) {a b r : Int32} (hd : decode bytes pc = .ok (.idiv, 1)) (hpc : pc + 1 = pc') (hz : b ≠ 0) (hr : a / b = r) (K : own_G p e below Φ T (mkF m pc' Ls (.int r :: S))) : own_G p e below Φ T (mkF m pc Ls (.int b :: .int a :: S)) := by
  obtain ⟨⟨locs, Y, N⟩, hh, hn, hx, hZ, hby, hml, hown, hnm, hret, hlk⟩ := X
  subst hpc
  exact own_by K fun t kk => XS.idiv Y.here hx rfl (hb hby hd) rfl hz (hr ▸ kk)
theorem own_irem (X : own_S Z n0 bytes y ml ret p l e R s m args below meth c T k sl h) {a b r : Int32} (hd : decode bytes pc = .ok (.irem, 1)) (hpc : pc + 1 = pc') (hz : b ≠ 0) (hr : a - (a / b) * b = r) (K : own_G p e below Φ T (mkF m pc' Ls (.int r :: S))) : own_G p e below Φ T (mkF m pc Ls (.int b :: .int a :: S)) := by
  obtain ⟨⟨locs, Y, N⟩, hh, hn, hx, hZ, hby, hml, hown, hnm, hret, hlk⟩ := X
  subst hpc
  exact own_by K fun t kk => XS.irem Y.here hx rfl (hb hby hd) rfl hz (hr ▸ kk)
theorem own_ldiv (X : own_S Z n0 bytes y ml ret p l e R s m args below meth c T k sl h) {a b r : Int64} (hd : decode bytes pc = .ok (.ldiv, 1)) (hpc : pc + 1 = pc') (hz : b ≠ 0) (hr : a / b = r) (K : own_G p e below Φ T (mkF m pc' Ls (.long r :: S))) : own_G p e below Φ T (mkF m pc Ls (.long b :: .long a :: S)) := by
  obtain ⟨⟨locs, Y, N⟩, hh, hn, hx, hZ, hby, hml, hown, hnm, hret, hlk⟩ := X
  subst hpc
  exact own_by K fun t kk => XS.ldiv Y.here hx rfl (hb hby hd) rfl hz (hr ▸ kk)
theorem own_lrem (X : own_S Z n0 bytes y ml ret p l e R s m args below meth c T k sl h) {a b r : Int64} (hd : decode bytes pc = .ok (.lrem, 1)) (hpc : pc + 1 = pc') (hz : b ≠ 0) (hr : a - (a / b) * b = r) (K : own_G p e below Φ T (mkF m pc' Ls (.long r :: S))) : own_G p e below Φ T (mkF m pc Ls (.long b :: .long a :: S)) := by
  obtain ⟨⟨locs, Y, N⟩, hh, hn, hx, hZ, hby, hml, hown, hnm, hret, hlk⟩ := X
  subst hpc
  exact own_by K fun t kk => XS.lrem Y.here hx rfl (hb hby hd) rfl hz (hr ▸ kk)
theorem own_ineg (X : own_S Z n0 bytes y ml ret p l e R s m args below meth c T k sl h) {a : Int32} {r : Int32} (hd : decode bytes pc = .ok (.ineg, 1)) (hpc : pc + 1 = pc') (hr : -a = r) (K : own_G p e below Φ T (mkF m pc' Ls (.int r :: S))) : own_G p e below Φ T (mkF m pc Ls (.int a :: S)) := by
  obtain ⟨⟨locs, Y, N⟩, hh, hn, hx, hZ, hby, hml, hown, hnm, hret, hlk⟩ := X
  subst hpc
  exact own_by K fun t kk => XS.ineg Y.here hx rfl (hb hby hd) rfl (hr ▸ kk)
theorem own_lneg (X : own_S Z n0 bytes y ml ret p l e R s m args below meth c T k sl h) {a : Int64} {r : Int64} (hd : decode bytes pc = .ok (.lneg, 1)) (hpc : pc + 1 = pc') (hr : -a = r) (K : own_G p e below Φ T (mkF m pc' Ls (.long r :: S))) : own_G p e below Φ T (mkF m pc Ls (.long a :: S)) := by
  obtain ⟨⟨locs, Y, N⟩, hh, hn, hx, hZ, hby, hml, hown, hnm, hret, hlk⟩ := X
  subst hpc
  exact own_by K fun t kk => XS.lneg Y.here hx rfl (hb hby hd) rfl (hr ▸ kk)
theorem own_i2l (X : own_S Z n0 bytes y ml ret p l e R s m args below meth c T k sl h) {a : Int32} {r : Int64} (hd : decode bytes pc = .ok (.i2l, 1)) (hpc : pc + 1 = pc') (hr : a.toInt64 = r) (K : own_G p e below Φ T (mkF m pc' Ls (.long r :: S))) : own_G p e below Φ T (mkF m pc Ls (.int a :: S)) := by
  obtain ⟨⟨locs, Y, N⟩, hh, hn, hx, hZ, hby, hml, hown, hnm, hret, hlk⟩ := X
  subst hpc
  exact own_by K fun t kk => XS.i2l Y.here hx rfl (hb hby hd) rfl (hr ▸ kk)
theorem own_l2i (X : own_S Z n0 bytes y ml ret p l e R s m args below meth c T k sl h) {a : Int64} {r : Int32} (hd : decode bytes pc = .ok (.l2i, 1)) (hpc : pc + 1 = pc') (hr : a.toInt32 = r) (K : own_G p e below Φ T (mkF m pc' Ls (.int r :: S))) : own_G p e below Φ T (mkF m pc Ls (.long a :: S)) := by
  obtain ⟨⟨locs, Y, N⟩, hh, hn, hx, hZ, hby, hml, hown, hnm, hret, hlk⟩ := X
  subst hpc
  exact own_by K fun t kk => XS.l2i Y.here hx rfl (hb hby hd) rfl (hr ▸ kk)
theorem own_i2b (X : own_S Z n0 bytes y ml ret p l e R s m args below meth c T k sl h) {a : Int32} {r : Int32} (hd : decode bytes pc = .ok (.i2b, 1)) (hpc : pc + 1 = pc') (hr : a.toInt8.toInt32 = r) (K : own_G p e below Φ T (mkF m pc' Ls (.int r :: S))) : own_G p e below Φ T (mkF m pc Ls (.int a :: S)) := by
  obtain ⟨⟨locs, Y, N⟩, hh, hn, hx, hZ, hby, hml, hown, hnm, hret, hlk⟩ := X
  subst hpc
  exact own_by K fun t kk => XS.i2b Y.here hx rfl (hb hby hd) rfl (hr ▸ kk)
theorem own_i2s (X : own_S Z n0 bytes y ml ret p l e R s m args below meth c T k sl h) {a : Int32} {r : Int32} (hd : decode bytes pc = .ok (.i2s, 1)) (hpc : pc + 1 = pc') (hr : a.toInt16.toInt32 = r) (K : own_G p e below Φ T (mkF m pc' Ls (.int r :: S))) : own_G p e below Φ T (mkF m pc Ls (.int a :: S)) := by
  obtain ⟨⟨locs, Y, N⟩, hh, hn, hx, hZ, hby, hml, hown, hnm, hret, hlk⟩ := X
  subst hpc
  exact own_by K fun t kk => XS.i2s Y.here hx rfl (hb hby hd) rfl (hr ▸ kk)
theorem own_i2c (X : own_S Z n0 bytes y ml ret p l e R s m args below meth c T k sl h) {a : Int32} {r : Int32} (hd : decode bytes pc = .ok (.i2c, 1)) (hpc : pc + 1 = pc') (hr : a.toUInt32.toUInt16.toUInt32.toInt32 = r) (K : own_G p e below Φ T (mkF m pc' Ls (.int r :: S))) : own_G p e below Φ T (mkF m pc Ls (.int a :: S)) := by
  obtain ⟨⟨locs, Y, N⟩, hh, hn, hx, hZ, hby, hml, hown, hnm, hret, hlk⟩ := X
  subst hpc
  exact own_by K fun t kk => XS.i2c Y.here hx rfl (hb hby hd) rfl (hr ▸ kk)
theorem own_lcmp (X : own_S Z n0 bytes y ml ret p l e R s m args below meth c T k sl h) {a b : Int64} (hd : decode bytes pc = .ok (.lcmp, 1)) (hpc : pc + 1 = pc') (K : own_G p e below Φ T (mkF m pc' Ls (.int (lcmpW a b) :: S))) : own_G p e below Φ T (mkF m pc Ls (.long b :: .long a :: S)) := by
  obtain ⟨⟨locs, Y, N⟩, hh, hn, hx, hZ, hby, hml, hown, hnm, hret, hlk⟩ := X
  subst hpc
  exact own_by K fun t kk => XS.lcmp Y.here hx rfl (hb hby hd) rfl kk
theorem own_iconst (X : own_S Z n0 bytes y ml ret p l e R s m args below meth c T k sl h) {i : Int} {v : Int32} (hd : decode bytes pc = .ok (.iconst i, 1)) (hpc : pc + 1 = pc') (hv : Int32.ofInt i = v) (K : own_G p e below Φ T (mkF m pc' Ls (.int v :: S))) : own_G p e below Φ T (mkF m pc Ls (S)) := by
  obtain ⟨⟨locs, Y, N⟩, hh, hn, hx, hZ, hby, hml, hown, hnm, hret, hlk⟩ := X
  subst hpc
  exact own_by K fun t kk => XS.iconst Y.here hx rfl (hb hby hd) (hv ▸ kk)
theorem own_bipush (X : own_S Z n0 bytes y ml ret p l e R s m args below meth c T k sl h) {i : Int} {v : Int32} (hd : decode bytes pc = .ok (.bipush i, 2)) (hpc : pc + 2 = pc') (hv : (Int8.ofInt i).toInt32 = v) (K : own_G p e below Φ T (mkF m pc' Ls (.int v :: S))) : own_G p e below Φ T (mkF m pc Ls (S)) := by
  obtain ⟨⟨locs, Y, N⟩, hh, hn, hx, hZ, hby, hml, hown, hnm, hret, hlk⟩ := X
  subst hpc
  exact own_by K fun t kk => XS.bipush Y.here hx rfl (hb hby hd) (hv ▸ kk)
theorem own_sipush (X : own_S Z n0 bytes y ml ret p l e R s m args below meth c T k sl h) {i : Int} {v : Int32} (hd : decode bytes pc = .ok (.sipush i, 3)) (hpc : pc + 3 = pc') (hv : (Int16.ofInt i).toInt32 = v) (K : own_G p e below Φ T (mkF m pc' Ls (.int v :: S))) : own_G p e below Φ T (mkF m pc Ls (S)) := by
  obtain ⟨⟨locs, Y, N⟩, hh, hn, hx, hZ, hby, hml, hown, hnm, hret, hlk⟩ := X
  subst hpc
  exact own_by K fun t kk => XS.sipush Y.here hx rfl (hb hby hd) (hv ▸ kk)
theorem own_lconst (X : own_S Z n0 bytes y ml ret p l e R s m args below meth c T k sl h) {i : Fin 2} {v : Int64} (hd : decode bytes pc = .ok (.lconst i, 1)) (hpc : pc + 1 = pc') (hv : Int64.ofNat i = v) (K : own_G p e below Φ T (mkF m pc' Ls (.long v :: S))) : own_G p e below Φ T (mkF m pc Ls (S)) := by
  obtain ⟨⟨locs, Y, N⟩, hh, hn, hx, hZ, hby, hml, hown, hnm, hret, hlk⟩ := X
  subst hpc
  exact own_by K fun t kk => XS.lconst Y.here hx rfl (hb hby hd) (hv ▸ kk)
theorem own_aconst_null (X : own_S Z n0 bytes y ml ret p l e R s m args below meth c T k sl h) (hd : decode bytes pc = .ok (.aconst_null, 1)) (hpc : pc + 1 = pc') (K : own_G p e below Φ T (mkF m pc' Ls (.null :: S))) : own_G p e below Φ T (mkF m pc Ls (S)) := by
  obtain ⟨⟨locs, Y, N⟩, hh, hn, hx, hZ, hby, hml, hown, hnm, hret, hlk⟩ := X
  subst hpc
  exact own_by K fun t kk => XS.aconstNull Y.here hx rfl (hb hby hd) kk
theorem own_iload (X : own_S Z n0 bytes y ml ret p l e R s m args below meth c T k sl h) {i : Nat} {v : Int32} (hd : decode bytes pc = .ok (.iload i, 2)) (hpc : pc + 2 = pc') (hl : Ls[i]? = some (.val (.int v))) (K : own_G p e below Φ T (mkF m pc' Ls (.int v :: S))) : own_G p e below Φ T (mkF m pc Ls (S)) := by
  obtain ⟨⟨locs, Y, N⟩, hh, hn, hx, hZ, hby, hml, hown, hnm, hret, hlk⟩ := X
  subst hpc
  exact own_by K fun t kk => XS.iload Y.here hx rfl (hb hby hd) hl kk
theorem own_iloadN (X : own_S Z n0 bytes y ml ret p l e R s m args below meth c T k sl h) {i : Fin 4} {v : Int32} (hd : decode bytes pc = .ok (.iload_n i, 1)) (hpc : pc + 1 = pc') (hl : Ls[i.val]? = some (.val (.int v))) (K : own_G p e below Φ T (mkF m pc' Ls (.int v :: S))) : own_G p e below Φ T (mkF m pc Ls (S)) := by
  obtain ⟨⟨locs, Y, N⟩, hh, hn, hx, hZ, hby, hml, hown, hnm, hret, hlk⟩ := X
  subst hpc
  exact own_by K fun t kk => XS.iloadN Y.here hx rfl (hb hby hd) hl kk
theorem own_lload (X : own_S Z n0 bytes y ml ret p l e R s m args below meth c T k sl h) {i : Nat} {v : Int64} (hd : decode bytes pc = .ok (.lload i, 2)) (hpc : pc + 2 = pc') (hl : Ls[i]? = some (.val (.long v))) (K : own_G p e below Φ T (mkF m pc' Ls (.long v :: S))) : own_G p e below Φ T (mkF m pc Ls (S)) := by
  obtain ⟨⟨locs, Y, N⟩, hh, hn, hx, hZ, hby, hml, hown, hnm, hret, hlk⟩ := X
  subst hpc
  exact own_by K fun t kk => XS.lload Y.here hx rfl (hb hby hd) hl kk
theorem own_lloadN (X : own_S Z n0 bytes y ml ret p l e R s m args below meth c T k sl h) {i : Fin 4} {v : Int64} (hd : decode bytes pc = .ok (.lload_n i, 1)) (hpc : pc + 1 = pc') (hl : Ls[i.val]? = some (.val (.long v))) (K : own_G p e below Φ T (mkF m pc' Ls (.long v :: S))) : own_G p e below Φ T (mkF m pc Ls (S)) := by
  obtain ⟨⟨locs, Y, N⟩, hh, hn, hx, hZ, hby, hml, hown, hnm, hret, hlk⟩ := X
  subst hpc
  exact own_by K fun t kk => XS.lloadN Y.here hx rfl (hb hby hd) hl kk
theorem own_aload (X : own_S Z n0 bytes y ml ret p l e R s m args below meth c T k sl h) {i : Nat} {v : Value} (hd : decode bytes pc = .ok (.aload i, 2)) (hpc : pc + 2 = pc') (hl : Ls[i]? = some (.val v)) (hv : v.isRef = true) (K : own_G p e below Φ T (mkF m pc' Ls (v :: S))) : own_G p e below Φ T (mkF m pc Ls (S)) := by
  obtain ⟨⟨locs, Y, N⟩, hh, hn, hx, hZ, hby, hml, hown, hnm, hret, hlk⟩ := X
  subst hpc
  exact own_by K fun t kk => XS.aload Y.here hx rfl (hb hby hd) hl hv kk
theorem own_aloadN (X : own_S Z n0 bytes y ml ret p l e R s m args below meth c T k sl h) {i : Fin 4} {v : Value} (hd : decode bytes pc = .ok (.aload_n i, 1)) (hpc : pc + 1 = pc') (hl : Ls[i.val]? = some (.val v)) (hv : v.isRef = true) (K : own_G p e below Φ T (mkF m pc' Ls (v :: S))) : own_G p e below Φ T (mkF m pc Ls (S)) := by
  obtain ⟨⟨locs, Y, N⟩, hh, hn, hx, hZ, hby, hml, hown, hnm, hret, hlk⟩ := X
  subst hpc
  exact own_by K fun t kk => XS.aloadN Y.here hx rfl (hb hby hd) hl hv kk
theorem own_dup (X : own_S Z n0 bytes y ml ret p l e R s m args below meth c T k sl h) {v : Value} (hd : decode bytes pc = .ok (.dup, 1)) (hpc : pc + 1 = pc') (hv : v.category = 1) (K : own_G p e below Φ T (mkF m pc' Ls (v :: v :: S))) : own_G p e below Φ T (mkF m pc Ls (v :: S)) := by
  obtain ⟨⟨locs, Y, N⟩, hh, hn, hx, hZ, hby, hml, hown, hnm, hret, hlk⟩ := X
  subst hpc
  exact own_by K fun t kk => XS.dup Y.here hx rfl (hb hby hd) rfl hv kk
theorem own_dup2 (X : own_S Z n0 bytes y ml ret p l e R s m args below meth c T k sl h) {v w : Value} (hd : decode bytes pc = .ok (.dup2, 1)) (hpc : pc + 1 = pc') (hv : v.category = 1) (hw : w.category = 1) (K : own_G p e below Φ T (mkF m pc' Ls (v :: w :: v :: w :: S))) : own_G p e below Φ T (mkF m pc Ls (v :: w :: S)) := by
  obtain ⟨⟨locs, Y, N⟩, hh, hn, hx, hZ, hby, hml, hown, hnm, hret, hlk⟩ := X
  subst hpc
  exact own_by K fun t kk => XT.dup2 Y.here hx rfl (hb hby hd) rfl hv hw kk
theorem own_pop (X : own_S Z n0 bytes y ml ret p l e R s m args below meth c T k sl h) {v : Value} (hd : decode bytes pc = .ok (.pop, 1)) (hpc : pc + 1 = pc') (hv : v.category = 1) (K : own_G p e below Φ T (mkF m pc' Ls (S))) : own_G p e below Φ T (mkF m pc Ls (v :: S)) := by
  obtain ⟨⟨locs, Y, N⟩, hh, hn, hx, hZ, hby, hml, hown, hnm, hret, hlk⟩ := X
  subst hpc
  exact own_by K fun t kk => XS.pop Y.here hx rfl (hb hby hd) rfl hv kk
theorem own_istore (X : own_S Z n0 bytes y ml ret p l e R s m args below meth c T k sl h) {i : Nat} {v : Int32} (hd : decode bytes pc = .ok (.istore i, 2)) (hpc : pc + 2 = pc') (hl : storeLocals Ls i (.int v) = some Ls') (K : own_G p e below Φ T (mkF m pc' Ls' S)) : own_G p e below Φ T (mkF m pc Ls (.int v :: S)) := by
  obtain ⟨⟨locs, Y, N⟩, hh, hn, hx, hZ, hby, hml, hown, hnm, hret, hlk⟩ := X
  subst hpc
  exact own_by K fun t kk => XS.istore Y.here hx rfl (hb hby hd) rfl hl kk
theorem own_istoreN (X : own_S Z n0 bytes y ml ret p l e R s m args below meth c T k sl h) {i : Fin 4} {v : Int32} (hd : decode bytes pc = .ok (.istore_n i, 1)) (hpc : pc + 1 = pc') (hl : storeLocals Ls i.val (.int v) = some Ls') (K : own_G p e below Φ T (mkF m pc' Ls' S)) : own_G p e below Φ T (mkF m pc Ls (.int v :: S)) := by
  obtain ⟨⟨locs, Y, N⟩, hh, hn, hx, hZ, hby, hml, hown, hnm, hret, hlk⟩ := X
  subst hpc
  exact own_by K fun t kk => XS.istoreN Y.here hx rfl (hb hby hd) rfl hl kk
theorem own_lstore (X : own_S Z n0 bytes y ml ret p l e R s m args below meth c T k sl h) {i : Nat} {v : Int64} (hd : decode bytes pc = .ok (.lstore i, 2)) (hpc : pc + 2 = pc') (hl : storeLocals Ls i (.long v) = some Ls') (K : own_G p e below Φ T (mkF m pc' Ls' S)) : own_G p e below Φ T (mkF m pc Ls (.long v :: S)) := by
  obtain ⟨⟨locs, Y, N⟩, hh, hn, hx, hZ, hby, hml, hown, hnm, hret, hlk⟩ := X
  subst hpc
  exact own_by K fun t kk => XS.lstore Y.here hx rfl (hb hby hd) rfl hl kk
theorem own_lstoreN (X : own_S Z n0 bytes y ml ret p l e R s m args below meth c T k sl h) {i : Fin 4} {v : Int64} (hd : decode bytes pc = .ok (.lstore_n i, 1)) (hpc : pc + 1 = pc') (hl : storeLocals Ls i.val (.long v) = some Ls') (K : own_G p e below Φ T (mkF m pc' Ls' S)) : own_G p e below Φ T (mkF m pc Ls (.long v :: S)) := by
  obtain ⟨⟨locs, Y, N⟩, hh, hn, hx, hZ, hby, hml, hown, hnm, hret, hlk⟩ := X
  subst hpc
  exact own_by K fun t kk => XS.lstoreN Y.here hx rfl (hb hby hd) rfl hl kk
theorem own_astore (X : own_S Z n0 bytes y ml ret p l e R s m args below meth c T k sl h) {i : Nat} {v : Value} (hd : decode bytes pc = .ok (.astore i, 2)) (hpc : pc + 2 = pc') (hv : v.isRef = true) (hl : storeLocals Ls i (v) = some Ls') (K : own_G p e below Φ T (mkF m pc' Ls' S)) : own_G p e below Φ T (mkF m pc Ls (v :: S)) := by
  obtain ⟨⟨locs, Y, N⟩, hh, hn, hx, hZ, hby, hml, hown, hnm, hret, hlk⟩ := X
  subst hpc
  exact own_by K fun t kk => XS.astore Y.here hx rfl (hb hby hd) rfl hv hl kk
theorem own_astoreN (X : own_S Z n0 bytes y ml ret p l e R s m args below meth c T k sl h) {i : Fin 4} {v : Value} (hd : decode bytes pc = .ok (.astore_n i, 1)) (hpc : pc + 1 = pc') (hv : v.isRef = true) (hl : storeLocals Ls i.val (v) = some Ls') (K : own_G p e below Φ T (mkF m pc' Ls' S)) : own_G p e below Φ T (mkF m pc Ls (v :: S)) := by
  obtain ⟨⟨locs, Y, N⟩, hh, hn, hx, hZ, hby, hml, hown, hnm, hret, hlk⟩ := X
  subst hpc
  exact own_by K fun t kk => XS.astoreN Y.here hx rfl (hb hby hd) rfl hv hl kk
theorem own_iinc (X : own_S Z n0 bytes y ml ret p l e R s m args below meth c T k sl h) {i : Nat} {cst : Int} {v : Int32} (hd : decode bytes pc = .ok (.iinc i cst, 3)) (hpc : pc + 3 = pc') (hl : Ls[i]? = some (.val (.int v))) {w : Int32} (hw : v + Int32.ofInt cst = w) (hs : storeLocals Ls i (.int w) = some Ls') (K : own_G p e below Φ T (mkF m pc' Ls' S)) : own_G p e below Φ T (mkF m pc Ls S) := by
  obtain ⟨⟨locs, Y, N⟩, hh, hn, hx, hZ, hby, hml, hown, hnm, hret, hlk⟩ := X
  subst hpc
  exact own_by K fun t kk => XS.iinc Y.here hx rfl (hb hby hd) hl (hw ▸ hs) kk
theorem own_goto (X : own_S Z n0 bytes y ml ret p l e R s m args below meth c T k sl h) {o : Int} (hd : decode bytes pc = .ok (.goto o, 3)) (ho : 0 ≤ (pc : Int) + o) (hp : ((pc : Int) + o).toNat = pc') (K : own_G p e below Φ T (mkF m pc' Ls S)) : own_G p e below Φ T (mkF m pc Ls S) := by
  obtain ⟨⟨locs, Y, N⟩, hh, hn, hx, hZ, hby, hml, hown, hnm, hret, hlk⟩ := X
  exact own_by K fun t kk => XS.goto Y.here hx rfl rfl (hb hby hd) ho hp kk
theorem own_icmp_eq (X : own_S Z n0 bytes y ml ret p l e R s m args below meth c T k sl h) {o : Int} {a b : Int32} {pct : Nat} (hd : decode bytes pc = .ok (.if_icmp .eq o, 3)) (hpc : pc + 3 = pc') (ho : 0 ≤ (pc : Int) + o) (hp : ((pc : Int) + o).toNat = pct) (Ky : a = b → own_G p e below Φ T (mkF m pct Ls S)) (Kn : ¬ a = b → own_G p e below Φ T (mkF m pc' Ls S)) : own_G p e below Φ T (mkF m pc Ls (.int b :: .int a :: S)) := by
  obtain ⟨⟨locs, Y, N⟩, hh, hn, hx, hZ, hby, hml, hown, hnm, hret, hlk⟩ := X
  subst hpc
  by_cases hc : a = b
  · exact own_by (Ky hc) fun t kk => XS.icmpYes Y.here hx rfl rfl (hb hby hd) rfl (teq hc).1 ho hp kk
  · exact own_by (Kn hc) fun t kk => XS.icmpNo Y.here hx rfl (hb hby hd) rfl (feq hc).1 kk
theorem own_if_eq (X : own_S Z n0 bytes y ml ret p l e R s m args below meth c T k sl h) {o : Int} {a : Int32} {pct : Nat} (hd : decode bytes pc = .ok (.ifCond .eq o, 3)) (hpc : pc + 3 = pc') (ho : 0 ≤ (pc : Int) + o) (hp : ((pc : Int) + o).toNat = pct) (Ky : a = 0 → own_G p e below Φ T (mkF m pct Ls S)) (Kn : ¬ a = 0 → own_G p e below Φ T (mkF m pc' Ls S)) : own_G p e below Φ T (mkF m pc Ls (.int a :: S)) := by
  obtain ⟨⟨locs, Y, N⟩, hh, hn, hx, hZ, hby, hml, hown, hnm, hret, hlk⟩ := X
  subst hpc
  by_cases hc : a = 0
  · exact own_by (Ky hc) fun t kk => XS.ifYes Y.here hx rfl rfl (hb hby hd) rfl ((if0 _ _).trans (teq hc).1) ho hp kk
  · exact own_by (Kn hc) fun t kk => XS.ifNo Y.here hx rfl (hb hby hd) rfl ((if0 _ _).trans (feq hc).1) kk
theorem own_icmp_ne (X : own_S Z n0 bytes y ml ret p l e R s m args below meth c T k sl h) {o : Int} {a b : Int32} {pct : Nat} (hd : decode bytes pc = .ok (.if_icmp .ne o, 3)) (hpc : pc + 3 = pc') (ho : 0 ≤ (pc : Int) + o) (hp : ((pc : Int) + o).toNat = pct) (Ky : ¬ a = b → own_G p e below Φ T (mkF m pct Ls S)) (Kn : a = b → own_G p e below Φ T (mkF m pc' Ls S)) : own_G p e below Φ T (mkF m pc Ls (.int b :: .int a :: S)) := by
  obtain ⟨⟨locs, Y, N⟩, hh, hn, hx, hZ, hby, hml, hown, hnm, hret, hlk⟩ := X
  subst hpc
  by_cases hc : ¬ a = b
  · exact own_by (Ky hc) fun t kk => XS.icmpYes Y.here hx rfl rfl (hb hby hd) rfl (feq hc).2 ho hp kk
  · replace hc := Decidable.not_not.mp hc; exact own_by (Kn hc) fun t kk => XS.icmpNo Y.here hx rfl (hb hby hd) rfl (teq hc).2 kk
theorem own_if_ne (X : own_S Z n0 bytes y ml ret p l e R s m args below meth c T k sl h) {o : Int} {a : Int32} {pct : Nat} (hd : decode bytes pc = .ok (.ifCond .ne o, 3)) (hpc : pc + 3 = pc') (ho : 0 ≤ (pc : Int) + o) (hp : ((pc : Int) + o).toNat = pct) (Ky : ¬ a = 0 → own_G p e below Φ T (mkF m pct Ls S)) (Kn : a = 0 → own_G p e below Φ T (mkF m pc' Ls S)) : own_G p e below Φ T (mkF m pc Ls (.int a :: S)) := by
  obtain ⟨⟨locs, Y, N⟩, hh, hn, hx, hZ, hby, hml, hown, hnm, hret, hlk⟩ := X
  subst hpc
  by_cases hc : ¬ a = 0
  · exact own_by (Ky hc) fun t kk => XS.ifYes Y.here hx rfl rfl (hb hby hd) rfl ((if0 _ _).trans (feq hc).2) ho hp kk
  · replace hc := Decidable.not_not.mp hc; exact own_by (Kn hc) fun t kk => XS.ifNo Y.here hx rfl (hb hby hd) rfl ((if0 _ _).trans (teq hc).2) kk
theorem own_icmp_lt (X : own_S Z n0 bytes y ml ret p l e R s m args below meth c T k sl h) {o : Int} {a b : Int32} {pct : Nat} (hd : decode bytes pc = .ok (.if_icmp .lt o, 3)) (hpc : pc + 3 = pc') (ho : 0 ≤ (pc : Int) + o) (hp : ((pc : Int) + o).toNat = pct) (Ky : a < b → own_G p e below Φ T (mkF m pct Ls S)) (Kn : ¬ a < b → own_G p e below Φ T (mkF m pc' Ls S)) : own_G p e below Φ T (mkF m pc Ls (.int b :: .int a :: S)) := by
  obtain ⟨⟨locs, Y, N⟩, hh, hn, hx, hZ, hby, hml, hown, hnm, hret, hlk⟩ := X
  subst hpc
  by_cases hc : a < b
  · exact own_by (Ky hc) fun t kk => XS.icmpYes Y.here hx rfl rfl (hb hby hd) rfl (tlt hc).1 ho hp kk
  · exact own_by (Kn hc) fun t kk => XS.icmpNo Y.here hx rfl (hb hby hd) rfl (flt hc).1 kk
theorem own_if_lt (X : own_S Z n0 bytes y ml ret p l e R s m args below meth c T k sl h) {o : Int} {a : Int32} {pct : Nat} (hd : decode bytes pc = .ok (.ifCond .lt o, 3)) (hpc : pc + 3 = pc') (ho : 0 ≤ (pc : Int) + o) (hp : ((pc : Int) + o).toNat = pct) (Ky : a < 0 → own_G p e below Φ T (mkF m pct Ls S)) (Kn : ¬ a < 0 → own_G p e below Φ T (mkF m pc' Ls S)) : own_G p e below Φ T (mkF m pc Ls (.int a :: S)) := by
  obtain ⟨⟨locs, Y, N⟩, hh, hn, hx, hZ, hby, hml, hown, hnm, hret, hlk⟩ := X
  subst hpc
  by_cases hc : a < 0
  · exact own_by (Ky hc) fun t kk => XS.ifYes Y.here hx rfl rfl (hb hby hd) rfl ((if0 _ _).trans (tlt hc).1) ho hp kk
  · exact own_by (Kn hc) fun t kk => XS.ifNo Y.here hx rfl (hb hby hd) rfl ((if0 _ _).trans (flt hc).1) kk
theorem own_icmp_ge (X : own_S Z n0 bytes y ml ret p l e R s m args below meth c T k sl h) {o : Int} {a b : Int32} {pct : Nat} (hd : decode bytes pc = .ok (.if_icmp .ge o, 3)) (hpc : pc + 3 = pc') (ho : 0 ≤ (pc : Int) + o) (hp : ((pc : Int) + o).toNat = pct) (Ky : ¬ a < b → own_G p e below Φ T (mkF m pct Ls S)) (Kn : a < b → own_G p e below Φ T (mkF m pc' Ls S)) : own_G p e below Φ T (mkF m pc Ls (.int b :: .int a :: S)) := by
  obtain ⟨⟨locs, Y, N⟩, hh, hn, hx, hZ, hby, hml, hown, hnm, hret, hlk⟩ := X
  subst hpc
  by_cases hc : ¬ a < b
  · exact own_by (Ky hc) fun t kk => XS.icmpYes Y.here hx rfl rfl (hb hby hd) rfl (flt hc).2.1 ho hp kk
  · replace hc := Decidable.not_not.mp hc; exact own_by (Kn hc) fun t kk => XS.icmpNo Y.here hx rfl (hb hby hd) rfl (tlt hc).2.1 kk
theorem own_if_ge (X : own_S Z n0 bytes y ml ret p l e R s m args below meth c T k sl h) {o : Int} {a : Int32} {pct : Nat} (hd : decode bytes pc = .ok (.ifCond .ge o, 3)) (hpc : pc + 3 = pc') (ho : 0 ≤ (pc : Int) + o) (hp : ((pc : Int) + o).toNat = pct) (Ky : ¬ a < 0 → own_G p e below Φ T (mkF m pct Ls S)) (Kn : a < 0 → own_G p e below Φ T (mkF m pc' Ls S)) : own_G p e below Φ T (mkF m pc Ls (.int a :: S)) := by
  obtain ⟨⟨locs, Y, N⟩, hh, hn, hx, hZ, hby, hml, hown, hnm, hret, hlk⟩ := X
  subst hpc
  by_cases hc : ¬ a < 0
  · exact own_by (Ky hc) fun t kk => XS.ifYes Y.here hx rfl rfl (hb hby hd) rfl ((if0 _ _).trans (flt hc).2.1) ho hp kk
  · replace hc := Decidable.not_not.mp hc; exact own_by (Kn hc) fun t kk => XS.ifNo Y.here hx rfl (hb hby hd) rfl ((if0 _ _).trans (tlt hc).2.1) kk
theorem own_icmp_gt (X : own_S Z n0 bytes y ml ret p l e R s m args below meth c T k sl h) {o : Int} {a b : Int32} {pct : Nat} (hd : decode bytes pc = .ok (.if_icmp .gt o, 3)) (hpc : pc + 3 = pc') (ho : 0 ≤ (pc : Int) + o) (hp : ((pc : Int) + o).toNat = pct) (Ky : b < a → own_G p e below Φ T (mkF m pct Ls S)) (Kn : ¬ b < a → own_G p e below Φ T (mkF m pc' Ls S)) : own_G p e below Φ T (mkF m pc Ls (.int b :: .int a :: S)) := by
  obtain ⟨⟨locs, Y, N⟩, hh, hn, hx, hZ, hby, hml, hown, hnm, hret, hlk⟩ := X
  subst hpc
  by_cases hc : b < a
  · exact own_by (Ky hc) fun t kk => XS.icmpYes Y.here hx rfl rfl (hb hby hd) rfl (tlt hc).2.2.1 ho hp kk
  · exact own_by (Kn hc) fun t kk => XS.icmpNo Y.here hx rfl (hb hby hd) rfl (flt hc).2.2.1 kk
theorem own_if_gt (X : own_S Z n0 bytes y ml ret p l e R s m args below meth c T k sl h) {o : Int} {a : Int32} {pct : Nat} (hd : decode bytes pc = .ok (.ifCond .gt o, 3)) (hpc : pc + 3 = pc') (ho : 0 ≤ (pc : Int) + o) (hp : ((pc : Int) + o).toNat = pct) (Ky : 0 < a → own_G p e below Φ T (mkF m pct Ls S)) (Kn : ¬ 0 < a → own_G p e below Φ T (mkF m pc' Ls S)) : own_G p e below Φ T (mkF m pc Ls (.int a :: S)) := by
  obtain ⟨⟨locs, Y, N⟩, hh, hn, hx, hZ, hby, hml, hown, hnm, hret, hlk⟩ := X
  subst hpc
  by_cases hc : 0 < a
  · exact own_by (Ky hc) fun t kk => XS.ifYes Y.here hx rfl rfl (hb hby hd) rfl ((if0 _ _).trans (tlt hc).2.2.1) ho hp kk
  · exact own_by (Kn hc) fun t kk => XS.ifNo Y.here hx rfl (hb hby hd) rfl ((if0 _ _).trans (flt hc).2.2.1) kk
theorem own_icmp_le (X : own_S Z n0 bytes y ml ret p l e R s m args below meth c T k sl h) {o : Int} {a b : Int32} {pct : Nat} (hd : decode bytes pc = .ok (.if_icmp .le o, 3)) (hpc : pc + 3 = pc') (ho : 0 ≤ (pc : Int) + o) (hp : ((pc : Int) + o).toNat = pct) (Ky : ¬ b < a → own_G p e below Φ T (mkF m pct Ls S)) (Kn : b < a → own_G p e below Φ T (mkF m pc' Ls S)) : own_G p e below Φ T (mkF m pc Ls (.int b :: .int a :: S)) := by
  obtain ⟨⟨locs, Y, N⟩, hh, hn, hx, hZ, hby, hml, hown, hnm, hret, hlk⟩ := X
  subst hpc
  by_cases hc : ¬ b < a
  · exact own_by (Ky hc) fun t kk => XS.icmpYes Y.here hx rfl rfl (hb hby hd) rfl (flt hc).2.2.2 ho hp kk
  · replace hc := Decidable.not_not.mp hc; exact own_by (Kn hc) fun t kk => XS.icmpNo Y.here hx rfl (hb hby hd) rfl (tlt hc).2.2.2 kk
theorem own_if_le (X : own_S Z n0 bytes y ml ret p l e R s m args below meth c T k sl h) {o : Int} {a : Int32} {pct : Nat} (hd : decode bytes pc = .ok (.ifCond .le o, 3)) (hpc : pc + 3 = pc') (ho : 0 ≤ (pc : Int) + o) (hp : ((pc : Int) + o).toNat = pct) (Ky : ¬ 0 < a → own_G p e below Φ T (mkF m pct Ls S)) (Kn : 0 < a → own_G p e below Φ T (mkF m pc' Ls S)) : own_G p e below Φ T (mkF m pc Ls (.int a :: S)) := by
  obtain ⟨⟨locs, Y, N⟩, hh, hn, hx, hZ, hby, hml, hown, hnm, hret, hlk⟩ := X
  subst hpc
  by_cases hc : ¬ 0 < a
  · exact own_by (Ky hc) fun t kk => XS.ifYes Y.here hx rfl rfl (hb hby hd) rfl ((if0 _ _).trans (flt hc).2.2.2) ho hp kk
  · replace hc := Decidable.not_not.mp hc; exact own_by (Kn hc) fun t kk => XS.ifNo Y.here hx rfl (hb hby hd) rfl ((if0 _ _).trans (tlt hc).2.2.2) kk
theorem own_ifl_eq (X : own_S Z n0 bytes y ml ret p l e R s m args below meth c T k sl h) {o : Int} {a b : Int64} {pct : Nat} (hd : decode bytes pc = .ok (.ifCond .eq o, 3)) (hpc : pc + 3 = pc') (ho : 0 ≤ (pc : Int) + o) (hp : ((pc : Int) + o).toNat = pct) (Ky : a = b → own_G p e below Φ T (mkF m pct Ls S)) (Kn : ¬ a = b → own_G p e below Φ T (mkF m pc' Ls S)) : own_G p e below Φ T (mkF m pc Ls (.int (lcmpW a b) :: S)) :=
  own_if_eq X hd hpc ho hp (fun q => Ky ((lw_eq a b).mp q)) (fun q => Kn (fun r => q ((lw_eq a b).mpr r)))
theorem own_ifl_ne (X : own_S Z n0 bytes y ml ret p l e R s m args below meth c T k sl h) {o : Int} {a b : Int64} {pct : Nat} (hd : decode bytes pc = .ok (.ifCond .ne o, 3)) (hpc : pc + 3 = pc') (ho : 0 ≤ (pc : Int) + o) (hp : ((pc : Int) + o).toNat = pct) (Ky : ¬ a = b → own_G p e below Φ T (mkF m pct Ls S)) (Kn : a = b → own_G p e below Φ T (mkF m pc' Ls S)) : own_G p e below Φ T (mkF m pc Ls (.int (lcmpW a b) :: S)) :=
  own_if_ne X hd hpc ho hp (fun q => Ky (fun r => q ((lw_eq a b).mpr r))) (fun q => Kn ((lw_eq a b).mp q))
theorem own_ifl_lt (X : own_S Z n0 bytes y ml ret p l e R s m args below meth c T k sl h) {o : Int} {a b : Int64} {pct : Nat} (hd : decode bytes pc = .ok (.ifCond .lt o, 3)) (hpc : pc + 3 = pc') (ho : 0 ≤ (pc : Int) + o) (hp : ((pc : Int) + o).toNat = pct) (Ky : a < b → own_G p e below Φ T (mkF m pct Ls S)) (Kn : ¬ a < b → own_G p e below Φ T (mkF m pc' Ls S)) : own_G p e below Φ T (mkF m pc Ls (.int (lcmpW a b) :: S)) :=
  own_if_lt X hd hpc ho hp (fun q => Ky ((lw_lt a b).mp q)) (fun q => Kn (fun r => q ((lw_lt a b).mpr r)))
theorem own_ifl_ge (X : own_S Z n0 bytes y ml ret p l e R s m args below meth c T k sl h) {o : Int} {a b : Int64} {pct : Nat} (hd : decode bytes pc = .ok (.ifCond .ge o, 3)) (hpc : pc + 3 = pc') (ho : 0 ≤ (pc : Int) + o) (hp : ((pc : Int) + o).toNat = pct) (Ky : ¬ a < b → own_G p e below Φ T (mkF m pct Ls S)) (Kn : a < b → own_G p e below Φ T (mkF m pc' Ls S)) : own_G p e below Φ T (mkF m pc Ls (.int (lcmpW a b) :: S)) :=
  own_if_ge X hd hpc ho hp (fun q => Ky (fun r => q ((lw_lt a b).mpr r))) (fun q => Kn ((lw_lt a b).mp q))
theorem own_ifl_gt (X : own_S Z n0 bytes y ml ret p l e R s m args below meth c T k sl h) {o : Int} {a b : Int64} {pct : Nat} (hd : decode bytes pc = .ok (.ifCond .gt o, 3)) (hpc : pc + 3 = pc') (ho : 0 ≤ (pc : Int) + o) (hp : ((pc : Int) + o).toNat = pct) (Ky : b < a → own_G p e below Φ T (mkF m pct Ls S)) (Kn : ¬ b < a → own_G p e below Φ T (mkF m pc' Ls S)) : own_G p e below Φ T (mkF m pc Ls (.int (lcmpW a b) :: S)) :=
  own_if_gt X hd hpc ho hp (fun q => Ky ((lw_gt a b).mp q)) (fun q => Kn (fun r => q ((lw_gt a b).mpr r)))
theorem own_ifl_le (X : own_S Z n0 bytes y ml ret p l e R s m args below meth c T k sl h) {o : Int} {a b : Int64} {pct : Nat} (hd : decode bytes pc = .ok (.ifCond .le o, 3)) (hpc : pc + 3 = pc') (ho : 0 ≤ (pc : Int) + o) (hp : ((pc : Int) + o).toNat = pct) (Ky : ¬ b < a → own_G p e below Φ T (mkF m pct Ls S)) (Kn : b < a → own_G p e below Φ T (mkF m pc' Ls S)) : own_G p e below Φ T (mkF m pc Ls (.int (lcmpW a b) :: S)) :=
  own_if_le X hd hpc ho hp (fun q => Ky (fun r => q ((lw_gt a b).mpr r))) (fun q => Kn ((lw_gt a b).mp q))
theorem own_ldc {i : Nat} {v : Int32} (X : own_S Z n0 bytes y ml ret p l e R s m args below meth c T k sl h) (hw : (Jvm.Cond.constant y.cls i v).before a0 Z = true) (hd : decode bytes pc = .ok (.ldc i, 2)) (hpc : pc + 2 = pc') (K : own_G p e below Φ T (mkF m pc' Ls (.int v :: S))) : own_G p e below Φ T (mkF m pc Ls S) := by
  obtain ⟨⟨locs, Y, N⟩, hh, hn, hx, hZ, hby, hml, hown, hnm, hret, hlk⟩ := X
  subst hpc
  exact own_by K fun t kk => Y.ldcInt hx hown (mvT hZ hw) (g := mkF m pc Ls S) rfl (hb hby hd) t kk
theorem own_ldc2 {i : Nat} {v : Int64} (X : own_S Z n0 bytes y ml ret p l e R s m args below meth c T k sl h) (hw : (Jvm.Cond.constantLong y.cls i v).before a0 Z = true) (hd : decode bytes pc = .ok (.ldc2_w i, 3)) (hpc : pc + 3 = pc') (K : own_G p e below Φ T (mkF m pc' Ls (.long v :: S))) : own_G p e below Φ T (mkF m pc Ls S) := by
  obtain ⟨⟨locs, Y, N⟩, hh, hn, hx, hZ, hby, hml, hown, hnm, hret, hlk⟩ := X
  subst hpc
  exact own_by K fun t kk => Y.ldc2Long hx hown (mvT hZ hw) (g := mkF m pc Ls S) rfl (hb hby hd) t kk
theorem own_ret {w' : Option Value} {Θ : Heap → Prop} {w : Value} {t : FieldType} {i : Instr} (X : own_S Z n0 bytes y ml (some t) p l e R s m args below meth c T k sl h)
    (hd : decode bytes pc = .ok (i, 1)) (hi : (i = .ireturn ∧ (t = .int ∨ t = .boolean ∨ t = .byte ∨ t = .char ∨ t = .short) ∧ ∃ z, w = .int z) ∨ (i = .lreturn ∧ t = .long ∧ ∃ z, w = .long z) ∨ (i = .dreturn ∧ t = .double ∧ ∃ z, w = .double z) ∨ (i = .freturn ∧ t = .float ∧ ∃ z, w = .float z) ∨ (i = .areturn ∧ t.isReference = true ∧ w.isRef = true))
    (hnw : narrow t w = w) (hk : k ≤ R.cells) (hs : sl ≤ R.slots) (hw : some w = w') (hΘ : Θ h) : own_G p e below (own_Q n0 below s R w' Θ) T (mkF m pc Ls (w :: S)) := by
  obtain ⟨⟨locs, Y, N⟩, hh, hn, hx, hZ, hby, hml, hown, hnm, hret, hlk⟩ := X
  obtain ⟨fs, hr, hrun, hended, hW, hsame⟩ := Y.leave (v := some w) (fun h => by rw [hret] at h; cases h) hlk
  refine ⟨_, _, retOut Y hx hret hnw hi (hb hby hd) hr, hrun, hended, _, _, rfl, ⟨⟨hw, ?_⟩, N⟩, ⟨_, rfl⟩, hW, hsame.mono hk hs⟩
  show Θ T.heap
  rw [hh]; exact hΘ
theorem own_retV {w' : Option Value} {Θ : Heap → Prop} (X : own_S Z n0 bytes y ml none p l e R s m args below meth c T k sl h)
    (hd : decode bytes pc = .ok (.return_, 1)) (hk : k ≤ R.cells) (hs : sl ≤ R.slots) (hw : none = w') (hΘ : Θ h) : own_G p e below (own_Q n0 below s R w' Θ) T (mkF m pc Ls []) := by
  obtain ⟨⟨locs, Y, N⟩, hh, hn, hx, hZ, hby, hml, hown, hnm, hret, hlk⟩ := X
  obtain ⟨fs, hr, hrun, hended, hW, hsame⟩ := Y.leave (v := none) (fun _ => rfl) hlk
  refine ⟨_, _, Y.returnOut hx hret (hb hby hd) hr, hrun, hended, _, _, rfl, ⟨⟨hw, ?_⟩, N⟩, ⟨_, rfl⟩, hW, hsame.mono hk hs⟩
  show Θ T.heap
  rw [hh]; exact hΘ
theorem own_retZ {w' : Option Value} {Θ : Heap → Prop} {z : Int32} (X : own_S Z n0 bytes y ml (some .boolean) p l e R s m args below meth c T k sl h) (hd : decode bytes pc = .ok (.ireturn, 1)) (hz : z &&& 1 = z) (hk : k ≤ R.cells) (hs : sl ≤ R.slots) (hw : some (.int z) = w') (hΘ : Θ h) : own_G p e below (own_Q n0 below s R w' Θ) T (mkF m pc Ls (.int z :: S)) :=
  own_ret X hd (Or.inl ⟨rfl, by simp, _, rfl⟩) (by simp [narrow, hz]) hk hs hw hΘ
theorem own_retI {w' : Option Value} {Θ : Heap → Prop} {z : Int32} (X : own_S Z n0 bytes y ml (some .int) p l e R s m args below meth c T k sl h) (hd : decode bytes pc = .ok (.ireturn, 1)) (hk : k ≤ R.cells) (hs : sl ≤ R.slots) (hw : some (.int z) = w') (hΘ : Θ h) : own_G p e below (own_Q n0 below s R w' Θ) T (mkF m pc Ls (.int z :: S)) :=
  own_ret X hd (Or.inl ⟨rfl, by simp, _, rfl⟩) rfl hk hs hw hΘ
theorem own_retB {w' : Option Value} {Θ : Heap → Prop} {z : Int32} (X : own_S Z n0 bytes y ml (some .byte) p l e R s m args below meth c T k sl h) (hd : decode bytes pc = .ok (.ireturn, 1)) (hz : z.toInt8.toInt32 = z) (hk : k ≤ R.cells) (hs : sl ≤ R.slots) (hw : some (.int z) = w') (hΘ : Θ h) : own_G p e below (own_Q n0 below s R w' Θ) T (mkF m pc Ls (.int z :: S)) :=
  own_ret X hd (Or.inl ⟨rfl, by simp, _, rfl⟩) (by simp [narrow, hz]) hk hs hw hΘ
theorem own_retL {w' : Option Value} {Θ : Heap → Prop} {z : Int64} (X : own_S Z n0 bytes y ml (some .long) p l e R s m args below meth c T k sl h) (hd : decode bytes pc = .ok (.lreturn, 1)) (hk : k ≤ R.cells) (hs : sl ≤ R.slots) (hw : some (.long z) = w') (hΘ : Θ h) : own_G p e below (own_Q n0 below s R w' Θ) T (mkF m pc Ls (.long z :: S)) :=
  own_ret X hd (Or.inr (Or.inl ⟨rfl, rfl, _, rfl⟩)) rfl hk hs hw hΘ
theorem own_callS {z : MethodName} {cb : ByteArray} {cml : Nat} {cret : Option FieldType} {crm : Room} {i : Nat} {argsL rest S' : List Value} {w : Option Value} {Θ : Heap → Prop} (X : own_S Z n0 bytes y ml ret p l e R s m args below meth c T k sl h) (M : own_Met l z cb cml cret crm Z n0 argsL.toArray h w Θ)
    (w1 : (Jvm.Cond.methodLink y.cls i z).before a0 Z = true) (w2 : (Jvm.Cond.static z).before a0 Z = true) (w3 : (Jvm.Cond.initialized z.cls).before a0 Z = true) (w4 : (Jvm.Cond.code z cb cml cret).before a0 Z = true) (hz : z.cls ≠ "java/lang/invoke/MethodHandle" ∧ z.cls ≠ "java/lang/invoke/VarHandle")
    {W : Nat} (hf : crm.frames + 1 ≤ R.frames) (hl : W + (cml + 11) + crm.locals ≤ R.locals) (hc0 : crm.cells = 0) (hs0 : crm.slots = 0) (hc : k ≤ R.cells) (hs : sl ≤ R.slots)
    (hlen : ∀ sig, parseMethodDescriptor z.desc = some sig → argsL.length = sig.parameters.length) (hst : S = argsL.reverse ++ rest) (hW : 2 * 0 + (rest.map fun v => v.category).sum ≤ W) (hsz : Ls.size = ml)
    (hd : decode bytes pc = .ok (.invokestatic i, 3)) (hpc : pc + 3 = pc')
    (hS' : w.toList ++ rest = S') (K : ∀ T' h', own_S Z n0 bytes y ml ret p l e R s m args below meth c T' k sl h' → Θ h' → own_G p e below Φ T' (mkF m pc' Ls S')) : own_G p e below Φ T (mkF m pc Ls S) := by
  obtain ⟨⟨locs, Y, N⟩, hh, hn, hx, hZ, hby, hml, hown, hnm, hret, hlk⟩ := X
  subst hpc
  obtain ⟨v, _, ⟨T', L', k', n'⟩, -, X', ⟨Lc, hQ, l1, y1, z1⟩, st⟩ := Jvm.LawKit.callS Y hx (y := z) hown (mvT hZ w1) (mvT hZ w2) (mvT hZ w3) (mvT hZ w4) hz (backOf (W := W) (Q := fun v h' L => (v = w ∧ Θ h') ∧ Fr n0 L) (M []) hZ w4 w3 hf hl) (g := mkF m pc Ls S) rfl (by rw [hml]; exact hsz) (argsL := argsL) (rest := rest) hlen hst hW (hb hby hd) (fun _ _ => ⟨rfl, hh, by rw [hc0]; exact hc, by rw [hs0]; exact hs⟩)
  dsimp only [Pt.U, Pt.locs, Pt.cells, Pt.slots] at X' l1 y1 z1 st hQ
  subst l1 y1 z1
  obtain ⟨⟨rfl, hQ1⟩, hQ2⟩ := hQ
  rw [hc0, hs0] at X'
  subst hS'
  exact own_by (K T' _ ⟨⟨_, X', N.app hQ2⟩, rfl, hn, hx, hZ, hby, hml, hown, hnm, hret, hlk⟩ hQ1) st
theorem own_callI {z : MethodName} {cb : ByteArray} {cml : Nat} {crm : Room} {i : Nat} {a : Addr} {argsL rest S' : List Value} {w : Option Value} {Θ : Heap → Prop} (X : own_S Z n0 bytes y ml ret p l e R s m args below meth c T k sl h) (M : own_Met l z cb cml none crm Z n0 (.ref a :: argsL).toArray h w Θ) (hi : z.name = "<init>")
    (w1 : (Jvm.Cond.methodLink y.cls i z).before a0 Z = true) (w2 : (Jvm.Cond.instanceMethod z).before a0 Z = true) (w3 : (Jvm.Cond.initialized z.cls).before a0 Z = true) (w4 : (Jvm.Cond.code z cb cml none).before a0 Z = true) (hz : z.cls ≠ "java/lang/invoke/MethodHandle" ∧ z.cls ≠ "java/lang/invoke/VarHandle")
    {W : Nat} (hf : crm.frames + 1 ≤ R.frames) (hl : W + (cml + 11) + crm.locals ≤ R.locals) (hc0 : crm.cells = 0) (hs0 : crm.slots = 0) (hc : k ≤ R.cells) (hs : sl ≤ R.slots)
    (hlen : ∀ sig, parseMethodDescriptor z.desc = some sig → argsL.length = sig.parameters.length) (hst : S = argsL.reverse ++ .ref a :: rest) (hW : 2 * 0 + (rest.map fun v => v.category).sum ≤ W) (hsz : Ls.size = ml)
    (hd : decode bytes pc = .ok (.invokespecial i, 3)) (hpc : pc + 3 = pc')
    (hS' : w.toList ++ rest = S') (K : ∀ T' h', own_S Z n0 bytes y ml ret p l e R s m args below meth c T' k sl h' → Θ h' → own_G p e below Φ T' (mkF m pc' Ls S')) : own_G p e below Φ T (mkF m pc Ls S) := by
  obtain ⟨⟨locs, Y, N⟩, hh, hn, hx, hZ, hby, hml, hown, hnm, hret, hlk⟩ := X
  subst hpc
  obtain ⟨v, _, ⟨T', L', k', n'⟩, -, X', ⟨Lc, hQ, l1, y1, z1⟩, st⟩ := Y.specialBack hx (y := z) hi hown (mvT hZ w1) (mvT hZ w2) (mvT hZ w4) hz (backOf (W := W) (Q := fun v h' L => (v = w ∧ Θ h') ∧ Fr n0 L) (M []) hZ w4 w3 hf hl) (g := mkF m pc Ls S) rfl (by rw [hml]; exact hsz) (Steps.refl _) (a := a) (argsL := argsL) (rest := rest) hlen hst hW (hb hby hd) (fun _ _ => ⟨rfl, hh, by rw [hc0]; exact hc, by rw [hs0]; exact hs⟩)
  dsimp only [Pt.U, Pt.locs, Pt.cells, Pt.slots] at X' l1 y1 z1 st hQ
  subst l1 y1 z1
  obtain ⟨⟨rfl, hQ1⟩, hQ2⟩ := hQ
  rw [hc0, hs0] at X'
  subst hS'
  exact own_by (K T' _ ⟨⟨_, X', N.app hQ2⟩, rfl, hn, hx, hZ, hby, hml, hown, hnm, hret, hlk⟩ hQ1) fun t kk => st.trans kk
theorem own_callV {z : MethodName} {cb : ByteArray} {cml : Nat} {cret : Option FieldType} {crm : Room} {i : Nat} {a : Addr} {argsL rest S' : List Value} {w : Option Value} {Θ : Heap → Prop} (X : own_S Z n0 bytes y ml ret p l e R s m args below meth c T k sl h) (M : own_Met l z cb cml cret crm Z n0 (.ref a :: argsL).toArray h w Θ) (E : Exa Z h a z.cls)
    (w1 : (Jvm.Cond.methodLink y.cls i z).before a0 Z = true) (w2 : (Jvm.Cond.declares z).before a0 Z = true) (w5 : (Jvm.Cond.selects z.cls z z).before a0 Z = true) (w6 : (Jvm.Cond.instanceMethod z).before a0 Z = true) (w3 : (Jvm.Cond.initialized z.cls).before a0 Z = true) (w4 : (Jvm.Cond.code z cb cml cret).before a0 Z = true) (hz : z.cls ≠ "java/lang/invoke/MethodHandle" ∧ z.cls ≠ "java/lang/invoke/VarHandle")
    {W : Nat} (hf : crm.frames + 1 ≤ R.frames) (hl : W + (cml + 11) + crm.locals ≤ R.locals) (hc0 : crm.cells = 0) (hs0 : crm.slots = 0) (hc : k ≤ R.cells) (hs : sl ≤ R.slots)
    (hlen : ∀ sig, parseMethodDescriptor z.desc = some sig → argsL.length = sig.parameters.length) (hst : S = argsL.reverse ++ .ref a :: rest) (hW : 2 * 0 + (rest.map fun v => v.category).sum ≤ W) (hsz : Ls.size = ml)
    (hd : decode bytes pc = .ok (.invokevirtual i, 3)) (hpc : pc + 3 = pc')
    (hS' : w.toList ++ rest = S') (K : ∀ T' h', own_S Z n0 bytes y ml ret p l e R s m args below meth c T' k sl h' → Θ h' → own_G p e below Φ T' (mkF m pc' Ls S')) : own_G p e below Φ T (mkF m pc Ls S) := by
  obtain ⟨⟨locs, Y, N⟩, hh, hn, hx, hZ, hby, hml, hown, hnm, hret, hlk⟩ := X
  subst hpc
  obtain ⟨cq, kq, qa, qb, qc⟩ := isOf hZ hh E
  obtain ⟨v, _, ⟨T', L', k', n'⟩, -, X', ⟨Lc, hQ, l1, y1, z1⟩, st⟩ := Y.virtualBack hx (y := z) (z := z) hown (mvT hZ w1) (mvT hZ w2) (notFace_of_selects (args := #[]) (mvT hZ w5)) (mvT hZ w5) (mvT hZ w6) hz (backOf (W := W) (Q := fun v h' L => (v = w ∧ Θ h') ∧ Fr n0 L) (M []) hZ w4 w3 hf hl) qa qc (g := mkF m pc Ls S) rfl (by rw [hml]; exact hsz) (Steps.refl _) (argsL := argsL) (rest := rest) hlen hst hW (hb hby hd) (fun _ _ => ⟨rfl, hh, by rw [hc0]; exact hc, by rw [hs0]; exact hs⟩)
  dsimp only [Pt.U, Pt.locs, Pt.cells, Pt.slots] at X' l1 y1 z1 st hQ
  subst l1 y1 z1
  obtain ⟨⟨rfl, hQ1⟩, hQ2⟩ := hQ
  rw [hc0, hs0] at X'
  subst hS'
  exact own_by (K T' _ ⟨⟨_, X', N.app hQ2⟩, rfl, hn, hx, hZ, hby, hml, hown, hnm, hret, hlk⟩ hQ1) fun t kk => st.trans kk
theorem own_getF (X : own_S Z n0 bytes y ml ret p l e R s m args below meth c T k sl h) {i : Nat} {a : Addr} {O nm d : String} {v : Value} (w : (Jvm.Cond.fieldLink y.cls i O nm d).before a0 Z = true) (F : Fld Z h a O nm d v) (hd : decode bytes pc = .ok (.getfield i, 3)) (hpc : pc + 3 = pc')
    (K : ∀ T', own_S Z n0 bytes y ml ret p l e R s m args below meth c T' k sl h → own_G p e below Φ T' (mkF m pc' Ls (v :: S))) : own_G p e below Φ T (mkF m pc Ls (.ref a :: S)) := by
  obtain ⟨⟨locs, Y, N⟩, hh, hn, hx, hZ, hby, hml, hown, hnm, hret, hlk⟩ := X
  subst hpc
  obtain ⟨T', X', e', st⟩ := getF Y hx hZ hown (host := "") (Or.inl w) Via.refl hh F (g := mkF m pc Ls (.ref a :: S)) rfl rfl (hb hby hd)
  exact own_by (K T' ⟨⟨_, X', N⟩, e', hn, hx, hZ, hby, hml, hown, hnm, hret, hlk⟩) st
theorem own_putF (X : own_S Z n0 bytes y ml ret p l e R s m args below meth c T k sl h) {i kk : Nat} {a : Addr} {O nm d C : String} {v v' old : Value} {ty : FieldType} (w : (Jvm.Cond.fieldLink y.cls i O nm d).before a0 Z = true) (F : Fld Z h a O nm d old) (E : Exa Z h a C) (ha : n0 ≤ a)
    (L : (Jvm.Cond.lays C O nm d).before a0 Z = true ∨ ((Jvm.Cond.laysFinal C O nm d).before a0 Z = true ∧ y.cls = O ∧ y.name = "<init>")) (wi : (Jvm.Cond.instantiable C kk).before a0 Z = true) (hty : parseFieldDescriptor d = some ty) (hv : narrow ty v = v') (hf : fits ty v' = true)
    (hd : decode bytes pc = .ok (.putfield i, 3)) (hpc : pc + 3 = pc')
    (K : ∀ T' h', own_S Z n0 bytes y ml ret p l e R s m args below meth c T' k sl h' → Wr h h' a (Jvm.RoadKit.slotOf Z O nm d) v' → own_G p e below Φ T' (mkF m pc' Ls S)) : own_G p e below Φ T (mkF m pc Ls (v :: .ref a :: S)) := by
  obtain ⟨⟨locs, Y, N⟩, hh, hn, hx, hZ, hby, hml, hown, hnm, hret, hlk⟩ := X
  subst hpc
  obtain ⟨T', h', X', e', W', st⟩ := putFN Y hx hZ hown w Via.refl hh F E (L.imp id fun q => ⟨q.1, q.2.1, hnm.trans q.2.2⟩) wi hty hv hf (g := mkF m pc Ls (v :: .ref a :: S)) rfl rfl (hb hby hd)
  exact own_by (K T' h' ⟨⟨_, X', Fr.snoc X' N ha⟩, e', hn, hx, hZ, hby, hml, hown, hnm, hret, hlk⟩ W') st
theorem own_new (X : own_S Z n0 bytes y ml ret p l e R s m args below meth c T k sl h) {i n : Nat} {C : String} (w : (Jvm.Cond.classLink y.cls i C).before a0 Z = true) (wi : (Jvm.Cond.instantiable C n).before a0 Z = true) (wz : (Jvm.Cond.initialized C).before a0 Z = true) (hd : decode bytes pc = .ok (.new i, 3)) (hpc : pc + 3 = pc') (hc : k + 1 ≤ R.cells) (hs : sl + n ≤ R.slots)
    (K : ∀ T' h' a, own_S Z n0 bytes y ml ret p l e R s m args below meth c T' (k + 1) (sl + n) h' → n0 ≤ a → a = h.size → Ext h h' → Exa Z h' a C → (∀ {O nm d : String} {ty : FieldType}, Laid Z a0 C O nm d → parseFieldDescriptor d = some ty → Fld Z h' a O nm d (defaultValue ty)) → own_G p e below Φ T' (mkF m pc' Ls (.ref a :: S))) : own_G p e below Φ T (mkF m pc Ls S) := by
  have hsz := X.size
  obtain ⟨⟨locs, Y, N⟩, hh, hn, hx, hZ, hby, hml, hown, hnm, hret, hlk⟩ := X
  subst hpc
  obtain ⟨T', h', X', e', E', A', D', -, st⟩ := newO Y hx hZ hown w wi wz hh (g := mkF m pc Ls S) rfl (hb hby hd) hc hs
  exact own_by (K T' h' h.size ⟨⟨_, X', N⟩, e', hn, hx, hZ, hby, hml, hown, hnm, hret, hlk⟩ hsz rfl E' A' D') st
def own_A (Z : State) (h : Heap) (a : Addr) (ty : FieldType) (vs : List Int32) : Prop := ∃ cl : Cell, Arr Z h a cl ty ∧ cl.slots.size = vs.length ∧ ∀ j, j < vs.length → cl.slots[j]? = some (.int (vs.getD j 0))
theorem own_A.ext {h' : Heap} {a : Addr} {ty : FieldType} {vs : List Int32} (A : own_A Z h a ty vs) (E : Ext h h') : own_A Z h' a ty vs := by obtain ⟨cl, q, r⟩ := A; exact ⟨cl, q.ext E, r⟩
theorem own_A.other {h' : Heap} {a b : Addr} {ty : FieldType} {vs : List Int32} {i : Nat} {v : Value} (A : own_A Z h b ty vs) (W : Wr h h' a i v) (q : b ≠ a) : own_A Z h' b ty vs := by obtain ⟨cl, r, t⟩ := A; exact ⟨cl, r.other W q, t⟩
theorem own_A.keep {h' : Heap} {a : Addr} {ty : FieldType} {vs : List Int32} {ws : List Addr} (A : own_A Z h a ty vs) (K : Keep h h' ws) (q : a ∉ ws) : own_A Z h' a ty vs := by obtain ⟨cl, r, t⟩ := A; exact ⟨cl, ⟨K.2.1 a cl r.1 q, r.2⟩, t⟩
theorem own_A.lt {a : Addr} {ty : FieldType} {vs : List Int32} (A : own_A Z h a ty vs) : a < h.size := by obtain ⟨cl, q, r⟩ := A; exact q.lt
def own_in (j : Int32) (n : Nat) : Bool := decide (0 ≤ j.toInt) && Nat.blt j.toNatClampNeg n
theorem own_in_not {j : Int32} {n : Nat} (q : own_in j n = true) : j.toNatClampNeg < n ∧ ¬ (j < 0 ∨ n ≤ j.toNatClampNeg) := by
  simp only [own_in, Bool.and_eq_true, decide_eq_true_eq] at q
  have h2 : j.toNatClampNeg < n := Nat.le_of_ble_eq_true q.2
  refine ⟨h2, ?_⟩
  simp only [Int32.lt_iff_toInt_lt, Int32.reduceToInt]
  omega
theorem own_baload (X : own_S Z n0 bytes y ml ret p l e R s m args below meth c T k sl h) {a : Addr} {vs : List Int32} {j v : Int32} (A : own_A Z h a .byte vs) (hj : own_in j vs.length = true) (hv : vs.getD j.toNatClampNeg 0 = v) (hd : decode bytes pc = .ok (.baload, 1)) (hpc : pc + 1 = pc') (K : own_G p e below Φ T (mkF m pc' Ls (.int v :: S))) : own_G p e below Φ T (mkF m pc Ls (.int j :: .ref a :: S)) := by
  obtain ⟨⟨locs, Y, N⟩, hh, hn, hx, hZ, hby, hml, hown, hnm, hret, hlk⟩ := X
  subst hpc
  obtain ⟨cl, q, r, t⟩ := A
  obtain ⟨j1, j2⟩ := own_in_not hj
  exact own_by K fun t' kk => Y.baloadBytes hx (j := j) (v := .int v) (by rw [hh]; exact q.1) (State.isArrayOf_alike hZ.alike q.2.1) q.2.2 (by rw [r]; exact j2) (by rw [t _ j1, hv]) (g := mkF m pc Ls (.int j :: .ref a :: S)) rfl rfl (hb hby hd) t' kk
theorem own_iaload (X : own_S Z n0 bytes y ml ret p l e R s m args below meth c T k sl h) {a : Addr} {vs : List Int32} {j v : Int32} (A : own_A Z h a .int vs) (hj : own_in j vs.length = true) (hv : vs.getD j.toNatClampNeg 0 = v) (hd : decode bytes pc = .ok (.iaload, 1)) (hpc : pc + 1 = pc') (K : own_G p e below Φ T (mkF m pc' Ls (.int v :: S))) : own_G p e below Φ T (mkF m pc Ls (.int j :: .ref a :: S)) := by
  obtain ⟨⟨locs, Y, N⟩, hh, hn, hx, hZ, hby, hml, hown, hnm, hret, hlk⟩ := X
  subst hpc
  obtain ⟨cl, q, r, t⟩ := A
  obtain ⟨j1, j2⟩ := own_in_not hj
  exact own_by K fun t' kk => Y.iaload hx (j := j) (v := .int v) (by rw [hh]; exact q.1) (State.isArrayOf_alike hZ.alike q.2.1) q.2.2 (by rw [r]; exact j2) (by rw [t _ j1, hv]) (g := mkF m pc Ls (.int j :: .ref a :: S)) rfl rfl (hb hby hd) t' kk
theorem own_len (X : own_S Z n0 bytes y ml ret p l e R s m args below meth c T k sl h) {a : Addr} {ty : FieldType} {vs : List Int32} {v : Int32} (A : own_A Z h a ty vs) (hv : vs.length.toInt32 = v) (hd : decode bytes pc = .ok (.arraylength, 1)) (hpc : pc + 1 = pc') (K : own_G p e below Φ T (mkF m pc' Ls (.int v :: S))) : own_G p e below Φ T (mkF m pc Ls (.ref a :: S)) := by
  obtain ⟨⟨locs, Y, N⟩, hh, hn, hx, hZ, hby, hml, hown, hnm, hret, hlk⟩ := X
  subst hpc
  obtain ⟨cl, q, r, t⟩ := A
  exact own_by K fun t' kk => Y.arraylength hx (by rw [hh]; exact q.1) (State.isArrayOf_alike hZ.alike q.2.1) (g := mkF m pc Ls (.ref a :: S)) rfl rfl (hb hby hd) t' (by rw [r, hv]; exact kk)
theorem own_set {h' : Heap} {a : Addr} {ty : FieldType} {vs : List Int32} {i : Nat} {v : Int32} {cl : Cell} (q : Arr Z h a cl ty) (r : cl.slots.size = vs.length) (t : ∀ j, j < vs.length → cl.slots[j]? = some (.int (vs.getD j 0))) (hi : i < vs.length) (W : Wr h h' a i (.int v)) : own_A Z h' a ty (vs.set i v) := by
  refine ⟨cl.setSlot i (.int v), q.same W, by rw [sz_set, r, List.length_set], fun j hj => ?_⟩
  rw [List.length_set] at hj
  have hc : i < cl.slots.size := by rw [r]; exact hi
  show (cl.slots.setIfInBounds i (.int v))[j]? = _
  rw [Array.getElem?_setIfInBounds]
  by_cases e : i = j
  · subst e
    simp [hc, List.getD_eq_getElem?_getD, hi]
  · simp only [e, if_false]
    rw [t j hj]
    simp [List.getD_eq_getElem?_getD, List.getElem?_set, e]
theorem own_bastore (X : own_S Z n0 bytes y ml ret p l e R s m args below meth c T k sl h) {a : Addr} {vs vs' : List Int32} {j v v' : Int32} (A : own_A Z h a .byte vs) (ha : n0 ≤ a) (hj : own_in j vs.length = true) (hv : v.toInt8.toInt32 = v') (hvs : vs.set j.toNatClampNeg v' = vs') (hd : decode bytes pc = .ok (.bastore, 1)) (hpc : pc + 1 = pc')
    (K : ∀ T' h', own_S Z n0 bytes y ml ret p l e R s m args below meth c T' k sl h' → own_A Z h' a .byte vs' → Wr h h' a j.toNatClampNeg (.int v') → own_G p e below Φ T' (mkF m pc' Ls S)) : own_G p e below Φ T (mkF m pc Ls (.int v :: .int j :: .ref a :: S)) := by
  obtain ⟨⟨locs, Y, N⟩, hh, hn, hx, hZ, hby, hml, hown, hnm, hret, hlk⟩ := X
  subst hpc hvs hv
  obtain ⟨cl, q, r, t⟩ := A
  obtain ⟨j1, j2⟩ := own_in_not hj
  obtain ⟨T', h', X', e', W', st⟩ := stB Y hx hZ hh q (j := j) (x := v) (by rw [r]; exact j2) (g := mkF m pc Ls (.int v :: .int j :: .ref a :: S)) rfl rfl (hb hby hd)
  exact own_by (K T' h' ⟨⟨_, X', Fr.snoc X' N ha⟩, e', hn, hx, hZ, hby, hml, hown, hnm, hret, hlk⟩ (own_set q r t j1 W') W') st
theorem own_iastore (X : own_S Z n0 bytes y ml ret p l e R s m args below meth c T k sl h) {a : Addr} {vs vs' : List Int32} {j v : Int32} (A : own_A Z h a .int vs) (ha : n0 ≤ a) (hj : own_in j vs.length = true) (hvs : vs.set j.toNatClampNeg v = vs') (hd : decode bytes pc = .ok (.iastore, 1)) (hpc : pc + 1 = pc')
    (K : ∀ T' h', own_S Z n0 bytes y ml ret p l e R s m args below meth c T' k sl h' → own_A Z h' a .int vs' → Wr h h' a j.toNatClampNeg (.int v) → own_G p e below Φ T' (mkF m pc' Ls S)) : own_G p e below Φ T (mkF m pc Ls (.int v :: .int j :: .ref a :: S)) := by
  obtain ⟨⟨locs, Y, N⟩, hh, hn, hx, hZ, hby, hml, hown, hnm, hret, hlk⟩ := X
  subst hpc hvs
  obtain ⟨cl, q, r, t⟩ := A
  obtain ⟨j1, j2⟩ := own_in_not hj
  obtain ⟨T', h', X', e', W', st⟩ := stI Y hx hZ hh q (j := j) (x := v) (by rw [r]; exact j2) (g := mkF m pc Ls (.int v :: .int j :: .ref a :: S)) rfl rfl (hb hby hd)
  exact own_by (K T' h' ⟨⟨_, X', Fr.snoc X' N ha⟩, e', hn, hx, hZ, hby, hml, hown, hnm, hret, hlk⟩ (own_set q r t j1 W') W') st
theorem own_newarr (X : own_S Z n0 bytes y ml ret p l e R s m args below meth c T k sl h) {aty : ArrayType} {n : Int32} {len : Nat} {vs : List Int32} (w : (Jvm.Cond.arrayClass (newarray.typeOf aty)).before a0 Z = true) (hty : defaultValue (newarray.typeOf aty) = .int 0) (hn0 : ¬ n < 0) (hlen : n.toNatClampNeg = len) (hvs : List.replicate len 0 = vs) (hbig : len * 8 ≤ 536870912) (hd : decode bytes pc = .ok (.newarray aty, 2)) (hpc : pc + 2 = pc') (hc : k + 1 ≤ R.cells) (hs : sl + len ≤ R.slots)
    (K : ∀ T' h' a, own_S Z n0 bytes y ml ret p l e R s m args below meth c T' (k + 1) (sl + len) h' → n0 ≤ a → a = h.size → Ext h h' → own_A Z h' a (newarray.typeOf aty) vs → own_G p e below Φ T' (mkF m pc' Ls (.ref a :: S))) : own_G p e below Φ T (mkF m pc Ls (.int n :: S)) := by
  have hsz := X.size
  obtain ⟨⟨locs, Y, N⟩, hh, hn, hx, hZ, hby, hml, hown, hnm, hret, hlk⟩ := X
  subst hpc hvs hlen
  obtain ⟨T', h', cA, X', e', E', A', st⟩ := newP Y hx hZ w hh (g := mkF m pc Ls (.int n :: S)) rfl (hb hby hd) rfl hn0 (cap := n.toNatClampNeg) (Nat.le_refl _) hbig hc hs
  refine own_by (K T' h' h.size ⟨⟨_, X', N⟩, e', hn, hx, hZ, hby, hml, hown, hnm, hret, hlk⟩ hsz rfl E' ⟨_, A', by rw [sz_new, List.length_replicate], fun j hj => ?_⟩) st
  rw [List.length_replicate] at hj
  simp [newA, hj, hty, List.getD_eq_getElem?_getD]
theorem own_b8 (v : Int32) : (v.toInt8.toInt32).toInt8.toInt32 = v.toInt8.toInt32 := by simp
end OwnKit
def own_mg (c0 c1 : Int32) : Int32 := if c0 &&& (255 : Int32) = 31 then (if c1 &&& (255 : Int32) = 139 then 1 else 0) else 0
def own_r (u : Int32) (r : Int64) : Int64 := (u.toInt64 - r) - ((u.toInt64 - r) / (256 : Int64)) * (256 : Int64)
def own_cg (u : Int32) (r : Int64) : Int32 := if own_r u r = 0 then 1 else 0
theorem own_and3 {a v : Int32} (e : a &&& (3 : Int32) = v) : v = 0 ∨ v = 1 ∨ v = 2 ∨ v = 3 := by
  have h := c_mask a 3 2 (by decide) (by decide)
  rw [e] at h
  have k1 : ∀ n : Int32, v = n ↔ v.toInt = n.toInt := fun n => Int32.toInt_inj.symm
  simp only [k1, Int32.reduceToInt]
  omega
theorem own_lk (u : Int32) (r : Int64) (q : Int32) (hq : 0 ≤ q.toInt ∧ q.toInt < 256) (hr : r.toInt = q.toInt) : (own_r u r = 0) ↔ (u.toInt8.toInt32 &&& (255 : Int32) = q) := by
  have e1 := c_i2l u
  have e2 := c_lsub u.toInt64 r
  have r2 := rng64 (u.toInt64 - r)
  have ru := rng32 u
  have e3 := c_lrem (u.toInt64 - r) 256 256 (by decide)
  have e4 := c_mask u.toInt8.toInt32 255 8 (by decide) (by decide)
  have e5 := c_i2b u
  rw [← Int64.toInt_inj, ← Int32.toInt_inj]
  have k : (0 : Int64).toInt = 0 := by decide
  rw [k]
  unfold own_r
  omega
theorem own_l31 (u : Int32) : own_cg u 31 = if u.toInt8.toInt32 &&& (255 : Int32) = 31 then 1 else 0 := by
  have h := own_lk u 31 31 (by decide) (by decide)
  simp only [own_cg, h]
theorem own_l139 (u : Int32) : own_cg u 139 = if u.toInt8.toInt32 &&& (255 : Int32) = 139 then 1 else 0 := by
  have h := own_lk u 139 139 (by decide) (by decide)
  simp only [own_cg, h]
theorem own_k1 : ((-117 : Int32) &&& (255 : Int32)) = 139 := by decide
theorem own_k2 : ((139 : Int32).toInt8.toInt32 &&& (255 : Int32)) = 139 := by decide
theorem own_k3 : (Int8.toInt32 139 &&& (255 : Int32)) = 139 := by decide
theorem own_k4 : ((31 : Int32).toInt8.toInt32 &&& (255 : Int32)) = 31 := by decide
theorem own_k5 : (Int8.toInt32 31 &&& (255 : Int32)) = 31 := by decide
theorem own_k6 : ((31 : Int32) &&& (255 : Int32)) = 31 := by decide
theorem d1_0 : decode prog_274_method_2_code 0 = .ok (.aload_n 0, 1) := by decide +kernel
theorem d1_1 : decode prog_274_method_2_code 1 = .ok (.arraylength, 1) := by decide +kernel
theorem d1_2 : decode prog_274_method_2_code 2 = .ok (.iconst 2, 1) := by decide +kernel
theorem d1_3 : decode prog_274_method_2_code 3 = .ok (.if_icmp .lt 32, 3) := by decide +kernel
theorem d1_35 : decode prog_274_method_2_code 35 = .ok (.iconst 0, 1) := by decide +kernel
theorem d1_36 : decode prog_274_method_2_code 36 = .ok (.ireturn, 1) := by decide +kernel
theorem pn_rm1_0 : plainFor (⟨"com/example/quern/quern/text/GzipMembers", "isMagic", "([B)Z"⟩ : MethodName) = true := plainFor_of_name (by first | (simp [plainName, overriddenIn]; done) | decide +kernel)
theorem ef_rm1_0 (m : MethodId) (x0 : Addr) : entryFrame m #[(.ref x0)] 1 = mkF m 0 #[.val (.ref x0)] [] := by first | (simp [entryFrame, mkF, argsToLocals, Value.category]; done) | rfl
set_option maxRecDepth 65536 in
set_option maxHeartbeats 4000000 in
theorem rm1_0 (l : Launch) (Z : State) (a0 : Array Value) (hw : ∀ d ∈ tables_1, d.before a0 Z = true) (n0 : Nat) (a : Addr) (h0 : Heap) (hn0 : n0 ≤ h0.size) (A : own_A Z h0 a .byte []) :
    own_Met l (⟨"com/example/quern/quern/text/GzipMembers", "isMagic", "([B)Z"⟩ : MethodName) prog_274_method_2_code 1 (some .boolean) ({ frames := 0, cells := 0, slots := 0, locals := 0 } : Room) Z n0 #[(.ref a)] h0 (some (.int 0)) (fun h' => h' = h0) := by
  refine own_met pn_rm1_0 hn0 ?_
  intro p e s m below meth c T X
  refine own_cast (ef_rm1_0 m a) ?_
  generalize hΦ : own_Q n0 below s _ _ _ = Φ
  refine own_aloadN X (pc' := 1) d1_0 rfl rfl rfl ?_
  refine own_len X (v := (0 : Int32)) (pc' := 2) A (by first | rfl | decide) d1_1 rfl ?_
  refine own_iconst X (v := (2 : Int32)) (pc' := 3) d1_2 rfl (by decide) ?_
  refine own_icmp_lt X (pct := 35) (pc' := 6) d1_3 rfl (by decide) (by decide) (fun _ => ?_) (fun hc => absurd hc (by decide))
  refine own_iconst X (v := (0 : Int32)) (pc' := 36) d1_35 rfl (by decide) ?_
  subst hΦ
  exact own_retZ X d1_36 (by decide) (by decide) (by decide) (by simp [own_mg, *]) rfl
theorem pn_rm1_1 : plainFor (⟨"com/example/quern/quern/text/GzipMembers", "isMagic", "([B)Z"⟩ : MethodName) = true := plainFor_of_name (by first | (simp [plainName, overriddenIn]; done) | decide +kernel)
theorem ef_rm1_1 (m : MethodId) (x0 : Addr) : entryFrame m #[(.ref x0)] 1 = mkF m 0 #[.val (.ref x0)] [] := by first | (simp [entryFrame, mkF, argsToLocals, Value.category]; done) | rfl
set_option maxRecDepth 65536 in
set_option maxHeartbeats 4000000 in
theorem rm1_1 (l : Launch) (Z : State) (a0 : Array Value) (hw : ∀ d ∈ tables_1, d.before a0 Z = true) (n0 : Nat) (a : Addr) (h0 : Heap) (hn0 : n0 ≤ h0.size) (c0 : Int32) (A : own_A Z h0 a .byte [c0]) :
    own_Met l (⟨"com/example/quern/quern/text/GzipMembers", "isMagic", "([B)Z"⟩ : MethodName) prog_274_method_2_code 1 (some .boolean) ({ frames := 0, cells := 0, slots := 0, locals := 0 } : Room) Z n0 #[(.ref a)] h0 (some (.int 0)) (fun h' => h' = h0) := by
  refine own_met pn_rm1_1 hn0 ?_
  intro p e s m below meth c T X
  refine own_cast (ef_rm1_1 m a) ?_
  generalize hΦ : own_Q n0 below s _ _ _ = Φ
  refine own_aloadN X (pc' := 1) d1_0 rfl rfl rfl ?_
  refine own_len X (v := (1 : Int32)) (pc' := 2) A (by first | rfl | decide) d1_1 rfl ?_
  refine own_iconst X (v := (2 : Int32)) (pc' := 3) d1_2 rfl (by decide) ?_
  refine own_icmp_lt X (pct := 35) (pc' := 6) d1_3 rfl (by decide) (by decide) (fun _ => ?_) (fun hc => absurd hc (by decide))
  refine own_iconst X (v := (0 : Int32)) (pc' := 36) d1_35 rfl (by decide) ?_
  subst hΦ
  exact own_retZ X d1_36 (by decide) (by decide) (by decide) (by simp [own_mg, *]) rfl
theorem d1_6 : decode prog_274_method_2_code 6 = .ok (.aload_n 0, 1) := by decide +kernel
theorem d1_7 : decode prog_274_method_2_code 7 = .ok (.iconst 0, 1) := by decide +kernel
theorem d1_8 : decode prog_274_method_2_code 8 = .ok (.baload, 1) := by decide +kernel
theorem d1_9 : decode prog_274_method_2_code 9 = .ok (.sipush 255, 3) := by decide +kernel
theorem d1_12 : decode prog_274_method_2_code 12 = .ok (.iand, 1) := by decide +kernel
theorem d1_13 : decode prog_274_method_2_code 13 = .ok (.bipush 31, 2) := by decide +kernel
theorem d1_15 : decode prog_274_method_2_code 15 = .ok (.if_icmp .ne 20, 3) := by decide +kernel
theorem d1_18 : decode prog_274_method_2_code 18 = .ok (.aload_n 0, 1) := by decide +kernel
theorem d1_19 : decode prog_274_method_2_code 19 = .ok (.iconst 1, 1) := by decide +kernel
theorem d1_20 : decode prog_274_method_2_code 20 = .ok (.baload, 1) := by decide +kernel
theorem d1_21 : decode prog_274_method_2_code 21 = .ok (.sipush 255, 3) := by decide +kernel
theorem d1_24 : decode prog_274_method_2_code 24 = .ok (.iand, 1) := by decide +kernel
theorem d1_25 : decode prog_274_method_2_code 25 = .ok (.sipush 139, 3) := by decide +kernel
theorem d1_28 : decode prog_274_method_2_code 28 = .ok (.if_icmp .ne 7, 3) := by decide +kernel
theorem d1_31 : decode prog_274_method_2_code 31 = .ok (.iconst 1, 1) := by decide +kernel
theorem d1_32 : decode prog_274_method_2_code 32 = .ok (.goto 4, 3) := by decide +kernel
theorem pn_rm1_2 : plainFor (⟨"com/example/quern/quern/text/GzipMembers", "isMagic", "([B)Z"⟩ : MethodName) = true := plainFor_of_name (by first | (simp [plainName, overriddenIn]; done) | decide +kernel)
theorem ef_rm1_2 (m : MethodId) (x0 : Addr) : entryFrame m #[(.ref x0)] 1 = mkF m 0 #[.val (.ref x0)] [] := by first | (simp [entryFrame, mkF, argsToLocals, Value.category]; done) | rfl
set_option maxRecDepth 65536 in
set_option maxHeartbeats 4000000 in
theorem rm1_2 (l : Launch) (Z : State) (a0 : Array Value) (hw : ∀ d ∈ tables_1, d.before a0 Z = true) (n0 : Nat) (a : Addr) (h0 : Heap) (hn0 : n0 ≤ h0.size) (c0 c1 : Int32) (A : own_A Z h0 a .byte [c0, c1]) :
    own_Met l (⟨"com/example/quern/quern/text/GzipMembers", "isMagic", "([B)Z"⟩ : MethodName) prog_274_method_2_code 1 (some .boolean) ({ frames := 0, cells := 0, slots := 0, locals := 0 } : Room) Z n0 #[(.ref a)] h0 (some (.int (own_mg c0 c1))) (fun h' => h' = h0) := by
  refine own_met pn_rm1_2 hn0 ?_
  intro p e s m below meth c T X
  refine own_cast (ef_rm1_2 m a) ?_
  generalize hΦ : own_Q n0 below s _ _ _ = Φ
  refine own_aloadN X (pc' := 1) d1_0 rfl rfl rfl ?_
  refine own_len X (v := (2 : Int32)) (pc' := 2) A (by first | rfl | decide) d1_1 rfl ?_
  refine own_iconst X (v := (2 : Int32)) (pc' := 3) d1_2 rfl (by decide) ?_
  refine own_icmp_lt X (pct := 35) (pc' := 6) d1_3 rfl (by decide) (by decide) (fun hc => absurd hc (by decide)) (fun _ => ?_)
  refine own_aloadN X (pc' := 7) d1_6 rfl rfl rfl ?_
  refine own_iconst X (v := (0 : Int32)) (pc' := 8) d1_7 rfl (by decide) ?_
  refine own_baload X (v := c0) (pc' := 9) A rfl rfl d1_8 rfl ?_
  refine own_sipush X (v := (255 : Int32)) (pc' := 12) d1_9 rfl (by decide) ?_
  refine own_iand X (r := (c0 &&& (255 : Int32))) (pc' := 13) d1_12 rfl rfl ?_
  refine own_bipush X (v := (31 : Int32)) (pc' := 15) d1_13 rfl (by decide) ?_
  refine own_icmp_ne X (pct := 35) (pc' := 18) d1_15 rfl (by decide) (by decide) (fun hc15_1 => ?_) (fun hc15_1 => ?_)
  · refine own_iconst X (v := (0 : Int32)) (pc' := 36) d1_35 rfl (by decide) ?_
    subst hΦ
    exact own_retZ X d1_36 (by decide) (by decide) (by decide) (by simp [own_mg, *]) rfl
  · refine own_aloadN X (pc' := 19) d1_18 rfl rfl rfl ?_
    refine own_iconst X (v := (1 : Int32)) (pc' := 20) d1_19 rfl (by decide) ?_
    refine own_baload X (v := c1) (pc' := 21) A rfl rfl d1_20 rfl ?_
    refine own_sipush X (v := (255 : Int32)) (pc' := 24) d1_21 rfl (by decide) ?_
    refine own_iand X (r := (c1 &&& (255 : Int32))) (pc' := 25) d1_24 rfl rfl ?_
    refine own_sipush X (v := (139 : Int32)) (pc' := 28) d1_25 rfl (by decide) ?_
    refine own_icmp_ne X (pct := 35) (pc' := 31) d1_28 rfl (by decide) (by decide) (fun hc28_2 => ?_) (fun hc28_2 => ?_)
    · refine own_iconst X (v := (0 : Int32)) (pc' := 36) d1_35 rfl (by decide) ?_
      subst hΦ
      exact own_retZ X d1_36 (by decide) (by decide) (by decide) (by simp [own_mg, *]) rfl
    · refine own_iconst X (v := (1 : Int32)) (pc' := 32) d1_31 rfl (by decide) ?_
      refine own_goto X (pc' := 36) d1_32 (by decide) (by decide) ?_
      subst hΦ
      exact own_retZ X d1_36 (by decide) (by decide) (by decide) (by simp [own_mg, *]) rfl
theorem pn_rm1_3 : plainFor (⟨"com/example/quern/quern/text/GzipMembers", "isMagic", "([B)Z"⟩ : MethodName) = true := plainFor_of_name (by first | (simp [plainName, overriddenIn]; done) | decide +kernel)
theorem ef_rm1_3 (m : MethodId) (x0 : Addr) : entryFrame m #[(.ref x0)] 1 = mkF m 0 #[.val (.ref x0)] [] := by first | (simp [entryFrame, mkF, argsToLocals, Value.category]; done) | rfl
set_option maxRecDepth 65536 in
set_option maxHeartbeats 4000000 in
theorem rm1_3 (l : Launch) (Z : State) (a0 : Array Value) (hw : ∀ d ∈ tables_1, d.before a0 Z = true) (n0 : Nat) (a : Addr) (h0 : Heap) (hn0 : n0 ≤ h0.size) (c0 c1 c2 : Int32) (A : own_A Z h0 a .byte [c0, c1, c2]) :
    own_Met l (⟨"com/example/quern/quern/text/GzipMembers", "isMagic", "([B)Z"⟩ : MethodName) prog_274_method_2_code 1 (some .boolean) ({ frames := 0, cells := 0, slots := 0, locals := 0 } : Room) Z n0 #[(.ref a)] h0 (some (.int (own_mg c0 c1))) (fun h' => h' = h0) := by
  refine own_met pn_rm1_3 hn0 ?_
  intro p e s m below meth c T X
  refine own_cast (ef_rm1_3 m a) ?_
  generalize hΦ : own_Q n0 below s _ _ _ = Φ
  refine own_aloadN X (pc' := 1) d1_0 rfl rfl rfl ?_
  refine own_len X (v := (3 : Int32)) (pc' := 2) A (by first | rfl | decide) d1_1 rfl ?_
  refine own_iconst X (v := (2 : Int32)) (pc' := 3) d1_2 rfl (by decide) ?_
  refine own_icmp_lt X (pct := 35) (pc' := 6) d1_3 rfl (by decide) (by decide) (fun hc => absurd hc (by decide)) (fun _ => ?_)
  refine own_aloadN X (pc' := 7) d1_6 rfl rfl rfl ?_
  refine own_iconst X (v := (0 : Int32)) (pc' := 8) d1_7 rfl (by decide) ?_
  refine own_baload X (v := c0) (pc' := 9) A rfl rfl d1_8 rfl ?_
  refine own_sipush X (v := (255 : Int32)) (pc' := 12) d1_9 rfl (by decide) ?_
  refine own_iand X (r := (c0 &&& (255 : Int32))) (pc' := 13) d1_12 rfl rfl ?_
  refine own_bipush X (v := (31 : Int32)) (pc' := 15) d1_13 rfl (by decide) ?_
  refine own_icmp_ne X (pct := 35) (pc' := 18) d1_15 rfl (by decide) (by decide) (fun hc15_1 => ?_) (fun hc15_1 => ?_)
  · refine own_iconst X (v := (0 : Int32)) (pc' := 36) d1_35 rfl (by decide) ?_
    subst hΦ
    exact own_retZ X d1_36 (by decide) (by decide) (by decide) (by simp [own_mg, *]) rfl
  · refine own_aloadN X (pc' := 19) d1_18 rfl rfl rfl ?_
    refine own_iconst X (v := (1 : Int32)) (pc' := 20) d1_19 rfl (by decide) ?_
    refine own_baload X (v := c1) (pc' := 21) A rfl rfl d1_20 rfl ?_
    refine own_sipush X (v := (255 : Int32)) (pc' := 24) d1_21 rfl (by decide) ?_
    refine own_iand X (r := (c1 &&& (255 : Int32))) (pc' := 25) d1_24 rfl rfl ?_
    refine own_sipush X (v := (139 : Int32)) (pc' := 28) d1_25 rfl (by decide) ?_
    refine own_icmp_ne X (pct := 35) (pc' := 31) d1_28 rfl (by decide) (by decide) (fun hc28_2 => ?_) (fun hc28_2 => ?_)
    · refine own_iconst X (v := (0 : Int32)) (pc' := 36) d1_35 rfl (by decide) ?_
      subst hΦ
      exact own_retZ X d1_36 (by decide) (by decide) (by decide) (by simp [own_mg, *]) rfl
    · refine own_iconst X (v := (1 : Int32)) (pc' := 32) d1_31 rfl (by decide) ?_
      refine own_goto X (pc' := 36) d1_32 (by decide) (by decide) ?_
      subst hΦ
      exact own_retZ X d1_36 (by decide) (by decide) (by decide) (by simp [own_mg, *]) rfl
theorem d2_0 : decode method_2_code 0 = .ok (.iload_n 0, 1) := by decide +kernel
theorem d2_1 : decode method_2_code 1 = .ok (.i2l, 1) := by decide +kernel
theorem d2_2 : decode method_2_code 2 = .ok (.lload_n 1, 1) := by decide +kernel
theorem d2_3 : decode method_2_code 3 = .ok (.lsub, 1) := by decide +kernel
theorem d2_4 : decode method_2_code 4 = .ok (.ldc2_w 7, 3) := by decide +kernel
theorem d2_7 : decode method_2_code 7 = .ok (.lrem, 1) := by decide +kernel
theorem d2_8 : decode method_2_code 8 = .ok (.lconst 0, 1) := by decide +kernel
theorem d2_9 : decode method_2_code 9 = .ok (.lcmp, 1) := by decide +kernel
theorem d2_10 : decode method_2_code 10 = .ok (.ifCond .ne 7, 3) := by decide +kernel
theorem d2_13 : decode method_2_code 13 = .ok (.iconst 1, 1) := by decide +kernel
theorem d2_14 : decode method_2_code 14 = .ok (.goto 4, 3) := by decide +kernel
theorem d2_17 : decode method_2_code 17 = .ok (.iconst 0, 1) := by decide +kernel
theorem d2_18 : decode method_2_code 18 = .ok (.ireturn, 1) := by decide +kernel
theorem pn_rm2 : plainFor (⟨"com/example/quern/quern/text/GzipMembersIsMagicPinLaw", "congruent", "(IJ)Z"⟩ : MethodName) = true := plainFor_of_name (by first | (simp [plainName, overriddenIn]; done) | decide +kernel)
theorem ef_rm2 (m : MethodId) (x0 : Int32) (x1 : Int64) : entryFrame m #[(.int x0), (.long x1)] 3 = mkF m 0 #[.val (.int x0), .val (.long x1), .second] [] := by first | (simp [entryFrame, mkF, argsToLocals, Value.category]; done) | rfl
set_option maxRecDepth 65536 in
set_option maxHeartbeats 4000000 in
theorem rm2 (l : Launch) (Z : State) (a0 : Array Value) (hw : ∀ d ∈ tables_1, d.before a0 Z = true) (n0 : Nat) (u : Int32) (r : Int64) (h0 : Heap) (hn0 : n0 ≤ h0.size) :
    own_Met l (⟨"com/example/quern/quern/text/GzipMembersIsMagicPinLaw", "congruent", "(IJ)Z"⟩ : MethodName) method_2_code 3 (some .boolean) ({ frames := 0, cells := 0, slots := 0, locals := 0 } : Room) Z n0 #[(.int u), (.long r)] h0 (some (.int (own_cg u r))) (fun h' => h' = h0) := by
  refine own_met pn_rm2 hn0 ?_
  intro p e s m below meth c T X
  refine own_cast (ef_rm2 m u r) ?_
  generalize hΦ : own_Q n0 below s _ _ _ = Φ
  refine own_iloadN X (pc' := 1) d2_0 rfl rfl ?_
  refine own_i2l X (r := (u.toInt64)) (pc' := 2) d2_1 rfl rfl ?_
  refine own_lloadN X (pc' := 3) d2_2 rfl rfl ?_
  refine own_lsub X (r := ((u.toInt64) - r)) (pc' := 4) d2_3 rfl rfl ?_
  refine own_ldc2 X (pc' := 7) (hw _ (List.mem_of_getElem? (i := 10) rfl)) d2_4 rfl ?_
  refine own_lrem X (r := (((u.toInt64) - r) - (((u.toInt64) - r) / (256 : Int64)) * (256 : Int64))) (pc' := 8) d2_7 rfl (by decide) rfl ?_
  refine own_lconst X (v := (0 : Int64)) (pc' := 9) d2_8 rfl (by decide) ?_
  refine own_lcmp X (pc' := 10) d2_9 rfl ?_
  refine own_ifl_ne X (pct := 17) (pc' := 13) d2_10 rfl (by decide) (by decide) (fun hc10_1 => ?_) (fun hc10_1 => ?_)
  · refine own_iconst X (v := (0 : Int32)) (pc' := 18) d2_17 rfl (by decide) ?_
    subst hΦ
    exact own_retZ X d2_18 (by decide) (by decide) (by decide) (by simp [own_cg, own_r, *]) rfl
  · refine own_iconst X (v := (1 : Int32)) (pc' := 14) d2_13 rfl (by decide) ?_
    refine own_goto X (pc' := 18) d2_14 (by decide) (by decide) ?_
    subst hΦ
    exact own_retZ X d2_18 (by decide) (by decide) (by decide) (by simp [own_cg, own_r, *]) rfl
theorem pd_0 : parseMethodDescriptor "([B)Z" = some ⟨[(.array .byte)], some .boolean⟩ := by decide +kernel
theorem pd_1 : parseMethodDescriptor "(IJ)Z" = some ⟨[.int, .long], some .boolean⟩ := by decide +kernel
theorem pn_rm0 : plainFor (⟨"com/example/quern/quern/text/GzipMembersIsMagicPinLaw", "law", "(IIIII)Z"⟩ : MethodName) = true := plainFor_of_name (by first | (simp [plainName, overriddenIn]; done) | decide +kernel)
theorem ef_rm0 (m : MethodId) (x0 : Int32) (x1 : Int32) (x2 : Int32) (x3 : Int32) (x4 : Int32) : entryFrame m #[(.int x0), (.int x1), (.int x2), (.int x3), (.int x4)] maxLocals = mkF m 0 #[.val (.int x0), .val (.int x1), .val (.int x2), .val (.int x3), .val (.int x4), .unset, .unset, .unset, .unset, .unset] [] := by first | (simp [entryFrame, mkF, argsToLocals, Value.category, maxLocals]; done) | rfl
set_option maxRecDepth 65536 in
set_option maxHeartbeats 4000000 in
theorem rm0 (l : Launch) (Z : State) (a0 : Array Value) (hw : ∀ d ∈ tables_1, d.before a0 Z = true) (n0 : Nat) (x0 : Int32) (x1 : Int32) (x2 : Int32) (size : Int32) (mode : Int32) (h0 : Heap) (hn0 : n0 ≤ h0.size) :
    own_Met l x code maxLocals ret room_1 Z n0 #[(.int x0), (.int x1), (.int x2), (.int size), (.int mode)] h0 (some (.int 1)) (fun _ => True) := by
  refine own_met pn_rm0 hn0 ?_
  intro p e s m below meth c T X
  refine own_cast (ef_rm0 m x0 x1 x2 size mode) ?_
  change own_S Z n0 code x 10 ret p l e room_1 s m _ below meth c T 0 0 h0 at X
  generalize hΦ : own_Q n0 below s _ _ _ = Φ
  refine own_iloadN X (pc' := 1) at_0 rfl rfl ?_
  refine own_iconst X (v := (3 : Int32)) (pc' := 2) at_1 rfl (by decide) ?_
  refine own_iand X (r := (size &&& (3 : Int32))) (pc' := 3) at_2 rfl rfl ?_
  refine own_istore X (pc' := 5) (Ls' := #[.val (.int x0), .val (.int x1), .val (.int x2), .val (.int size), .val (.int mode), .val (.int (size &&& (3 : Int32))), .unset, .unset, .unset, .unset]) at_3 rfl rfl ?_
  generalize e1 : (size &&& (3 : Int32)) = v1
  rcases own_and3 e1 with rfl | rfl | rfl | rfl
  · refine own_iload X (pc' := 7) at_5 rfl rfl ?_
    refine own_iconst X (v := (1 : Int32)) (pc' := 8) at_7 rfl (by decide) ?_
    refine own_iand X (r := (mode &&& (1 : Int32))) (pc' := 9) at_8 rfl rfl ?_
    refine own_if_eq X (pct := 17) (pc' := 12) at_9 rfl (by decide) (by decide) (fun hc9_2 => ?_) (fun hc9_2 => ?_)
    · refine own_iloadN X (pc' := 18) at_17 rfl rfl ?_
      refine own_istore X (pc' := 20) (Ls' := #[.val (.int x0), .val (.int x1), .val (.int x2), .val (.int size), .val (.int mode), .val (.int (0 : Int32)), .val (.int x0), .unset, .unset, .unset]) at_18 rfl rfl ?_
      refine own_iload X (pc' := 22) at_20 rfl rfl ?_
      refine own_iconst X (v := (2 : Int32)) (pc' := 23) at_22 rfl (by decide) ?_
      refine own_iand X (r := (mode &&& (2 : Int32))) (pc' := 24) at_23 rfl rfl ?_
      refine own_if_eq X (pct := 33) (pc' := 27) at_24 rfl (by decide) (by decide) (fun hc24_3 => ?_) (fun hc24_3 => ?_)
      · refine own_iloadN X (pc' := 34) at_33 rfl rfl ?_
        refine own_istore X (pc' := 36) (Ls' := #[.val (.int x0), .val (.int x1), .val (.int x2), .val (.int size), .val (.int mode), .val (.int (0 : Int32)), .val (.int x0), .val (.int x1), .unset, .unset]) at_34 rfl rfl ?_
        refine own_iload X (pc' := 38) at_36 rfl rfl ?_
        refine own_newarr X (len := 0) (vs := []) (pc' := 40) (hw _ (List.mem_of_getElem? (i := 0) rfl)) rfl (by decide) (by decide) rfl (by decide) at_38 rfl (by decide) (by decide) ?_
        intro T4 h4 ad4 X4 ge_ad4 g_ad4 E4 A4
        refine own_astore X4 (pc' := 42) (Ls' := #[.val (.int x0), .val (.int x1), .val (.int x2), .val (.int size), .val (.int mode), .val (.int (0 : Int32)), .val (.int x0), .val (.int x1), .val (.ref ad4), .unset]) at_40 rfl rfl rfl ?_
        refine own_iload X4 (pc' := 44) at_42 rfl rfl ?_
        refine own_if_le X4 (pct := 54) (pc' := 47) at_44 rfl (by decide) (by decide) (fun _ => ?_) (fun hc => absurd hc (by decide))
        refine own_iload X4 (pc' := 56) at_54 rfl rfl ?_
        refine own_iconst X4 (v := (1 : Int32)) (pc' := 57) at_56 rfl (by decide) ?_
        refine own_icmp_le X4 (pct := 67) (pc' := 60) at_57 rfl (by decide) (by decide) (fun _ => ?_) (fun hc => absurd hc (by decide))
        refine own_iload X4 (pc' := 69) at_67 rfl rfl ?_
        refine own_iconst X4 (v := (2 : Int32)) (pc' := 70) at_69 rfl (by decide) ?_
        refine own_icmp_le X4 (pct := 79) (pc' := 73) at_70 rfl (by decide) (by decide) (fun _ => ?_) (fun hc => absurd hc (by decide))
        refine own_iload X4 (pc' := 81) at_79 rfl rfl ?_
        refine own_iconst X4 (v := (2 : Int32)) (pc' := 82) at_81 rfl (by decide) ?_
        refine own_icmp_lt X4 (pct := 111) (pc' := 85) at_82 rfl (by decide) (by decide) (fun _ => ?_) (fun hc => absurd hc (by decide))
        refine own_iconst X4 (v := (0 : Int32)) (pc' := 112) at_111 rfl (by decide) ?_
        refine own_istore X4 (pc' := 114) (Ls' := #[.val (.int x0), .val (.int x1), .val (.int x2), .val (.int size), .val (.int mode), .val (.int (0 : Int32)), .val (.int x0), .val (.int x1), .val (.ref ad4), .val (.int (0 : Int32))]) at_112 rfl rfl ?_
        refine own_aload X4 (pc' := 116) at_114 rfl rfl rfl ?_
        refine own_callS X4 (W := 0) (argsL := [(.ref ad4)]) (rest := []) (S' := [(.int (0 : Int32))]) (pc' := 119) (rm1_0 l Z a0 hw n0 ad4 h4 X4.size  A4) (hw _ (List.mem_of_getElem? (i := 1) rfl)) (hw _ (List.mem_of_getElem? (i := 2) rfl)) (hw _ (List.mem_of_getElem? (i := 3) rfl)) (hw _ (List.mem_of_getElem? (i := 4) rfl)) (by decide) (by decide) (by decide) rfl rfl (by decide) (by decide) (lenOf pd_0 rfl) rfl (by first | decide | exact Nat.le_of_eq rfl) rfl at_116 rfl rfl ?_
        intro T5 h5 X5 qq5
        rw [show h5 = h4 from qq5] at X5
        refine own_iload X5 (pc' := 121) at_119 rfl rfl ?_
        refine own_icmp_ne X5 (pct := 128) (pc' := 124) at_121 rfl (by decide) (by decide) (fun hc => absurd hc (by decide)) (fun _ => ?_)
        refine own_iconst X5 (v := (1 : Int32)) (pc' := 125) at_124 rfl (by decide) ?_
        refine own_goto X5 (pc' := 129) at_125 (by decide) (by decide) ?_
        subst hΦ
        exact own_retZ X5 at_129 (by decide) (by decide) (by decide) rfl trivial
      · refine own_sipush X (v := (139 : Int32)) (pc' := 30) at_27 rfl (by decide) ?_
        refine own_goto X (pc' := 34) at_30 (by decide) (by decide) ?_
        refine own_istore X (pc' := 36) (Ls' := #[.val (.int x0), .val (.int x1), .val (.int x2), .val (.int size), .val (.int mode), .val (.int (0 : Int32)), .val (.int x0), .val (.int (139 : Int32)), .unset, .unset]) at_34 rfl rfl ?_
        refine own_iload X (pc' := 38) at_36 rfl rfl ?_
        refine own_newarr X (len := 0) (vs := []) (pc' := 40) (hw _ (List.mem_of_getElem? (i := 0) rfl)) rfl (by decide) (by decide) rfl (by decide) at_38 rfl (by decide) (by decide) ?_
        intro T6 h6 ad6 X6 ge_ad6 g_ad6 E6 A6
        refine own_astore X6 (pc' := 42) (Ls' := #[.val (.int x0), .val (.int x1), .val (.int x2), .val (.int size), .val (.int mode), .val (.int (0 : Int32)), .val (.int x0), .val (.int (139 : Int32)), .val (.ref ad6), .unset]) at_40 rfl rfl rfl ?_
        refine own_iload X6 (pc' := 44) at_42 rfl rfl ?_
        refine own_if_le X6 (pct := 54) (pc' := 47) at_44 rfl (by decide) (by decide) (fun _ => ?_) (fun hc => absurd hc (by decide))
        refine own_iload X6 (pc' := 56) at_54 rfl rfl ?_
        refine own_iconst X6 (v := (1 : Int32)) (pc' := 57) at_56 rfl (by decide) ?_
        refine own_icmp_le X6 (pct := 67) (pc' := 60) at_57 rfl (by decide) (by decide) (fun _ => ?_) (fun hc => absurd hc (by decide))
        refine own_iload X6 (pc' := 69) at_67 rfl rfl ?_
        refine own_iconst X6 (v := (2 : Int32)) (pc' := 70) at_69 rfl (by decide) ?_
        refine own_icmp_le X6 (pct := 79) (pc' := 73) at_70 rfl (by decide) (by decide) (fun _ => ?_) (fun hc => absurd hc (by decide))
        refine own_iload X6 (pc' := 81) at_79 rfl rfl ?_
        refine own_iconst X6 (v := (2 : Int32)) (pc' := 82) at_81 rfl (by decide) ?_
        refine own_icmp_lt X6 (pct := 111) (pc' := 85) at_82 rfl (by decide) (by decide) (fun _ => ?_) (fun hc => absurd hc (by decide))
        refine own_iconst X6 (v := (0 : Int32)) (pc' := 112) at_111 rfl (by decide) ?_
        refine own_istore X6 (pc' := 114) (Ls' := #[.val (.int x0), .val (.int x1), .val (.int x2), .val (.int size), .val (.int mode), .val (.int (0 : Int32)), .val (.int x0), .val (.int (139 : Int32)), .val (.ref ad6), .val (.int (0 : Int32))]) at_112 rfl rfl ?_
        refine own_aload X6 (pc' := 116) at_114 rfl rfl rfl ?_
        refine own_callS X6 (W := 0) (argsL := [(.ref ad6)]) (rest := []) (S' := [(.int (0 : Int32))]) (pc' := 119) (rm1_0 l Z a0 hw n0 ad6 h6 X6.size  A6) (hw _ (List.mem_of_getElem? (i := 1) rfl)) (hw _ (List.mem_of_getElem? (i := 2) rfl)) (hw _ (List.mem_of_getElem? (i := 3) rfl)) (hw _ (List.mem_of_getElem? (i := 4) rfl)) (by decide) (by decide) (by decide) rfl rfl (by decide) (by decide) (lenOf pd_0 rfl) rfl (by first | decide | exact Nat.le_of_eq rfl) rfl at_116 rfl rfl ?_
        intro T7 h7 X7 qq7
        rw [show h7 = h6 from qq7] at X7
        refine own_iload X7 (pc' := 121) at_119 rfl rfl ?_
        refine own_icmp_ne X7 (pct := 128) (pc' := 124) at_121 rfl (by decide) (by decide) (fun hc => absurd hc (by decide)) (fun _ => ?_)
        refine own_iconst X7 (v := (1 : Int32)) (pc' := 125) at_124 rfl (by decide) ?_
        refine own_goto X7 (pc' := 129) at_125 (by decide) (by decide) ?_
        subst hΦ
        exact own_retZ X7 at_129 (by decide) (by decide) (by decide) rfl trivial
    · refine own_bipush X (v := (31 : Int32)) (pc' := 14) at_12 rfl (by decide) ?_
      refine own_goto X (pc' := 18) at_14 (by decide) (by decide) ?_
      refine own_istore X (pc' := 20) (Ls' := #[.val (.int x0), .val (.int x1), .val (.int x2), .val (.int size), .val (.int mode), .val (.int (0 : Int32)), .val (.int (31 : Int32)), .unset, .unset, .unset]) at_18 rfl rfl ?_
      refine own_iload X (pc' := 22) at_20 rfl rfl ?_
      refine own_iconst X (v := (2 : Int32)) (pc' := 23) at_22 rfl (by decide) ?_
      refine own_iand X (r := (mode &&& (2 : Int32))) (pc' := 24) at_23 rfl rfl ?_
      refine own_if_eq X (pct := 33) (pc' := 27) at_24 rfl (by decide) (by decide) (fun hc24_8 => ?_) (fun hc24_8 => ?_)
      · refine own_iloadN X (pc' := 34) at_33 rfl rfl ?_
        refine own_istore X (pc' := 36) (Ls' := #[.val (.int x0), .val (.int x1), .val (.int x2), .val (.int size), .val (.int mode), .val (.int (0 : Int32)), .val (.int (31 : Int32)), .val (.int x1), .unset, .unset]) at_34 rfl rfl ?_
        refine own_iload X (pc' := 38) at_36 rfl rfl ?_
        refine own_newarr X (len := 0) (vs := []) (pc' := 40) (hw _ (List.mem_of_getElem? (i := 0) rfl)) rfl (by decide) (by decide) rfl (by decide) at_38 rfl (by decide) (by decide) ?_
        intro T9 h9 ad9 X9 ge_ad9 g_ad9 E9 A9
        refine own_astore X9 (pc' := 42) (Ls' := #[.val (.int x0), .val (.int x1), .val (.int x2), .val (.int size), .val (.int mode), .val (.int (0 : Int32)), .val (.int (31 : Int32)), .val (.int x1), .val (.ref ad9), .unset]) at_40 rfl rfl rfl ?_
        refine own_iload X9 (pc' := 44) at_42 rfl rfl ?_
        refine own_if_le X9 (pct := 54) (pc' := 47) at_44 rfl (by decide) (by decide) (fun _ => ?_) (fun hc => absurd hc (by decide))
        refine own_iload X9 (pc' := 56) at_54 rfl rfl ?_
        refine own_iconst X9 (v := (1 : Int32)) (pc' := 57) at_56 rfl (by decide) ?_
        refine own_icmp_le X9 (pct := 67) (pc' := 60) at_57 rfl (by decide) (by decide) (fun _ => ?_) (fun hc => absurd hc (by decide))
        refine own_iload X9 (pc' := 69) at_67 rfl rfl ?_
        refine own_iconst X9 (v := (2 : Int32)) (pc' := 70) at_69 rfl (by decide) ?_
        refine own_icmp_le X9 (pct := 79) (pc' := 73) at_70 rfl (by decide) (by decide) (fun _ => ?_) (fun hc => absurd hc (by decide))
        refine own_iload X9 (pc' := 81) at_79 rfl rfl ?_
        refine own_iconst X9 (v := (2 : Int32)) (pc' := 82) at_81 rfl (by decide) ?_
        refine own_icmp_lt X9 (pct := 111) (pc' := 85) at_82 rfl (by decide) (by decide) (fun _ => ?_) (fun hc => absurd hc (by decide))
        refine own_iconst X9 (v := (0 : Int32)) (pc' := 112) at_111 rfl (by decide) ?_
        refine own_istore X9 (pc' := 114) (Ls' := #[.val (.int x0), .val (.int x1), .val (.int x2), .val (.int size), .val (.int mode), .val (.int (0 : Int32)), .val (.int (31 : Int32)), .val (.int x1), .val (.ref ad9), .val (.int (0 : Int32))]) at_112 rfl rfl ?_
        refine own_aload X9 (pc' := 116) at_114 rfl rfl rfl ?_
        refine own_callS X9 (W := 0) (argsL := [(.ref ad9)]) (rest := []) (S' := [(.int (0 : Int32))]) (pc' := 119) (rm1_0 l Z a0 hw n0 ad9 h9 X9.size  A9) (hw _ (List.mem_of_getElem? (i := 1) rfl)) (hw _ (List.mem_of_getElem? (i := 2) rfl)) (hw _ (List.mem_of_getElem? (i := 3) rfl)) (hw _ (List.mem_of_getElem? (i := 4) rfl)) (by decide) (by decide) (by decide) rfl rfl (by decide) (by decide) (lenOf pd_0 rfl) rfl (by first | decide | exact Nat.le_of_eq rfl) rfl at_116 rfl rfl ?_
        intro T10 h10 X10 qq10
        rw [show h10 = h9 from qq10] at X10
        refine own_iload X10 (pc' := 121) at_119 rfl rfl ?_
        refine own_icmp_ne X10 (pct := 128) (pc' := 124) at_121 rfl (by decide) (by decide) (fun hc => absurd hc (by decide)) (fun _ => ?_)
        refine own_iconst X10 (v := (1 : Int32)) (pc' := 125) at_124 rfl (by decide) ?_
        refine own_goto X10 (pc' := 129) at_125 (by decide) (by decide) ?_
        subst hΦ
        exact own_retZ X10 at_129 (by decide) (by decide) (by decide) rfl trivial
      · refine own_sipush X (v := (139 : Int32)) (pc' := 30) at_27 rfl (by decide) ?_
        refine own_goto X (pc' := 34) at_30 (by decide) (by decide) ?_
        refine own_istore X (pc' := 36) (Ls' := #[.val (.int x0), .val (.int x1), .val (.int x2), .val (.int size), .val (.int mode), .val (.int (0 : Int32)), .val (.int (31 : Int32)), .val (.int (139 : Int32)), .unset, .unset]) at_34 rfl rfl ?_
        refine own_iload X (pc' := 38) at_36 rfl rfl ?_
        refine own_newarr X (len := 0) (vs := []) (pc' := 40) (hw _ (List.mem_of_getElem? (i := 0) rfl)) rfl (by decide) (by decide) rfl (by decide) at_38 rfl (by decide) (by decide) ?_
        intro T11 h11 ad11 X11 ge_ad11 g_ad11 E11 A11
        refine own_astore X11 (pc' := 42) (Ls' := #[.val (.int x0), .val (.int x1), .val (.int x2), .val (.int size), .val (.int mode), .val (.int (0 : Int32)), .val (.int (31 : Int32)), .val (.int (139 : Int32)), .val (.ref ad11), .unset]) at_40 rfl rfl rfl ?_
        refine own_iload X11 (pc' := 44) at_42 rfl rfl ?_
        refine own_if_le X11 (pct := 54) (pc' := 47) at_44 rfl (by decide) (by decide) (fun _ => ?_) (fun hc => absurd hc (by decide))
        refine own_iload X11 (pc' := 56) at_54 rfl rfl ?_
        refine own_iconst X11 (v := (1 : Int32)) (pc' := 57) at_56 rfl (by decide) ?_
        refine own_icmp_le X11 (pct := 67) (pc' := 60) at_57 rfl (by decide) (by decide) (fun _ => ?_) (fun hc => absurd hc (by decide))
        refine own_iload X11 (pc' := 69) at_67 rfl rfl ?_
        refine own_iconst X11 (v := (2 : Int32)) (pc' := 70) at_69 rfl (by decide) ?_
        refine own_icmp_le X11 (pct := 79) (pc' := 73) at_70 rfl (by decide) (by decide) (fun _ => ?_) (fun hc => absurd hc (by decide))
        refine own_iload X11 (pc' := 81) at_79 rfl rfl ?_
        refine own_iconst X11 (v := (2 : Int32)) (pc' := 82) at_81 rfl (by decide) ?_
        refine own_icmp_lt X11 (pct := 111) (pc' := 85) at_82 rfl (by decide) (by decide) (fun _ => ?_) (fun hc => absurd hc (by decide))
        refine own_iconst X11 (v := (0 : Int32)) (pc' := 112) at_111 rfl (by decide) ?_
        refine own_istore X11 (pc' := 114) (Ls' := #[.val (.int x0), .val (.int x1), .val (.int x2), .val (.int size), .val (.int mode), .val (.int (0 : Int32)), .val (.int (31 : Int32)), .val (.int (139 : Int32)), .val (.ref ad11), .val (.int (0 : Int32))]) at_112 rfl rfl ?_
        refine own_aload X11 (pc' := 116) at_114 rfl rfl rfl ?_
        refine own_callS X11 (W := 0) (argsL := [(.ref ad11)]) (rest := []) (S' := [(.int (0 : Int32))]) (pc' := 119) (rm1_0 l Z a0 hw n0 ad11 h11 X11.size  A11) (hw _ (List.mem_of_getElem? (i := 1) rfl)) (hw _ (List.mem_of_getElem? (i := 2) rfl)) (hw _ (List.mem_of_getElem? (i := 3) rfl)) (hw _ (List.mem_of_getElem? (i := 4) rfl)) (by decide) (by decide) (by decide) rfl rfl (by decide) (by decide) (lenOf pd_0 rfl) rfl (by first | decide | exact Nat.le_of_eq rfl) rfl at_116 rfl rfl ?_
        intro T12 h12 X12 qq12
        rw [show h12 = h11 from qq12] at X12
        refine own_iload X12 (pc' := 121) at_119 rfl rfl ?_
        refine own_icmp_ne X12 (pct := 128) (pc' := 124) at_121 rfl (by decide) (by decide) (fun hc => absurd hc (by decide)) (fun _ => ?_)
        refine own_iconst X12 (v := (1 : Int32)) (pc' := 125) at_124 rfl (by decide) ?_
        refine own_goto X12 (pc' := 129) at_125 (by decide) (by decide) ?_
        subst hΦ
        exact own_retZ X12 at_129 (by decide) (by decide) (by decide) rfl trivial
  · refine own_iload X (pc' := 7) at_5 rfl rfl ?_
    refine own_iconst X (v := (1 : Int32)) (pc' := 8) at_7 rfl (by decide) ?_
    refine own_iand X (r := (mode &&& (1 : Int32))) (pc' := 9) at_8 rfl rfl ?_
    refine own_if_eq X (pct := 17) (pc' := 12) at_9 rfl (by decide) (by decide) (fun hc9_13 => ?_) (fun hc9_13 => ?_)
    · refine own_iloadN X (pc' := 18) at_17 rfl rfl ?_
      refine own_istore X (pc' := 20) (Ls' := #[.val (.int x0), .val (.int x1), .val (.int x2), .val (.int size), .val (.int mode), .val (.int (1 : Int32)), .val (.int x0), .unset, .unset, .unset]) at_18 rfl rfl ?_
      refine own_iload X (pc' := 22) at_20 rfl rfl ?_
      refine own_iconst X (v := (2 : Int32)) (pc' := 23) at_22 rfl (by decide) ?_
      refine own_iand X (r := (mode &&& (2 : Int32))) (pc' := 24) at_23 rfl rfl ?_
      refine own_if_eq X (pct := 33) (pc' := 27) at_24 rfl (by decide) (by decide) (fun hc24_14 => ?_) (fun hc24_14 => ?_)
      · refine own_iloadN X (pc' := 34) at_33 rfl rfl ?_
        refine own_istore X (pc' := 36) (Ls' := #[.val (.int x0), .val (.int x1), .val (.int x2), .val (.int size), .val (.int mode), .val (.int (1 : Int32)), .val (.int x0), .val (.int x1), .unset, .unset]) at_34 rfl rfl ?_
        refine own_iload X (pc' := 38) at_36 rfl rfl ?_
        refine own_newarr X (len := 1) (vs := [0]) (pc' := 40) (hw _ (List.mem_of_getElem? (i := 0) rfl)) rfl (by decide) (by decide) rfl (by decide) at_38 rfl (by decide) (by decide) ?_
        intro T15 h15 ad15 X15 ge_ad15 g_ad15 E15 A15
        refine own_astore X15 (pc' := 42) (Ls' := #[.val (.int x0), .val (.int x1), .val (.int x2), .val (.int size), .val (.int mode), .val (.int (1 : Int32)), .val (.int x0), .val (.int x1), .val (.ref ad15), .unset]) at_40 rfl rfl rfl ?_
        refine own_iload X15 (pc' := 44) at_42 rfl rfl ?_
        refine own_if_le X15 (pct := 54) (pc' := 47) at_44 rfl (by decide) (by decide) (fun hc => absurd hc (by decide)) (fun _ => ?_)
        refine own_aload X15 (pc' := 49) at_47 rfl rfl rfl ?_
        refine own_iconst X15 (v := (0 : Int32)) (pc' := 50) at_49 rfl (by decide) ?_
        refine own_iload X15 (pc' := 52) at_50 rfl rfl ?_
        refine own_i2b X15 (r := (x0.toInt8.toInt32)) (pc' := 53) at_52 rfl rfl ?_
        refine own_bastore X15 (vs' := [(x0.toInt8.toInt32)]) (pc' := 54) A15 ge_ad15 rfl (own_b8 _) rfl at_53 rfl ?_
        intro T16 h16 X16 A16 W16
        refine own_iload X16 (pc' := 56) at_54 rfl rfl ?_
        refine own_iconst X16 (v := (1 : Int32)) (pc' := 57) at_56 rfl (by decide) ?_
        refine own_icmp_le X16 (pct := 67) (pc' := 60) at_57 rfl (by decide) (by decide) (fun _ => ?_) (fun hc => absurd hc (by decide))
        refine own_iload X16 (pc' := 69) at_67 rfl rfl ?_
        refine own_iconst X16 (v := (2 : Int32)) (pc' := 70) at_69 rfl (by decide) ?_
        refine own_icmp_le X16 (pct := 79) (pc' := 73) at_70 rfl (by decide) (by decide) (fun _ => ?_) (fun hc => absurd hc (by decide))
        refine own_iload X16 (pc' := 81) at_79 rfl rfl ?_
        refine own_iconst X16 (v := (2 : Int32)) (pc' := 82) at_81 rfl (by decide) ?_
        refine own_icmp_lt X16 (pct := 111) (pc' := 85) at_82 rfl (by decide) (by decide) (fun _ => ?_) (fun hc => absurd hc (by decide))
        refine own_iconst X16 (v := (0 : Int32)) (pc' := 112) at_111 rfl (by decide) ?_
        refine own_istore X16 (pc' := 114) (Ls' := #[.val (.int x0), .val (.int x1), .val (.int x2), .val (.int size), .val (.int mode), .val (.int (1 : Int32)), .val (.int x0), .val (.int x1), .val (.ref ad15), .val (.int (0 : Int32))]) at_112 rfl rfl ?_
        refine own_aload X16 (pc' := 116) at_114 rfl rfl rfl ?_
        refine own_callS X16 (W := 0) (argsL := [(.ref ad15)]) (rest := []) (S' := [(.int (0 : Int32))]) (pc' := 119) (rm1_1 l Z a0 hw n0 ad15 h16 X16.size (x0.toInt8.toInt32) A16) (hw _ (List.mem_of_getElem? (i := 1) rfl)) (hw _ (List.mem_of_getElem? (i := 2) rfl)) (hw _ (List.mem_of_getElem? (i := 3) rfl)) (hw _ (List.mem_of_getElem? (i := 4) rfl)) (by decide) (by decide) (by decide) rfl rfl (by decide) (by decide) (lenOf pd_0 rfl) rfl (by first | decide | exact Nat.le_of_eq rfl) rfl at_116 rfl rfl ?_
        intro T17 h17 X17 qq17
        rw [show h17 = h16 from qq17] at X17
        refine own_iload X17 (pc' := 121) at_119 rfl rfl ?_
        refine own_icmp_ne X17 (pct := 128) (pc' := 124) at_121 rfl (by decide) (by decide) (fun hc => absurd hc (by decide)) (fun _ => ?_)
        refine own_iconst X17 (v := (1 : Int32)) (pc' := 125) at_124 rfl (by decide) ?_
        refine own_goto X17 (pc' := 129) at_125 (by decide) (by decide) ?_
        subst hΦ
        exact own_retZ X17 at_129 (by decide) (by decide) (by decide) rfl trivial
      · refine own_sipush X (v := (139 : Int32)) (pc' := 30) at_27 rfl (by decide) ?_
        refine own_goto X (pc' := 34) at_30 (by decide) (by decide) ?_
        refine own_istore X (pc' := 36) (Ls' := #[.val (.int x0), .val (.int x1), .val (.int x2), .val (.int size), .val (.int mode), .val (.int (1 : Int32)), .val (.int x0), .val (.int (139 : Int32)), .unset, .unset]) at_34 rfl rfl ?_
        refine own_iload X (pc' := 38) at_36 rfl rfl ?_
        refine own_newarr X (len := 1) (vs := [0]) (pc' := 40) (hw _ (List.mem_of_getElem? (i := 0) rfl)) rfl (by decide) (by decide) rfl (by decide) at_38 rfl (by decide) (by decide) ?_
        intro T18 h18 ad18 X18 ge_ad18 g_ad18 E18 A18
        refine own_astore X18 (pc' := 42) (Ls' := #[.val (.int x0), .val (.int x1), .val (.int x2), .val (.int size), .val (.int mode), .val (.int (1 : Int32)), .val (.int x0), .val (.int (139 : Int32)), .val (.ref ad18), .unset]) at_40 rfl rfl rfl ?_
        refine own_iload X18 (pc' := 44) at_42 rfl rfl ?_
        refine own_if_le X18 (pct := 54) (pc' := 47) at_44 rfl (by decide) (by decide) (fun hc => absurd hc (by decide)) (fun _ => ?_)
        refine own_aload X18 (pc' := 49) at_47 rfl rfl rfl ?_
        refine own_iconst X18 (v := (0 : Int32)) (pc' := 50) at_49 rfl (by decide) ?_
        refine own_iload X18 (pc' := 52) at_50 rfl rfl ?_
        refine own_i2b X18 (r := (x0.toInt8.toInt32)) (pc' := 53) at_52 rfl rfl ?_
        refine own_bastore X18 (vs' := [(x0.toInt8.toInt32)]) (pc' := 54) A18 ge_ad18 rfl (own_b8 _) rfl at_53 rfl ?_
        intro T19 h19 X19 A19 W19
        refine own_iload X19 (pc' := 56) at_54 rfl rfl ?_
        refine own_iconst X19 (v := (1 : Int32)) (pc' := 57) at_56 rfl (by decide) ?_
        refine own_icmp_le X19 (pct := 67) (pc' := 60) at_57 rfl (by decide) (by decide) (fun _ => ?_) (fun hc => absurd hc (by decide))
        refine own_iload X19 (pc' := 69) at_67 rfl rfl ?_
        refine own_iconst X19 (v := (2 : Int32)) (pc' := 70) at_69 rfl (by decide) ?_
        refine own_icmp_le X19 (pct := 79) (pc' := 73) at_70 rfl (by decide) (by decide) (fun _ => ?_) (fun hc => absurd hc (by decide))
        refine own_iload X19 (pc' := 81) at_79 rfl rfl ?_
        refine own_iconst X19 (v := (2 : Int32)) (pc' := 82) at_81 rfl (by decide) ?_
        refine own_icmp_lt X19 (pct := 111) (pc' := 85) at_82 rfl (by decide) (by decide) (fun _ => ?_) (fun hc => absurd hc (by decide))
        refine own_iconst X19 (v := (0 : Int32)) (pc' := 112) at_111 rfl (by decide) ?_
        refine own_istore X19 (pc' := 114) (Ls' := #[.val (.int x0), .val (.int x1), .val (.int x2), .val (.int size), .val (.int mode), .val (.int (1 : Int32)), .val (.int x0), .val (.int (139 : Int32)), .val (.ref ad18), .val (.int (0 : Int32))]) at_112 rfl rfl ?_
        refine own_aload X19 (pc' := 116) at_114 rfl rfl rfl ?_
        refine own_callS X19 (W := 0) (argsL := [(.ref ad18)]) (rest := []) (S' := [(.int (0 : Int32))]) (pc' := 119) (rm1_1 l Z a0 hw n0 ad18 h19 X19.size (x0.toInt8.toInt32) A19) (hw _ (List.mem_of_getElem? (i := 1) rfl)) (hw _ (List.mem_of_getElem? (i := 2) rfl)) (hw _ (List.mem_of_getElem? (i := 3) rfl)) (hw _ (List.mem_of_getElem? (i := 4) rfl)) (by decide) (by decide) (by decide) rfl rfl (by decide) (by decide) (lenOf pd_0 rfl) rfl (by first | decide | exact Nat.le_of_eq rfl) rfl at_116 rfl rfl ?_
        intro T20 h20 X20 qq20
        rw [show h20 = h19 from qq20] at X20
        refine own_iload X20 (pc' := 121) at_119 rfl rfl ?_
        refine own_icmp_ne X20 (pct := 128) (pc' := 124) at_121 rfl (by decide) (by decide) (fun hc => absurd hc (by decide)) (fun _ => ?_)
        refine own_iconst X20 (v := (1 : Int32)) (pc' := 125) at_124 rfl (by decide) ?_
        refine own_goto X20 (pc' := 129) at_125 (by decide) (by decide) ?_
        subst hΦ
        exact own_retZ X20 at_129 (by decide) (by decide) (by decide) rfl trivial
    · refine own_bipush X (v := (31 : Int32)) (pc' := 14) at_12 rfl (by decide) ?_
      refine own_goto X (pc' := 18) at_14 (by decide) (by decide) ?_
      refine own_istore X (pc' := 20) (Ls' := #[.val (.int x0), .val (.int x1), .val (.int x2), .val (.int size), .val (.int mode), .val (.int (1 : Int32)), .val (.int (31 : Int32)), .unset, .unset, .unset]) at_18 rfl rfl ?_
      refine own_iload X (pc' := 22) at_20 rfl rfl ?_
      refine own_iconst X (v := (2 : Int32)) (pc' := 23) at_22 rfl (by decide) ?_
      refine own_iand X (r := (mode &&& (2 : Int32))) (pc' := 24) at_23 rfl rfl ?_
      refine own_if_eq X (pct := 33) (pc' := 27) at_24 rfl (by decide) (by decide) (fun hc24_21 => ?_) (fun hc24_21 => ?_)
      · refine own_iloadN X (pc' := 34) at_33 rfl rfl ?_
        refine own_istore X (pc' := 36) (Ls' := #[.val (.int x0), .val (.int x1), .val (.int x2), .val (.int size), .val (.int mode), .val (.int (1 : Int32)), .val (.int (31 : Int32)), .val (.int x1), .unset, .unset]) at_34 rfl rfl ?_
        refine own_iload X (pc' := 38) at_36 rfl rfl ?_
        refine own_newarr X (len := 1) (vs := [0]) (pc' := 40) (hw _ (List.mem_of_getElem? (i := 0) rfl)) rfl (by decide) (by decide) rfl (by decide) at_38 rfl (by decide) (by decide) ?_
        intro T22 h22 ad22 X22 ge_ad22 g_ad22 E22 A22
        refine own_astore X22 (pc' := 42) (Ls' := #[.val (.int x0), .val (.int x1), .val (.int x2), .val (.int size), .val (.int mode), .val (.int (1 : Int32)), .val (.int (31 : Int32)), .val (.int x1), .val (.ref ad22), .unset]) at_40 rfl rfl rfl ?_
        refine own_iload X22 (pc' := 44) at_42 rfl rfl ?_
        refine own_if_le X22 (pct := 54) (pc' := 47) at_44 rfl (by decide) (by decide) (fun hc => absurd hc (by decide)) (fun _ => ?_)
        refine own_aload X22 (pc' := 49) at_47 rfl rfl rfl ?_
        refine own_iconst X22 (v := (0 : Int32)) (pc' := 50) at_49 rfl (by decide) ?_
        refine own_iload X22 (pc' := 52) at_50 rfl rfl ?_
        refine own_i2b X22 (r := (31 : Int32)) (pc' := 53) at_52 rfl (by decide) ?_
        refine own_bastore X22 (vs' := [(31 : Int32)]) (pc' := 54) A22 ge_ad22 rfl (by decide) rfl at_53 rfl ?_
        intro T23 h23 X23 A23 W23
        refine own_iload X23 (pc' := 56) at_54 rfl rfl ?_
        refine own_iconst X23 (v := (1 : Int32)) (pc' := 57) at_56 rfl (by decide) ?_
        refine own_icmp_le X23 (pct := 67) (pc' := 60) at_57 rfl (by decide) (by decide) (fun _ => ?_) (fun hc => absurd hc (by decide))
        refine own_iload X23 (pc' := 69) at_67 rfl rfl ?_
        refine own_iconst X23 (v := (2 : Int32)) (pc' := 70) at_69 rfl (by decide) ?_
        refine own_icmp_le X23 (pct := 79) (pc' := 73) at_70 rfl (by decide) (by decide) (fun _ => ?_) (fun hc => absurd hc (by decide))
        refine own_iload X23 (pc' := 81) at_79 rfl rfl ?_
        refine own_iconst X23 (v := (2 : Int32)) (pc' := 82) at_81 rfl (by decide) ?_
        refine own_icmp_lt X23 (pct := 111) (pc' := 85) at_82 rfl (by decide) (by decide) (fun _ => ?_) (fun hc => absurd hc (by decide))
        refine own_iconst X23 (v := (0 : Int32)) (pc' := 112) at_111 rfl (by decide) ?_
        refine own_istore X23 (pc' := 114) (Ls' := #[.val (.int x0), .val (.int x1), .val (.int x2), .val (.int size), .val (.int mode), .val (.int (1 : Int32)), .val (.int (31 : Int32)), .val (.int x1), .val (.ref ad22), .val (.int (0 : Int32))]) at_112 rfl rfl ?_
        refine own_aload X23 (pc' := 116) at_114 rfl rfl rfl ?_
        refine own_callS X23 (W := 0) (argsL := [(.ref ad22)]) (rest := []) (S' := [(.int (0 : Int32))]) (pc' := 119) (rm1_1 l Z a0 hw n0 ad22 h23 X23.size (31 : Int32) A23) (hw _ (List.mem_of_getElem? (i := 1) rfl)) (hw _ (List.mem_of_getElem? (i := 2) rfl)) (hw _ (List.mem_of_getElem? (i := 3) rfl)) (hw _ (List.mem_of_getElem? (i := 4) rfl)) (by decide) (by decide) (by decide) rfl rfl (by decide) (by decide) (lenOf pd_0 rfl) rfl (by first | decide | exact Nat.le_of_eq rfl) rfl at_116 rfl rfl ?_
        intro T24 h24 X24 qq24
        rw [show h24 = h23 from qq24] at X24
        refine own_iload X24 (pc' := 121) at_119 rfl rfl ?_
        refine own_icmp_ne X24 (pct := 128) (pc' := 124) at_121 rfl (by decide) (by decide) (fun hc => absurd hc (by decide)) (fun _ => ?_)
        refine own_iconst X24 (v := (1 : Int32)) (pc' := 125) at_124 rfl (by decide) ?_
        refine own_goto X24 (pc' := 129) at_125 (by decide) (by decide) ?_
        subst hΦ
        exact own_retZ X24 at_129 (by decide) (by decide) (by decide) rfl trivial
      · refine own_sipush X (v := (139 : Int32)) (pc' := 30) at_27 rfl (by decide) ?_
        refine own_goto X (pc' := 34) at_30 (by decide) (by decide) ?_
        refine own_istore X (pc' := 36) (Ls' := #[.val (.int x0), .val (.int x1), .val (.int x2), .val (.int size), .val (.int mode), .val (.int (1 : Int32)), .val (.int (31 : Int32)), .val (.int (139 : Int32)), .unset, .unset]) at_34 rfl rfl ?_
        refine own_iload X (pc' := 38) at_36 rfl rfl ?_
        refine own_newarr X (len := 1) (vs := [0]) (pc' := 40) (hw _ (List.mem_of_getElem? (i := 0) rfl)) rfl (by decide) (by decide) rfl (by decide) at_38 rfl (by decide) (by decide) ?_
        intro T25 h25 ad25 X25 ge_ad25 g_ad25 E25 A25
        refine own_astore X25 (pc' := 42) (Ls' := #[.val (.int x0), .val (.int x1), .val (.int x2), .val (.int size), .val (.int mode), .val (.int (1 : Int32)), .val (.int (31 : Int32)), .val (.int (139 : Int32)), .val (.ref ad25), .unset]) at_40 rfl rfl rfl ?_
        refine own_iload X25 (pc' := 44) at_42 rfl rfl ?_
        refine own_if_le X25 (pct := 54) (pc' := 47) at_44 rfl (by decide) (by decide) (fun hc => absurd hc (by decide)) (fun _ => ?_)
        refine own_aload X25 (pc' := 49) at_47 rfl rfl rfl ?_
        refine own_iconst X25 (v := (0 : Int32)) (pc' := 50) at_49 rfl (by decide) ?_
        refine own_iload X25 (pc' := 52) at_50 rfl rfl ?_
        refine own_i2b X25 (r := (31 : Int32)) (pc' := 53) at_52 rfl (by decide) ?_
        refine own_bastore X25 (vs' := [(31 : Int32)]) (pc' := 54) A25 ge_ad25 rfl (by decide) rfl at_53 rfl ?_
        intro T26 h26 X26 A26 W26
        refine own_iload X26 (pc' := 56) at_54 rfl rfl ?_
        refine own_iconst X26 (v := (1 : Int32)) (pc' := 57) at_56 rfl (by decide) ?_
        refine own_icmp_le X26 (pct := 67) (pc' := 60) at_57 rfl (by decide) (by decide) (fun _ => ?_) (fun hc => absurd hc (by decide))
        refine own_iload X26 (pc' := 69) at_67 rfl rfl ?_
        refine own_iconst X26 (v := (2 : Int32)) (pc' := 70) at_69 rfl (by decide) ?_
        refine own_icmp_le X26 (pct := 79) (pc' := 73) at_70 rfl (by decide) (by decide) (fun _ => ?_) (fun hc => absurd hc (by decide))
        refine own_iload X26 (pc' := 81) at_79 rfl rfl ?_
        refine own_iconst X26 (v := (2 : Int32)) (pc' := 82) at_81 rfl (by decide) ?_
        refine own_icmp_lt X26 (pct := 111) (pc' := 85) at_82 rfl (by decide) (by decide) (fun _ => ?_) (fun hc => absurd hc (by decide))
        refine own_iconst X26 (v := (0 : Int32)) (pc' := 112) at_111 rfl (by decide) ?_
        refine own_istore X26 (pc' := 114) (Ls' := #[.val (.int x0), .val (.int x1), .val (.int x2), .val (.int size), .val (.int mode), .val (.int (1 : Int32)), .val (.int (31 : Int32)), .val (.int (139 : Int32)), .val (.ref ad25), .val (.int (0 : Int32))]) at_112 rfl rfl ?_
        refine own_aload X26 (pc' := 116) at_114 rfl rfl rfl ?_
        refine own_callS X26 (W := 0) (argsL := [(.ref ad25)]) (rest := []) (S' := [(.int (0 : Int32))]) (pc' := 119) (rm1_1 l Z a0 hw n0 ad25 h26 X26.size (31 : Int32) A26) (hw _ (List.mem_of_getElem? (i := 1) rfl)) (hw _ (List.mem_of_getElem? (i := 2) rfl)) (hw _ (List.mem_of_getElem? (i := 3) rfl)) (hw _ (List.mem_of_getElem? (i := 4) rfl)) (by decide) (by decide) (by decide) rfl rfl (by decide) (by decide) (lenOf pd_0 rfl) rfl (by first | decide | exact Nat.le_of_eq rfl) rfl at_116 rfl rfl ?_
        intro T27 h27 X27 qq27
        rw [show h27 = h26 from qq27] at X27
        refine own_iload X27 (pc' := 121) at_119 rfl rfl ?_
        refine own_icmp_ne X27 (pct := 128) (pc' := 124) at_121 rfl (by decide) (by decide) (fun hc => absurd hc (by decide)) (fun _ => ?_)
        refine own_iconst X27 (v := (1 : Int32)) (pc' := 125) at_124 rfl (by decide) ?_
        refine own_goto X27 (pc' := 129) at_125 (by decide) (by decide) ?_
        subst hΦ
        exact own_retZ X27 at_129 (by decide) (by decide) (by decide) rfl trivial
  · refine own_iload X (pc' := 7) at_5 rfl rfl ?_
    refine own_iconst X (v := (1 : Int32)) (pc' := 8) at_7 rfl (by decide) ?_
    refine own_iand X (r := (mode &&& (1 : Int32))) (pc' := 9) at_8 rfl rfl ?_
    refine own_if_eq X (pct := 17) (pc' := 12) at_9 rfl (by decide) (by decide) (fun hc9_28 => ?_) (fun hc9_28 => ?_)
    · refine own_iloadN X (pc' := 18) at_17 rfl rfl ?_
      refine own_istore X (pc' := 20) (Ls' := #[.val (.int x0), .val (.int x1), .val (.int x2), .val (.int size), .val (.int mode), .val (.int (2 : Int32)), .val (.int x0), .unset, .unset, .unset]) at_18 rfl rfl ?_
      refine own_iload X (pc' := 22) at_20 rfl rfl ?_
      refine own_iconst X (v := (2 : Int32)) (pc' := 23) at_22 rfl (by decide) ?_
      refine own_iand X (r := (mode &&& (2 : Int32))) (pc' := 24) at_23 rfl rfl ?_
      refine own_if_eq X (pct := 33) (pc' := 27) at_24 rfl (by decide) (by decide) (fun hc24_29 => ?_) (fun hc24_29 => ?_)
      · refine own_iloadN X (pc' := 34) at_33 rfl rfl ?_
        refine own_istore X (pc' := 36) (Ls' := #[.val (.int x0), .val (.int x1), .val (.int x2), .val (.int size), .val (.int mode), .val (.int (2 : Int32)), .val (.int x0), .val (.int x1), .unset, .unset]) at_34 rfl rfl ?_
        refine own_iload X (pc' := 38) at_36 rfl rfl ?_
        refine own_newarr X (len := 2) (vs := [0, 0]) (pc' := 40) (hw _ (List.mem_of_getElem? (i := 0) rfl)) rfl (by decide) (by decide) rfl (by decide) at_38 rfl (by decide) (by decide) ?_
        intro T30 h30 ad30 X30 ge_ad30 g_ad30 E30 A30
        refine own_astore X30 (pc' := 42) (Ls' := #[.val (.int x0), .val (.int x1), .val (.int x2), .val (.int size), .val (.int mode), .val (.int (2 : Int32)), .val (.int x0), .val (.int x1), .val (.ref ad30), .unset]) at_40 rfl rfl rfl ?_
        refine own_iload X30 (pc' := 44) at_42 rfl rfl ?_
        refine own_if_le X30 (pct := 54) (pc' := 47) at_44 rfl (by decide) (by decide) (fun hc => absurd hc (by decide)) (fun _ => ?_)
        refine own_aload X30 (pc' := 49) at_47 rfl rfl rfl ?_
        refine own_iconst X30 (v := (0 : Int32)) (pc' := 50) at_49 rfl (by decide) ?_
        refine own_iload X30 (pc' := 52) at_50 rfl rfl ?_
        refine own_i2b X30 (r := (x0.toInt8.toInt32)) (pc' := 53) at_52 rfl rfl ?_
        refine own_bastore X30 (vs' := [(x0.toInt8.toInt32), (0 : Int32)]) (pc' := 54) A30 ge_ad30 rfl (own_b8 _) rfl at_53 rfl ?_
        intro T31 h31 X31 A31 W31
        refine own_iload X31 (pc' := 56) at_54 rfl rfl ?_
        refine own_iconst X31 (v := (1 : Int32)) (pc' := 57) at_56 rfl (by decide) ?_
        refine own_icmp_le X31 (pct := 67) (pc' := 60) at_57 rfl (by decide) (by decide) (fun hc => absurd hc (by decide)) (fun _ => ?_)
        refine own_aload X31 (pc' := 62) at_60 rfl rfl rfl ?_
        refine own_iconst X31 (v := (1 : Int32)) (pc' := 63) at_62 rfl (by decide) ?_
        refine own_iload X31 (pc' := 65) at_63 rfl rfl ?_
        refine own_i2b X31 (r := (x1.toInt8.toInt32)) (pc' := 66) at_65 rfl rfl ?_
        refine own_bastore X31 (vs' := [(x0.toInt8.toInt32), (x1.toInt8.toInt32)]) (pc' := 67) A31 ge_ad30 rfl (own_b8 _) rfl at_66 rfl ?_
        intro T32 h32 X32 A32 W32
        refine own_iload X32 (pc' := 69) at_67 rfl rfl ?_
        refine own_iconst X32 (v := (2 : Int32)) (pc' := 70) at_69 rfl (by decide) ?_
        refine own_icmp_le X32 (pct := 79) (pc' := 73) at_70 rfl (by decide) (by decide) (fun _ => ?_) (fun hc => absurd hc (by decide))
        refine own_iload X32 (pc' := 81) at_79 rfl rfl ?_
        refine own_iconst X32 (v := (2 : Int32)) (pc' := 82) at_81 rfl (by decide) ?_
        refine own_icmp_lt X32 (pct := 111) (pc' := 85) at_82 rfl (by decide) (by decide) (fun hc => absurd hc (by decide)) (fun _ => ?_)
        refine own_iload X32 (pc' := 87) at_85 rfl rfl ?_
        refine own_ldc2 X32 (pc' := 90) (hw _ (List.mem_of_getElem? (i := 5) rfl)) at_87 rfl ?_
        refine own_callS X32 (W := 0) (argsL := [(.int x0), (.long (31 : Int64))]) (rest := []) (S' := [(.int (own_cg x0 (31 : Int64)))]) (pc' := 93) (rm2 l Z a0 hw n0 x0 (31 : Int64) h32 X32.size) (hw _ (List.mem_of_getElem? (i := 6) rfl)) (hw _ (List.mem_of_getElem? (i := 7) rfl)) (hw _ (List.mem_of_getElem? (i := 8) rfl)) (hw _ (List.mem_of_getElem? (i := 9) rfl)) (by decide) (by decide) (by decide) rfl rfl (by decide) (by decide) (lenOf pd_1 rfl) rfl (by first | decide | exact Nat.le_of_eq rfl) rfl at_90 rfl rfl ?_
        intro T33 h33 X33 qq33
        rw [show h33 = h32 from qq33] at X33
        refine own_if_eq X33 (pct := 111) (pc' := 96) at_93 rfl (by decide) (by decide) (fun hc93_34 => ?_) (fun hc93_34 => ?_)
        · refine own_iconst X33 (v := (0 : Int32)) (pc' := 112) at_111 rfl (by decide) ?_
          refine own_istore X33 (pc' := 114) (Ls' := #[.val (.int x0), .val (.int x1), .val (.int x2), .val (.int size), .val (.int mode), .val (.int (2 : Int32)), .val (.int x0), .val (.int x1), .val (.ref ad30), .val (.int (0 : Int32))]) at_112 rfl rfl ?_
          refine own_aload X33 (pc' := 116) at_114 rfl rfl rfl ?_
          refine own_callS X33 (W := 0) (argsL := [(.ref ad30)]) (rest := []) (S' := [(.int (own_mg (x0.toInt8.toInt32) (x1.toInt8.toInt32)))]) (pc' := 119) (rm1_2 l Z a0 hw n0 ad30 h32 X33.size (x0.toInt8.toInt32) (x1.toInt8.toInt32) A32) (hw _ (List.mem_of_getElem? (i := 1) rfl)) (hw _ (List.mem_of_getElem? (i := 2) rfl)) (hw _ (List.mem_of_getElem? (i := 3) rfl)) (hw _ (List.mem_of_getElem? (i := 4) rfl)) (by decide) (by decide) (by decide) rfl rfl (by decide) (by decide) (lenOf pd_0 rfl) rfl (by first | decide | exact Nat.le_of_eq rfl) rfl at_116 rfl rfl ?_
          intro T35 h35 X35 qq35
          rw [show h35 = h32 from qq35] at X35
          refine own_iload X35 (pc' := 121) at_119 rfl rfl ?_
          refine own_icmp_ne X35 (pct := 128) (pc' := 124) at_121 rfl (by decide) (by decide) (fun hc121_36 => ?_) (fun hc121_36 => ?_)
          · refine own_iconst X35 (v := (0 : Int32)) (pc' := 129) at_128 rfl (by decide) ?_
            subst hΦ
            exfalso
            simp_all [own_mg, own_l31, own_l139, own_k1, own_k2, own_k3, own_k4, own_k5, own_k6]
          · refine own_iconst X35 (v := (1 : Int32)) (pc' := 125) at_124 rfl (by decide) ?_
            refine own_goto X35 (pc' := 129) at_125 (by decide) (by decide) ?_
            subst hΦ
            exact own_retZ X35 at_129 (by decide) (by decide) (by decide) rfl trivial
        · refine own_iload X33 (pc' := 98) at_96 rfl rfl ?_
          refine own_ldc2 X33 (pc' := 101) (hw _ (List.mem_of_getElem? (i := 11) rfl)) at_98 rfl ?_
          refine own_callS X33 (W := 0) (argsL := [(.int x1), (.long (139 : Int64))]) (rest := []) (S' := [(.int (own_cg x1 (139 : Int64)))]) (pc' := 104) (rm2 l Z a0 hw n0 x1 (139 : Int64) h32 X33.size) (hw _ (List.mem_of_getElem? (i := 6) rfl)) (hw _ (List.mem_of_getElem? (i := 7) rfl)) (hw _ (List.mem_of_getElem? (i := 8) rfl)) (hw _ (List.mem_of_getElem? (i := 9) rfl)) (by decide) (by decide) (by decide) rfl rfl (by decide) (by decide) (lenOf pd_1 rfl) rfl (by first | decide | exact Nat.le_of_eq rfl) rfl at_101 rfl rfl ?_
          intro T37 h37 X37 qq37
          rw [show h37 = h32 from qq37] at X37
          refine own_if_eq X37 (pct := 111) (pc' := 107) at_104 rfl (by decide) (by decide) (fun hc104_38 => ?_) (fun hc104_38 => ?_)
          · refine own_iconst X37 (v := (0 : Int32)) (pc' := 112) at_111 rfl (by decide) ?_
            refine own_istore X37 (pc' := 114) (Ls' := #[.val (.int x0), .val (.int x1), .val (.int x2), .val (.int size), .val (.int mode), .val (.int (2 : Int32)), .val (.int x0), .val (.int x1), .val (.ref ad30), .val (.int (0 : Int32))]) at_112 rfl rfl ?_
            refine own_aload X37 (pc' := 116) at_114 rfl rfl rfl ?_
            refine own_callS X37 (W := 0) (argsL := [(.ref ad30)]) (rest := []) (S' := [(.int (own_mg (x0.toInt8.toInt32) (x1.toInt8.toInt32)))]) (pc' := 119) (rm1_2 l Z a0 hw n0 ad30 h32 X37.size (x0.toInt8.toInt32) (x1.toInt8.toInt32) A32) (hw _ (List.mem_of_getElem? (i := 1) rfl)) (hw _ (List.mem_of_getElem? (i := 2) rfl)) (hw _ (List.mem_of_getElem? (i := 3) rfl)) (hw _ (List.mem_of_getElem? (i := 4) rfl)) (by decide) (by decide) (by decide) rfl rfl (by decide) (by decide) (lenOf pd_0 rfl) rfl (by first | decide | exact Nat.le_of_eq rfl) rfl at_116 rfl rfl ?_
            intro T39 h39 X39 qq39
            rw [show h39 = h32 from qq39] at X39
            refine own_iload X39 (pc' := 121) at_119 rfl rfl ?_
            refine own_icmp_ne X39 (pct := 128) (pc' := 124) at_121 rfl (by decide) (by decide) (fun hc121_40 => ?_) (fun hc121_40 => ?_)
            · refine own_iconst X39 (v := (0 : Int32)) (pc' := 129) at_128 rfl (by decide) ?_
              subst hΦ
              exfalso
              simp_all [own_mg, own_l31, own_l139, own_k1, own_k2, own_k3, own_k4, own_k5, own_k6]
            · refine own_iconst X39 (v := (1 : Int32)) (pc' := 125) at_124 rfl (by decide) ?_
              refine own_goto X39 (pc' := 129) at_125 (by decide) (by decide) ?_
              subst hΦ
              exact own_retZ X39 at_129 (by decide) (by decide) (by decide) rfl trivial
          · refine own_iconst X37 (v := (1 : Int32)) (pc' := 108) at_107 rfl (by decide) ?_
            refine own_goto X37 (pc' := 112) at_108 (by decide) (by decide) ?_
            refine own_istore X37 (pc' := 114) (Ls' := #[.val (.int x0), .val (.int x1), .val (.int x2), .val (.int size), .val (.int mode), .val (.int (2 : Int32)), .val (.int x0), .val (.int x1), .val (.ref ad30), .val (.int (1 : Int32))]) at_112 rfl rfl ?_
            refine own_aload X37 (pc' := 116) at_114 rfl rfl rfl ?_
            refine own_callS X37 (W := 0) (argsL := [(.ref ad30)]) (rest := []) (S' := [(.int (own_mg (x0.toInt8.toInt32) (x1.toInt8.toInt32)))]) (pc' := 119) (rm1_2 l Z a0 hw n0 ad30 h32 X37.size (x0.toInt8.toInt32) (x1.toInt8.toInt32) A32) (hw _ (List.mem_of_getElem? (i := 1) rfl)) (hw _ (List.mem_of_getElem? (i := 2) rfl)) (hw _ (List.mem_of_getElem? (i := 3) rfl)) (hw _ (List.mem_of_getElem? (i := 4) rfl)) (by decide) (by decide) (by decide) rfl rfl (by decide) (by decide) (lenOf pd_0 rfl) rfl (by first | decide | exact Nat.le_of_eq rfl) rfl at_116 rfl rfl ?_
            intro T41 h41 X41 qq41
            rw [show h41 = h32 from qq41] at X41
            refine own_iload X41 (pc' := 121) at_119 rfl rfl ?_
            refine own_icmp_ne X41 (pct := 128) (pc' := 124) at_121 rfl (by decide) (by decide) (fun hc121_42 => ?_) (fun hc121_42 => ?_)
            · refine own_iconst X41 (v := (0 : Int32)) (pc' := 129) at_128 rfl (by decide) ?_
              subst hΦ
              exfalso
              simp_all [own_mg, own_l31, own_l139, own_k1, own_k2, own_k3, own_k4, own_k5, own_k6]
            · refine own_iconst X41 (v := (1 : Int32)) (pc' := 125) at_124 rfl (by decide) ?_
              refine own_goto X41 (pc' := 129) at_125 (by decide) (by decide) ?_
              subst hΦ
              exact own_retZ X41 at_129 (by decide) (by decide) (by decide) rfl trivial
      · refine own_sipush X (v := (139 : Int32)) (pc' := 30) at_27 rfl (by decide) ?_
        refine own_goto X (pc' := 34) at_30 (by decide) (by decide) ?_
        refine own_istore X (pc' := 36) (Ls' := #[.val (.int x0), .val (.int x1), .val (.int x2), .val (.int size), .val (.int mode), .val (.int (2 : Int32)), .val (.int x0), .val (.int (139 : Int32)), .unset, .unset]) at_34 rfl rfl ?_
        refine own_iload X (pc' := 38) at_36 rfl rfl ?_
        refine own_newarr X (len := 2) (vs := [0, 0]) (pc' := 40) (hw _ (List.mem_of_getElem? (i := 0) rfl)) rfl (by decide) (by decide) rfl (by decide) at_38 rfl (by decide) (by decide) ?_
        intro T43 h43 ad43 X43 ge_ad43 g_ad43 E43 A43
        refine own_astore X43 (pc' := 42) (Ls' := #[.val (.int x0), .val (.int x1), .val (.int x2), .val (.int size), .val (.int mode), .val (.int (2 : Int32)), .val (.int x0), .val (.int (139 : Int32)), .val (.ref ad43), .unset]) at_40 rfl rfl rfl ?_
        refine own_iload X43 (pc' := 44) at_42 rfl rfl ?_
        refine own_if_le X43 (pct := 54) (pc' := 47) at_44 rfl (by decide) (by decide) (fun hc => absurd hc (by decide)) (fun _ => ?_)
        refine own_aload X43 (pc' := 49) at_47 rfl rfl rfl ?_
        refine own_iconst X43 (v := (0 : Int32)) (pc' := 50) at_49 rfl (by decide) ?_
        refine own_iload X43 (pc' := 52) at_50 rfl rfl ?_
        refine own_i2b X43 (r := (x0.toInt8.toInt32)) (pc' := 53) at_52 rfl rfl ?_
        refine own_bastore X43 (vs' := [(x0.toInt8.toInt32), (0 : Int32)]) (pc' := 54) A43 ge_ad43 rfl (own_b8 _) rfl at_53 rfl ?_
        intro T44 h44 X44 A44 W44
        refine own_iload X44 (pc' := 56) at_54 rfl rfl ?_
        refine own_iconst X44 (v := (1 : Int32)) (pc' := 57) at_56 rfl (by decide) ?_
        refine own_icmp_le X44 (pct := 67) (pc' := 60) at_57 rfl (by decide) (by decide) (fun hc => absurd hc (by decide)) (fun _ => ?_)
        refine own_aload X44 (pc' := 62) at_60 rfl rfl rfl ?_
        refine own_iconst X44 (v := (1 : Int32)) (pc' := 63) at_62 rfl (by decide) ?_
        refine own_iload X44 (pc' := 65) at_63 rfl rfl ?_
        refine own_i2b X44 (r := (-117 : Int32)) (pc' := 66) at_65 rfl (by decide) ?_
        refine own_bastore X44 (vs' := [(x0.toInt8.toInt32), (-117 : Int32)]) (pc' := 67) A44 ge_ad43 rfl (by decide) rfl at_66 rfl ?_
        intro T45 h45 X45 A45 W45
        refine own_iload X45 (pc' := 69) at_67 rfl rfl ?_
        refine own_iconst X45 (v := (2 : Int32)) (pc' := 70) at_69 rfl (by decide) ?_
        refine own_icmp_le X45 (pct := 79) (pc' := 73) at_70 rfl (by decide) (by decide) (fun _ => ?_) (fun hc => absurd hc (by decide))
        refine own_iload X45 (pc' := 81) at_79 rfl rfl ?_
        refine own_iconst X45 (v := (2 : Int32)) (pc' := 82) at_81 rfl (by decide) ?_
        refine own_icmp_lt X45 (pct := 111) (pc' := 85) at_82 rfl (by decide) (by decide) (fun hc => absurd hc (by decide)) (fun _ => ?_)
        refine own_iload X45 (pc' := 87) at_85 rfl rfl ?_
        refine own_ldc2 X45 (pc' := 90) (hw _ (List.mem_of_getElem? (i := 5) rfl)) at_87 rfl ?_
        refine own_callS X45 (W := 0) (argsL := [(.int x0), (.long (31 : Int64))]) (rest := []) (S' := [(.int (own_cg x0 (31 : Int64)))]) (pc' := 93) (rm2 l Z a0 hw n0 x0 (31 : Int64) h45 X45.size) (hw _ (List.mem_of_getElem? (i := 6) rfl)) (hw _ (List.mem_of_getElem? (i := 7) rfl)) (hw _ (List.mem_of_getElem? (i := 8) rfl)) (hw _ (List.mem_of_getElem? (i := 9) rfl)) (by decide) (by decide) (by decide) rfl rfl (by decide) (by decide) (lenOf pd_1 rfl) rfl (by first | decide | exact Nat.le_of_eq rfl) rfl at_90 rfl rfl ?_
        intro T46 h46 X46 qq46
        rw [show h46 = h45 from qq46] at X46
        refine own_if_eq X46 (pct := 111) (pc' := 96) at_93 rfl (by decide) (by decide) (fun hc93_47 => ?_) (fun hc93_47 => ?_)
        · refine own_iconst X46 (v := (0 : Int32)) (pc' := 112) at_111 rfl (by decide) ?_
          refine own_istore X46 (pc' := 114) (Ls' := #[.val (.int x0), .val (.int x1), .val (.int x2), .val (.int size), .val (.int mode), .val (.int (2 : Int32)), .val (.int x0), .val (.int (139 : Int32)), .val (.ref ad43), .val (.int (0 : Int32))]) at_112 rfl rfl ?_
          refine own_aload X46 (pc' := 116) at_114 rfl rfl rfl ?_
          refine own_callS X46 (W := 0) (argsL := [(.ref ad43)]) (rest := []) (S' := [(.int (own_mg (x0.toInt8.toInt32) (-117 : Int32)))]) (pc' := 119) (rm1_2 l Z a0 hw n0 ad43 h45 X46.size (x0.toInt8.toInt32) (-117 : Int32) A45) (hw _ (List.mem_of_getElem? (i := 1) rfl)) (hw _ (List.mem_of_getElem? (i := 2) rfl)) (hw _ (List.mem_of_getElem? (i := 3) rfl)) (hw _ (List.mem_of_getElem? (i := 4) rfl)) (by decide) (by decide) (by decide) rfl rfl (by decide) (by decide) (lenOf pd_0 rfl) rfl (by first | decide | exact Nat.le_of_eq rfl) rfl at_116 rfl rfl ?_
          intro T48 h48 X48 qq48
          rw [show h48 = h45 from qq48] at X48
          refine own_iload X48 (pc' := 121) at_119 rfl rfl ?_
          refine own_icmp_ne X48 (pct := 128) (pc' := 124) at_121 rfl (by decide) (by decide) (fun hc121_49 => ?_) (fun hc121_49 => ?_)
          · refine own_iconst X48 (v := (0 : Int32)) (pc' := 129) at_128 rfl (by decide) ?_
            subst hΦ
            exfalso
            simp_all [own_mg, own_l31, own_l139, own_k1, own_k2, own_k3, own_k4, own_k5, own_k6]
          · refine own_iconst X48 (v := (1 : Int32)) (pc' := 125) at_124 rfl (by decide) ?_
            refine own_goto X48 (pc' := 129) at_125 (by decide) (by decide) ?_
            subst hΦ
            exact own_retZ X48 at_129 (by decide) (by decide) (by decide) rfl trivial
        · refine own_iload X46 (pc' := 98) at_96 rfl rfl ?_
          refine own_ldc2 X46 (pc' := 101) (hw _ (List.mem_of_getElem? (i := 11) rfl)) at_98 rfl ?_
          refine own_callS X46 (W := 0) (argsL := [(.int (139 : Int32)), (.long (139 : Int64))]) (rest := []) (S' := [(.int (own_cg (139 : Int32) (139 : Int64)))]) (pc' := 104) (rm2 l Z a0 hw n0 (139 : Int32) (139 : Int64) h45 X46.size) (hw _ (List.mem_of_getElem? (i := 6) rfl)) (hw _ (List.mem_of_getElem? (i := 7) rfl)) (hw _ (List.mem_of_getElem? (i := 8) rfl)) (hw _ (List.mem_of_getElem? (i := 9) rfl)) (by decide) (by decide) (by decide) rfl rfl (by decide) (by decide) (lenOf pd_1 rfl) rfl (by first | decide | exact Nat.le_of_eq rfl) rfl at_101 rfl rfl ?_
          intro T50 h50 X50 qq50
          rw [show h50 = h45 from qq50] at X50
          refine own_if_eq X50 (pct := 111) (pc' := 107) at_104 rfl (by decide) (by decide) (fun hc104_51 => ?_) (fun hc104_51 => ?_)
          · refine own_iconst X50 (v := (0 : Int32)) (pc' := 112) at_111 rfl (by decide) ?_
            refine own_istore X50 (pc' := 114) (Ls' := #[.val (.int x0), .val (.int x1), .val (.int x2), .val (.int size), .val (.int mode), .val (.int (2 : Int32)), .val (.int x0), .val (.int (139 : Int32)), .val (.ref ad43), .val (.int (0 : Int32))]) at_112 rfl rfl ?_
            refine own_aload X50 (pc' := 116) at_114 rfl rfl rfl ?_
            refine own_callS X50 (W := 0) (argsL := [(.ref ad43)]) (rest := []) (S' := [(.int (own_mg (x0.toInt8.toInt32) (-117 : Int32)))]) (pc' := 119) (rm1_2 l Z a0 hw n0 ad43 h45 X50.size (x0.toInt8.toInt32) (-117 : Int32) A45) (hw _ (List.mem_of_getElem? (i := 1) rfl)) (hw _ (List.mem_of_getElem? (i := 2) rfl)) (hw _ (List.mem_of_getElem? (i := 3) rfl)) (hw _ (List.mem_of_getElem? (i := 4) rfl)) (by decide) (by decide) (by decide) rfl rfl (by decide) (by decide) (lenOf pd_0 rfl) rfl (by first | decide | exact Nat.le_of_eq rfl) rfl at_116 rfl rfl ?_
            intro T52 h52 X52 qq52
            rw [show h52 = h45 from qq52] at X52
            refine own_iload X52 (pc' := 121) at_119 rfl rfl ?_
            refine own_icmp_ne X52 (pct := 128) (pc' := 124) at_121 rfl (by decide) (by decide) (fun hc121_53 => ?_) (fun hc121_53 => ?_)
            · refine own_iconst X52 (v := (0 : Int32)) (pc' := 129) at_128 rfl (by decide) ?_
              subst hΦ
              exfalso
              simp_all [own_mg, own_l31, own_l139, own_k1, own_k2, own_k3, own_k4, own_k5, own_k6]
            · refine own_iconst X52 (v := (1 : Int32)) (pc' := 125) at_124 rfl (by decide) ?_
              refine own_goto X52 (pc' := 129) at_125 (by decide) (by decide) ?_
              subst hΦ
              exact own_retZ X52 at_129 (by decide) (by decide) (by decide) rfl trivial
          · refine own_iconst X50 (v := (1 : Int32)) (pc' := 108) at_107 rfl (by decide) ?_
            refine own_goto X50 (pc' := 112) at_108 (by decide) (by decide) ?_
            refine own_istore X50 (pc' := 114) (Ls' := #[.val (.int x0), .val (.int x1), .val (.int x2), .val (.int size), .val (.int mode), .val (.int (2 : Int32)), .val (.int x0), .val (.int (139 : Int32)), .val (.ref ad43), .val (.int (1 : Int32))]) at_112 rfl rfl ?_
            refine own_aload X50 (pc' := 116) at_114 rfl rfl rfl ?_
            refine own_callS X50 (W := 0) (argsL := [(.ref ad43)]) (rest := []) (S' := [(.int (own_mg (x0.toInt8.toInt32) (-117 : Int32)))]) (pc' := 119) (rm1_2 l Z a0 hw n0 ad43 h45 X50.size (x0.toInt8.toInt32) (-117 : Int32) A45) (hw _ (List.mem_of_getElem? (i := 1) rfl)) (hw _ (List.mem_of_getElem? (i := 2) rfl)) (hw _ (List.mem_of_getElem? (i := 3) rfl)) (hw _ (List.mem_of_getElem? (i := 4) rfl)) (by decide) (by decide) (by decide) rfl rfl (by decide) (by decide) (lenOf pd_0 rfl) rfl (by first | decide | exact Nat.le_of_eq rfl) rfl at_116 rfl rfl ?_
            intro T54 h54 X54 qq54
            rw [show h54 = h45 from qq54] at X54
            refine own_iload X54 (pc' := 121) at_119 rfl rfl ?_
            refine own_icmp_ne X54 (pct := 128) (pc' := 124) at_121 rfl (by decide) (by decide) (fun hc121_55 => ?_) (fun hc121_55 => ?_)
            · refine own_iconst X54 (v := (0 : Int32)) (pc' := 129) at_128 rfl (by decide) ?_
              subst hΦ
              exfalso
              simp_all [own_mg, own_l31, own_l139, own_k1, own_k2, own_k3, own_k4, own_k5, own_k6]
            · refine own_iconst X54 (v := (1 : Int32)) (pc' := 125) at_124 rfl (by decide) ?_
              refine own_goto X54 (pc' := 129) at_125 (by decide) (by decide) ?_
              subst hΦ
              exact own_retZ X54 at_129 (by decide) (by decide) (by decide) rfl trivial
    · refine own_bipush X (v := (31 : Int32)) (pc' := 14) at_12 rfl (by decide) ?_
      refine own_goto X (pc' := 18) at_14 (by decide) (by decide) ?_
      refine own_istore X (pc' := 20) (Ls' := #[.val (.int x0), .val (.int x1), .val (.int x2), .val (.int size), .val (.int mode), .val (.int (2 : Int32)), .val (.int (31 : Int32)), .unset, .unset, .unset]) at_18 rfl rfl ?_
      refine own_iload X (pc' := 22) at_20 rfl rfl ?_
      refine own_iconst X (v := (2 : Int32)) (pc' := 23) at_22 rfl (by decide) ?_
      refine own_iand X (r := (mode &&& (2 : Int32))) (pc' := 24) at_23 rfl rfl ?_
      refine own_if_eq X (pct := 33) (pc' := 27) at_24 rfl (by decide) (by decide) (fun hc24_56 => ?_) (fun hc24_56 => ?_)
      · refine own_iloadN X (pc' := 34) at_33 rfl rfl ?_
        refine own_istore X (pc' := 36) (Ls' := #[.val (.int x0), .val (.int x1), .val (.int x2), .val (.int size), .val (.int mode), .val (.int (2 : Int32)), .val (.int (31 : Int32)), .val (.int x1), .unset, .unset]) at_34 rfl rfl ?_
        refine own_iload X (pc' := 38) at_36 rfl rfl ?_
        refine own_newarr X (len := 2) (vs := [0, 0]) (pc' := 40) (hw _ (List.mem_of_getElem? (i := 0) rfl)) rfl (by decide) (by decide) rfl (by decide) at_38 rfl (by decide) (by decide) ?_
        intro T57 h57 ad57 X57 ge_ad57 g_ad57 E57 A57
        refine own_astore X57 (pc' := 42) (Ls' := #[.val (.int x0), .val (.int x1), .val (.int x2), .val (.int size), .val (.int mode), .val (.int (2 : Int32)), .val (.int (31 : Int32)), .val (.int x1), .val (.ref ad57), .unset]) at_40 rfl rfl rfl ?_
        refine own_iload X57 (pc' := 44) at_42 rfl rfl ?_
        refine own_if_le X57 (pct := 54) (pc' := 47) at_44 rfl (by decide) (by decide) (fun hc => absurd hc (by decide)) (fun _ => ?_)
        refine own_aload X57 (pc' := 49) at_47 rfl rfl rfl ?_
        refine own_iconst X57 (v := (0 : Int32)) (pc' := 50) at_49 rfl (by decide) ?_
        refine own_iload X57 (pc' := 52) at_50 rfl rfl ?_
        refine own_i2b X57 (r := (31 : Int32)) (pc' := 53) at_52 rfl (by decide) ?_
        refine own_bastore X57 (vs' := [(31 : Int32), (0 : Int32)]) (pc' := 54) A57 ge_ad57 rfl (by decide) rfl at_53 rfl ?_
        intro T58 h58 X58 A58 W58
        refine own_iload X58 (pc' := 56) at_54 rfl rfl ?_
        refine own_iconst X58 (v := (1 : Int32)) (pc' := 57) at_56 rfl (by decide) ?_
        refine own_icmp_le X58 (pct := 67) (pc' := 60) at_57 rfl (by decide) (by decide) (fun hc => absurd hc (by decide)) (fun _ => ?_)
        refine own_aload X58 (pc' := 62) at_60 rfl rfl rfl ?_
        refine own_iconst X58 (v := (1 : Int32)) (pc' := 63) at_62 rfl (by decide) ?_
        refine own_iload X58 (pc' := 65) at_63 rfl rfl ?_
        refine own_i2b X58 (r := (x1.toInt8.toInt32)) (pc' := 66) at_65 rfl rfl ?_
        refine own_bastore X58 (vs' := [(31 : Int32), (x1.toInt8.toInt32)]) (pc' := 67) A58 ge_ad57 rfl (own_b8 _) rfl at_66 rfl ?_
        intro T59 h59 X59 A59 W59
        refine own_iload X59 (pc' := 69) at_67 rfl rfl ?_
        refine own_iconst X59 (v := (2 : Int32)) (pc' := 70) at_69 rfl (by decide) ?_
        refine own_icmp_le X59 (pct := 79) (pc' := 73) at_70 rfl (by decide) (by decide) (fun _ => ?_) (fun hc => absurd hc (by decide))
        refine own_iload X59 (pc' := 81) at_79 rfl rfl ?_
        refine own_iconst X59 (v := (2 : Int32)) (pc' := 82) at_81 rfl (by decide) ?_
        refine own_icmp_lt X59 (pct := 111) (pc' := 85) at_82 rfl (by decide) (by decide) (fun hc => absurd hc (by decide)) (fun _ => ?_)
        refine own_iload X59 (pc' := 87) at_85 rfl rfl ?_
        refine own_ldc2 X59 (pc' := 90) (hw _ (List.mem_of_getElem? (i := 5) rfl)) at_87 rfl ?_
        refine own_callS X59 (W := 0) (argsL := [(.int (31 : Int32)), (.long (31 : Int64))]) (rest := []) (S' := [(.int (own_cg (31 : Int32) (31 : Int64)))]) (pc' := 93) (rm2 l Z a0 hw n0 (31 : Int32) (31 : Int64) h59 X59.size) (hw _ (List.mem_of_getElem? (i := 6) rfl)) (hw _ (List.mem_of_getElem? (i := 7) rfl)) (hw _ (List.mem_of_getElem? (i := 8) rfl)) (hw _ (List.mem_of_getElem? (i := 9) rfl)) (by decide) (by decide) (by decide) rfl rfl (by decide) (by decide) (lenOf pd_1 rfl) rfl (by first | decide | exact Nat.le_of_eq rfl) rfl at_90 rfl rfl ?_
        intro T60 h60 X60 qq60
        rw [show h60 = h59 from qq60] at X60
        refine own_if_eq X60 (pct := 111) (pc' := 96) at_93 rfl (by decide) (by decide) (fun hc93_61 => ?_) (fun hc93_61 => ?_)
        · refine own_iconst X60 (v := (0 : Int32)) (pc' := 112) at_111 rfl (by decide) ?_
          refine own_istore X60 (pc' := 114) (Ls' := #[.val (.int x0), .val (.int x1), .val (.int x2), .val (.int size), .val (.int mode), .val (.int (2 : Int32)), .val (.int (31 : Int32)), .val (.int x1), .val (.ref ad57), .val (.int (0 : Int32))]) at_112 rfl rfl ?_
          refine own_aload X60 (pc' := 116) at_114 rfl rfl rfl ?_
          refine own_callS X60 (W := 0) (argsL := [(.ref ad57)]) (rest := []) (S' := [(.int (own_mg (31 : Int32) (x1.toInt8.toInt32)))]) (pc' := 119) (rm1_2 l Z a0 hw n0 ad57 h59 X60.size (31 : Int32) (x1.toInt8.toInt32) A59) (hw _ (List.mem_of_getElem? (i := 1) rfl)) (hw _ (List.mem_of_getElem? (i := 2) rfl)) (hw _ (List.mem_of_getElem? (i := 3) rfl)) (hw _ (List.mem_of_getElem? (i := 4) rfl)) (by decide) (by decide) (by decide) rfl rfl (by decide) (by decide) (lenOf pd_0 rfl) rfl (by first | decide | exact Nat.le_of_eq rfl) rfl at_116 rfl rfl ?_
          intro T62 h62 X62 qq62
          rw [show h62 = h59 from qq62] at X62
          refine own_iload X62 (pc' := 121) at_119 rfl rfl ?_
          refine own_icmp_ne X62 (pct := 128) (pc' := 124) at_121 rfl (by decide) (by decide) (fun hc121_63 => ?_) (fun hc121_63 => ?_)
          · refine own_iconst X62 (v := (0 : Int32)) (pc' := 129) at_128 rfl (by decide) ?_
            subst hΦ
            exfalso
            simp_all [own_mg, own_l31, own_l139, own_k1, own_k2, own_k3, own_k4, own_k5, own_k6]
          · refine own_iconst X62 (v := (1 : Int32)) (pc' := 125) at_124 rfl (by decide) ?_
            refine own_goto X62 (pc' := 129) at_125 (by decide) (by decide) ?_
            subst hΦ
            exact own_retZ X62 at_129 (by decide) (by decide) (by decide) rfl trivial
        · refine own_iload X60 (pc' := 98) at_96 rfl rfl ?_
          refine own_ldc2 X60 (pc' := 101) (hw _ (List.mem_of_getElem? (i := 11) rfl)) at_98 rfl ?_
          refine own_callS X60 (W := 0) (argsL := [(.int x1), (.long (139 : Int64))]) (rest := []) (S' := [(.int (own_cg x1 (139 : Int64)))]) (pc' := 104) (rm2 l Z a0 hw n0 x1 (139 : Int64) h59 X60.size) (hw _ (List.mem_of_getElem? (i := 6) rfl)) (hw _ (List.mem_of_getElem? (i := 7) rfl)) (hw _ (List.mem_of_getElem? (i := 8) rfl)) (hw _ (List.mem_of_getElem? (i := 9) rfl)) (by decide) (by decide) (by decide) rfl rfl (by decide) (by decide) (lenOf pd_1 rfl) rfl (by first | decide | exact Nat.le_of_eq rfl) rfl at_101 rfl rfl ?_
          intro T64 h64 X64 qq64
          rw [show h64 = h59 from qq64] at X64
          refine own_if_eq X64 (pct := 111) (pc' := 107) at_104 rfl (by decide) (by decide) (fun hc104_65 => ?_) (fun hc104_65 => ?_)
          · refine own_iconst X64 (v := (0 : Int32)) (pc' := 112) at_111 rfl (by decide) ?_
            refine own_istore X64 (pc' := 114) (Ls' := #[.val (.int x0), .val (.int x1), .val (.int x2), .val (.int size), .val (.int mode), .val (.int (2 : Int32)), .val (.int (31 : Int32)), .val (.int x1), .val (.ref ad57), .val (.int (0 : Int32))]) at_112 rfl rfl ?_
            refine own_aload X64 (pc' := 116) at_114 rfl rfl rfl ?_
            refine own_callS X64 (W := 0) (argsL := [(.ref ad57)]) (rest := []) (S' := [(.int (own_mg (31 : Int32) (x1.toInt8.toInt32)))]) (pc' := 119) (rm1_2 l Z a0 hw n0 ad57 h59 X64.size (31 : Int32) (x1.toInt8.toInt32) A59) (hw _ (List.mem_of_getElem? (i := 1) rfl)) (hw _ (List.mem_of_getElem? (i := 2) rfl)) (hw _ (List.mem_of_getElem? (i := 3) rfl)) (hw _ (List.mem_of_getElem? (i := 4) rfl)) (by decide) (by decide) (by decide) rfl rfl (by decide) (by decide) (lenOf pd_0 rfl) rfl (by first | decide | exact Nat.le_of_eq rfl) rfl at_116 rfl rfl ?_
            intro T66 h66 X66 qq66
            rw [show h66 = h59 from qq66] at X66
            refine own_iload X66 (pc' := 121) at_119 rfl rfl ?_
            refine own_icmp_ne X66 (pct := 128) (pc' := 124) at_121 rfl (by decide) (by decide) (fun hc121_67 => ?_) (fun hc121_67 => ?_)
            · refine own_iconst X66 (v := (0 : Int32)) (pc' := 129) at_128 rfl (by decide) ?_
              subst hΦ
              exfalso
              simp_all [own_mg, own_l31, own_l139, own_k1, own_k2, own_k3, own_k4, own_k5, own_k6]
            · refine own_iconst X66 (v := (1 : Int32)) (pc' := 125) at_124 rfl (by decide) ?_
              refine own_goto X66 (pc' := 129) at_125 (by decide) (by decide) ?_
              subst hΦ
              exact own_retZ X66 at_129 (by decide) (by decide) (by decide) rfl trivial
          · refine own_iconst X64 (v := (1 : Int32)) (pc' := 108) at_107 rfl (by decide) ?_
            refine own_goto X64 (pc' := 112) at_108 (by decide) (by decide) ?_
            refine own_istore X64 (pc' := 114) (Ls' := #[.val (.int x0), .val (.int x1), .val (.int x2), .val (.int size), .val (.int mode), .val (.int (2 : Int32)), .val (.int (31 : Int32)), .val (.int x1), .val (.ref ad57), .val (.int (1 : Int32))]) at_112 rfl rfl ?_
            refine own_aload X64 (pc' := 116) at_114 rfl rfl rfl ?_
            refine own_callS X64 (W := 0) (argsL := [(.ref ad57)]) (rest := []) (S' := [(.int (own_mg (31 : Int32) (x1.toInt8.toInt32)))]) (pc' := 119) (rm1_2 l Z a0 hw n0 ad57 h59 X64.size (31 : Int32) (x1.toInt8.toInt32) A59) (hw _ (List.mem_of_getElem? (i := 1) rfl)) (hw _ (List.mem_of_getElem? (i := 2) rfl)) (hw _ (List.mem_of_getElem? (i := 3) rfl)) (hw _ (List.mem_of_getElem? (i := 4) rfl)) (by decide) (by decide) (by decide) rfl rfl (by decide) (by decide) (lenOf pd_0 rfl) rfl (by first | decide | exact Nat.le_of_eq rfl) rfl at_116 rfl rfl ?_
            intro T68 h68 X68 qq68
            rw [show h68 = h59 from qq68] at X68
            refine own_iload X68 (pc' := 121) at_119 rfl rfl ?_
            refine own_icmp_ne X68 (pct := 128) (pc' := 124) at_121 rfl (by decide) (by decide) (fun hc121_69 => ?_) (fun hc121_69 => ?_)
            · refine own_iconst X68 (v := (0 : Int32)) (pc' := 129) at_128 rfl (by decide) ?_
              subst hΦ
              exfalso
              simp_all [own_mg, own_l31, own_l139, own_k1, own_k2, own_k3, own_k4, own_k5, own_k6]
            · refine own_iconst X68 (v := (1 : Int32)) (pc' := 125) at_124 rfl (by decide) ?_
              refine own_goto X68 (pc' := 129) at_125 (by decide) (by decide) ?_
              subst hΦ
              exact own_retZ X68 at_129 (by decide) (by decide) (by decide) rfl trivial
      · refine own_sipush X (v := (139 : Int32)) (pc' := 30) at_27 rfl (by decide) ?_
        refine own_goto X (pc' := 34) at_30 (by decide) (by decide) ?_
        refine own_istore X (pc' := 36) (Ls' := #[.val (.int x0), .val (.int x1), .val (.int x2), .val (.int size), .val (.int mode), .val (.int (2 : Int32)), .val (.int (31 : Int32)), .val (.int (139 : Int32)), .unset, .unset]) at_34 rfl rfl ?_
        refine own_iload X (pc' := 38) at_36 rfl rfl ?_
        refine own_newarr X (len := 2) (vs := [0, 0]) (pc' := 40) (hw _ (List.mem_of_getElem? (i := 0) rfl)) rfl (by decide) (by decide) rfl (by decide) at_38 rfl (by decide) (by decide) ?_
        intro T70 h70 ad70 X70 ge_ad70 g_ad70 E70 A70
        refine own_astore X70 (pc' := 42) (Ls' := #[.val (.int x0), .val (.int x1), .val (.int x2), .val (.int size), .val (.int mode), .val (.int (2 : Int32)), .val (.int (31 : Int32)), .val (.int (139 : Int32)), .val (.ref ad70), .unset]) at_40 rfl rfl rfl ?_
        refine own_iload X70 (pc' := 44) at_42 rfl rfl ?_
        refine own_if_le X70 (pct := 54) (pc' := 47) at_44 rfl (by decide) (by decide) (fun hc => absurd hc (by decide)) (fun _ => ?_)
        refine own_aload X70 (pc' := 49) at_47 rfl rfl rfl ?_
        refine own_iconst X70 (v := (0 : Int32)) (pc' := 50) at_49 rfl (by decide) ?_
        refine own_iload X70 (pc' := 52) at_50 rfl rfl ?_
        refine own_i2b X70 (r := (31 : Int32)) (pc' := 53) at_52 rfl (by decide) ?_
        refine own_bastore X70 (vs' := [(31 : Int32), (0 : Int32)]) (pc' := 54) A70 ge_ad70 rfl (by decide) rfl at_53 rfl ?_
        intro T71 h71 X71 A71 W71
        refine own_iload X71 (pc' := 56) at_54 rfl rfl ?_
        refine own_iconst X71 (v := (1 : Int32)) (pc' := 57) at_56 rfl (by decide) ?_
        refine own_icmp_le X71 (pct := 67) (pc' := 60) at_57 rfl (by decide) (by decide) (fun hc => absurd hc (by decide)) (fun _ => ?_)
        refine own_aload X71 (pc' := 62) at_60 rfl rfl rfl ?_
        refine own_iconst X71 (v := (1 : Int32)) (pc' := 63) at_62 rfl (by decide) ?_
        refine own_iload X71 (pc' := 65) at_63 rfl rfl ?_
        refine own_i2b X71 (r := (-117 : Int32)) (pc' := 66) at_65 rfl (by decide) ?_
        refine own_bastore X71 (vs' := [(31 : Int32), (-117 : Int32)]) (pc' := 67) A71 ge_ad70 rfl (by decide) rfl at_66 rfl ?_
        intro T72 h72 X72 A72 W72
        refine own_iload X72 (pc' := 69) at_67 rfl rfl ?_
        refine own_iconst X72 (v := (2 : Int32)) (pc' := 70) at_69 rfl (by decide) ?_
        refine own_icmp_le X72 (pct := 79) (pc' := 73) at_70 rfl (by decide) (by decide) (fun _ => ?_) (fun hc => absurd hc (by decide))
        refine own_iload X72 (pc' := 81) at_79 rfl rfl ?_
        refine own_iconst X72 (v := (2 : Int32)) (pc' := 82) at_81 rfl (by decide) ?_
        refine own_icmp_lt X72 (pct := 111) (pc' := 85) at_82 rfl (by decide) (by decide) (fun hc => absurd hc (by decide)) (fun _ => ?_)
        refine own_iload X72 (pc' := 87) at_85 rfl rfl ?_
        refine own_ldc2 X72 (pc' := 90) (hw _ (List.mem_of_getElem? (i := 5) rfl)) at_87 rfl ?_
        refine own_callS X72 (W := 0) (argsL := [(.int (31 : Int32)), (.long (31 : Int64))]) (rest := []) (S' := [(.int (own_cg (31 : Int32) (31 : Int64)))]) (pc' := 93) (rm2 l Z a0 hw n0 (31 : Int32) (31 : Int64) h72 X72.size) (hw _ (List.mem_of_getElem? (i := 6) rfl)) (hw _ (List.mem_of_getElem? (i := 7) rfl)) (hw _ (List.mem_of_getElem? (i := 8) rfl)) (hw _ (List.mem_of_getElem? (i := 9) rfl)) (by decide) (by decide) (by decide) rfl rfl (by decide) (by decide) (lenOf pd_1 rfl) rfl (by first | decide | exact Nat.le_of_eq rfl) rfl at_90 rfl rfl ?_
        intro T73 h73 X73 qq73
        rw [show h73 = h72 from qq73] at X73
        refine own_if_eq X73 (pct := 111) (pc' := 96) at_93 rfl (by decide) (by decide) (fun hc93_74 => ?_) (fun hc93_74 => ?_)
        · refine own_iconst X73 (v := (0 : Int32)) (pc' := 112) at_111 rfl (by decide) ?_
          refine own_istore X73 (pc' := 114) (Ls' := #[.val (.int x0), .val (.int x1), .val (.int x2), .val (.int size), .val (.int mode), .val (.int (2 : Int32)), .val (.int (31 : Int32)), .val (.int (139 : Int32)), .val (.ref ad70), .val (.int (0 : Int32))]) at_112 rfl rfl ?_
          refine own_aload X73 (pc' := 116) at_114 rfl rfl rfl ?_
          refine own_callS X73 (W := 0) (argsL := [(.ref ad70)]) (rest := []) (S' := [(.int (own_mg (31 : Int32) (-117 : Int32)))]) (pc' := 119) (rm1_2 l Z a0 hw n0 ad70 h72 X73.size (31 : Int32) (-117 : Int32) A72) (hw _ (List.mem_of_getElem? (i := 1) rfl)) (hw _ (List.mem_of_getElem? (i := 2) rfl)) (hw _ (List.mem_of_getElem? (i := 3) rfl)) (hw _ (List.mem_of_getElem? (i := 4) rfl)) (by decide) (by decide) (by decide) rfl rfl (by decide) (by decide) (lenOf pd_0 rfl) rfl (by first | decide | exact Nat.le_of_eq rfl) rfl at_116 rfl rfl ?_
          intro T75 h75 X75 qq75
          rw [show h75 = h72 from qq75] at X75
          refine own_iload X75 (pc' := 121) at_119 rfl rfl ?_
          refine own_icmp_ne X75 (pct := 128) (pc' := 124) at_121 rfl (by decide) (by decide) (fun hc121_76 => ?_) (fun hc121_76 => ?_)
          · refine own_iconst X75 (v := (0 : Int32)) (pc' := 129) at_128 rfl (by decide) ?_
            subst hΦ
            exfalso
            simp_all [own_mg, own_l31, own_l139, own_k1, own_k2, own_k3, own_k4, own_k5, own_k6]
          · refine own_iconst X75 (v := (1 : Int32)) (pc' := 125) at_124 rfl (by decide) ?_
            refine own_goto X75 (pc' := 129) at_125 (by decide) (by decide) ?_
            subst hΦ
            exact own_retZ X75 at_129 (by decide) (by decide) (by decide) rfl trivial
        · refine own_iload X73 (pc' := 98) at_96 rfl rfl ?_
          refine own_ldc2 X73 (pc' := 101) (hw _ (List.mem_of_getElem? (i := 11) rfl)) at_98 rfl ?_
          refine own_callS X73 (W := 0) (argsL := [(.int (139 : Int32)), (.long (139 : Int64))]) (rest := []) (S' := [(.int (own_cg (139 : Int32) (139 : Int64)))]) (pc' := 104) (rm2 l Z a0 hw n0 (139 : Int32) (139 : Int64) h72 X73.size) (hw _ (List.mem_of_getElem? (i := 6) rfl)) (hw _ (List.mem_of_getElem? (i := 7) rfl)) (hw _ (List.mem_of_getElem? (i := 8) rfl)) (hw _ (List.mem_of_getElem? (i := 9) rfl)) (by decide) (by decide) (by decide) rfl rfl (by decide) (by decide) (lenOf pd_1 rfl) rfl (by first | decide | exact Nat.le_of_eq rfl) rfl at_101 rfl rfl ?_
          intro T77 h77 X77 qq77
          rw [show h77 = h72 from qq77] at X77
          refine own_if_eq X77 (pct := 111) (pc' := 107) at_104 rfl (by decide) (by decide) (fun hc104_78 => ?_) (fun hc104_78 => ?_)
          · refine own_iconst X77 (v := (0 : Int32)) (pc' := 112) at_111 rfl (by decide) ?_
            refine own_istore X77 (pc' := 114) (Ls' := #[.val (.int x0), .val (.int x1), .val (.int x2), .val (.int size), .val (.int mode), .val (.int (2 : Int32)), .val (.int (31 : Int32)), .val (.int (139 : Int32)), .val (.ref ad70), .val (.int (0 : Int32))]) at_112 rfl rfl ?_
            refine own_aload X77 (pc' := 116) at_114 rfl rfl rfl ?_
            refine own_callS X77 (W := 0) (argsL := [(.ref ad70)]) (rest := []) (S' := [(.int (own_mg (31 : Int32) (-117 : Int32)))]) (pc' := 119) (rm1_2 l Z a0 hw n0 ad70 h72 X77.size (31 : Int32) (-117 : Int32) A72) (hw _ (List.mem_of_getElem? (i := 1) rfl)) (hw _ (List.mem_of_getElem? (i := 2) rfl)) (hw _ (List.mem_of_getElem? (i := 3) rfl)) (hw _ (List.mem_of_getElem? (i := 4) rfl)) (by decide) (by decide) (by decide) rfl rfl (by decide) (by decide) (lenOf pd_0 rfl) rfl (by first | decide | exact Nat.le_of_eq rfl) rfl at_116 rfl rfl ?_
            intro T79 h79 X79 qq79
            rw [show h79 = h72 from qq79] at X79
            refine own_iload X79 (pc' := 121) at_119 rfl rfl ?_
            refine own_icmp_ne X79 (pct := 128) (pc' := 124) at_121 rfl (by decide) (by decide) (fun hc121_80 => ?_) (fun hc121_80 => ?_)
            · refine own_iconst X79 (v := (0 : Int32)) (pc' := 129) at_128 rfl (by decide) ?_
              subst hΦ
              exfalso
              simp_all [own_mg, own_l31, own_l139, own_k1, own_k2, own_k3, own_k4, own_k5, own_k6]
            · refine own_iconst X79 (v := (1 : Int32)) (pc' := 125) at_124 rfl (by decide) ?_
              refine own_goto X79 (pc' := 129) at_125 (by decide) (by decide) ?_
              subst hΦ
              exact own_retZ X79 at_129 (by decide) (by decide) (by decide) rfl trivial
          · refine own_iconst X77 (v := (1 : Int32)) (pc' := 108) at_107 rfl (by decide) ?_
            refine own_goto X77 (pc' := 112) at_108 (by decide) (by decide) ?_
            refine own_istore X77 (pc' := 114) (Ls' := #[.val (.int x0), .val (.int x1), .val (.int x2), .val (.int size), .val (.int mode), .val (.int (2 : Int32)), .val (.int (31 : Int32)), .val (.int (139 : Int32)), .val (.ref ad70), .val (.int (1 : Int32))]) at_112 rfl rfl ?_
            refine own_aload X77 (pc' := 116) at_114 rfl rfl rfl ?_
            refine own_callS X77 (W := 0) (argsL := [(.ref ad70)]) (rest := []) (S' := [(.int (own_mg (31 : Int32) (-117 : Int32)))]) (pc' := 119) (rm1_2 l Z a0 hw n0 ad70 h72 X77.size (31 : Int32) (-117 : Int32) A72) (hw _ (List.mem_of_getElem? (i := 1) rfl)) (hw _ (List.mem_of_getElem? (i := 2) rfl)) (hw _ (List.mem_of_getElem? (i := 3) rfl)) (hw _ (List.mem_of_getElem? (i := 4) rfl)) (by decide) (by decide) (by decide) rfl rfl (by decide) (by decide) (lenOf pd_0 rfl) rfl (by first | decide | exact Nat.le_of_eq rfl) rfl at_116 rfl rfl ?_
            intro T81 h81 X81 qq81
            rw [show h81 = h72 from qq81] at X81
            refine own_iload X81 (pc' := 121) at_119 rfl rfl ?_
            refine own_icmp_ne X81 (pct := 128) (pc' := 124) at_121 rfl (by decide) (by decide) (fun hc121_82 => ?_) (fun hc121_82 => ?_)
            · refine own_iconst X81 (v := (0 : Int32)) (pc' := 129) at_128 rfl (by decide) ?_
              subst hΦ
              exfalso
              simp_all [own_mg, own_l31, own_l139, own_k1, own_k2, own_k3, own_k4, own_k5, own_k6]
            · refine own_iconst X81 (v := (1 : Int32)) (pc' := 125) at_124 rfl (by decide) ?_
              refine own_goto X81 (pc' := 129) at_125 (by decide) (by decide) ?_
              subst hΦ
              exact own_retZ X81 at_129 (by decide) (by decide) (by decide) rfl trivial
  · refine own_iload X (pc' := 7) at_5 rfl rfl ?_
    refine own_iconst X (v := (1 : Int32)) (pc' := 8) at_7 rfl (by decide) ?_
    refine own_iand X (r := (mode &&& (1 : Int32))) (pc' := 9) at_8 rfl rfl ?_
    refine own_if_eq X (pct := 17) (pc' := 12) at_9 rfl (by decide) (by decide) (fun hc9_83 => ?_) (fun hc9_83 => ?_)
    · refine own_iloadN X (pc' := 18) at_17 rfl rfl ?_
      refine own_istore X (pc' := 20) (Ls' := #[.val (.int x0), .val (.int x1), .val (.int x2), .val (.int size), .val (.int mode), .val (.int (3 : Int32)), .val (.int x0), .unset, .unset, .unset]) at_18 rfl rfl ?_
      refine own_iload X (pc' := 22) at_20 rfl rfl ?_
      refine own_iconst X (v := (2 : Int32)) (pc' := 23) at_22 rfl (by decide) ?_
      refine own_iand X (r := (mode &&& (2 : Int32))) (pc' := 24) at_23 rfl rfl ?_
      refine own_if_eq X (pct := 33) (pc' := 27) at_24 rfl (by decide) (by decide) (fun hc24_84 => ?_) (fun hc24_84 => ?_)
      · refine own_iloadN X (pc' := 34) at_33 rfl rfl ?_
        refine own_istore X (pc' := 36) (Ls' := #[.val (.int x0), .val (.int x1), .val (.int x2), .val (.int size), .val (.int mode), .val (.int (3 : Int32)), .val (.int x0), .val (.int x1), .unset, .unset]) at_34 rfl rfl ?_
        refine own_iload X (pc' := 38) at_36 rfl rfl ?_
        refine own_newarr X (len := 3) (vs := [0, 0, 0]) (pc' := 40) (hw _ (List.mem_of_getElem? (i := 0) rfl)) rfl (by decide) (by decide) rfl (by decide) at_38 rfl (by decide) (by decide) ?_
        intro T85 h85 ad85 X85 ge_ad85 g_ad85 E85 A85
        refine own_astore X85 (pc' := 42) (Ls' := #[.val (.int x0), .val (.int x1), .val (.int x2), .val (.int size), .val (.int mode), .val (.int (3 : Int32)), .val (.int x0), .val (.int x1), .val (.ref ad85), .unset]) at_40 rfl rfl rfl ?_
        refine own_iload X85 (pc' := 44) at_42 rfl rfl ?_
        refine own_if_le X85 (pct := 54) (pc' := 47) at_44 rfl (by decide) (by decide) (fun hc => absurd hc (by decide)) (fun _ => ?_)
        refine own_aload X85 (pc' := 49) at_47 rfl rfl rfl ?_
        refine own_iconst X85 (v := (0 : Int32)) (pc' := 50) at_49 rfl (by decide) ?_
        refine own_iload X85 (pc' := 52) at_50 rfl rfl ?_
        refine own_i2b X85 (r := (x0.toInt8.toInt32)) (pc' := 53) at_52 rfl rfl ?_
        refine own_bastore X85 (vs' := [(x0.toInt8.toInt32), (0 : Int32), (0 : Int32)]) (pc' := 54) A85 ge_ad85 rfl (own_b8 _) rfl at_53 rfl ?_
        intro T86 h86 X86 A86 W86
        refine own_iload X86 (pc' := 56) at_54 rfl rfl ?_
        refine own_iconst X86 (v := (1 : Int32)) (pc' := 57) at_56 rfl (by decide) ?_
        refine own_icmp_le X86 (pct := 67) (pc' := 60) at_57 rfl (by decide) (by decide) (fun hc => absurd hc (by decide)) (fun _ => ?_)
        refine own_aload X86 (pc' := 62) at_60 rfl rfl rfl ?_
        refine own_iconst X86 (v := (1 : Int32)) (pc' := 63) at_62 rfl (by decide) ?_
        refine own_iload X86 (pc' := 65) at_63 rfl rfl ?_
        refine own_i2b X86 (r := (x1.toInt8.toInt32)) (pc' := 66) at_65 rfl rfl ?_
        refine own_bastore X86 (vs' := [(x0.toInt8.toInt32), (x1.toInt8.toInt32), (0 : Int32)]) (pc' := 67) A86 ge_ad85 rfl (own_b8 _) rfl at_66 rfl ?_
        intro T87 h87 X87 A87 W87
        refine own_iload X87 (pc' := 69) at_67 rfl rfl ?_
        refine own_iconst X87 (v := (2 : Int32)) (pc' := 70) at_69 rfl (by decide) ?_
        refine own_icmp_le X87 (pct := 79) (pc' := 73) at_70 rfl (by decide) (by decide) (fun hc => absurd hc (by decide)) (fun _ => ?_)
        refine own_aload X87 (pc' := 75) at_73 rfl rfl rfl ?_
        refine own_iconst X87 (v := (2 : Int32)) (pc' := 76) at_75 rfl (by decide) ?_
        refine own_iloadN X87 (pc' := 77) at_76 rfl rfl ?_
        refine own_i2b X87 (r := (x2.toInt8.toInt32)) (pc' := 78) at_77 rfl rfl ?_
        refine own_bastore X87 (vs' := [(x0.toInt8.toInt32), (x1.toInt8.toInt32), (x2.toInt8.toInt32)]) (pc' := 79) A87 ge_ad85 rfl (own_b8 _) rfl at_78 rfl ?_
        intro T88 h88 X88 A88 W88
        refine own_iload X88 (pc' := 81) at_79 rfl rfl ?_
        refine own_iconst X88 (v := (2 : Int32)) (pc' := 82) at_81 rfl (by decide) ?_
        refine own_icmp_lt X88 (pct := 111) (pc' := 85) at_82 rfl (by decide) (by decide) (fun hc => absurd hc (by decide)) (fun _ => ?_)
        refine own_iload X88 (pc' := 87) at_85 rfl rfl ?_
        refine own_ldc2 X88 (pc' := 90) (hw _ (List.mem_of_getElem? (i := 5) rfl)) at_87 rfl ?_
        refine own_callS X88 (W := 0) (argsL := [(.int x0), (.long (31 : Int64))]) (rest := []) (S' := [(.int (own_cg x0 (31 : Int64)))]) (pc' := 93) (rm2 l Z a0 hw n0 x0 (31 : Int64) h88 X88.size) (hw _ (List.mem_of_getElem? (i := 6) rfl)) (hw _ (List.mem_of_getElem? (i := 7) rfl)) (hw _ (List.mem_of_getElem? (i := 8) rfl)) (hw _ (List.mem_of_getElem? (i := 9) rfl)) (by decide) (by decide) (by decide) rfl rfl (by decide) (by decide) (lenOf pd_1 rfl) rfl (by first | decide | exact Nat.le_of_eq rfl) rfl at_90 rfl rfl ?_
        intro T89 h89 X89 qq89
        rw [show h89 = h88 from qq89] at X89
        refine own_if_eq X89 (pct := 111) (pc' := 96) at_93 rfl (by decide) (by decide) (fun hc93_90 => ?_) (fun hc93_90 => ?_)
        · refine own_iconst X89 (v := (0 : Int32)) (pc' := 112) at_111 rfl (by decide) ?_
          refine own_istore X89 (pc' := 114) (Ls' := #[.val (.int x0), .val (.int x1), .val (.int x2), .val (.int size), .val (.int mode), .val (.int (3 : Int32)), .val (.int x0), .val (.int x1), .val (.ref ad85), .val (.int (0 : Int32))]) at_112 rfl rfl ?_
          refine own_aload X89 (pc' := 116) at_114 rfl rfl rfl ?_
          refine own_callS X89 (W := 0) (argsL := [(.ref ad85)]) (rest := []) (S' := [(.int (own_mg (x0.toInt8.toInt32) (x1.toInt8.toInt32)))]) (pc' := 119) (rm1_3 l Z a0 hw n0 ad85 h88 X89.size (x0.toInt8.toInt32) (x1.toInt8.toInt32) (x2.toInt8.toInt32) A88) (hw _ (List.mem_of_getElem? (i := 1) rfl)) (hw _ (List.mem_of_getElem? (i := 2) rfl)) (hw _ (List.mem_of_getElem? (i := 3) rfl)) (hw _ (List.mem_of_getElem? (i := 4) rfl)) (by decide) (by decide) (by decide) rfl rfl (by decide) (by decide) (lenOf pd_0 rfl) rfl (by first | decide | exact Nat.le_of_eq rfl) rfl at_116 rfl rfl ?_
          intro T91 h91 X91 qq91
          rw [show h91 = h88 from qq91] at X91
          refine own_iload X91 (pc' := 121) at_119 rfl rfl ?_
          refine own_icmp_ne X91 (pct := 128) (pc' := 124) at_121 rfl (by decide) (by decide) (fun hc121_92 => ?_) (fun hc121_92 => ?_)
          · refine own_iconst X91 (v := (0 : Int32)) (pc' := 129) at_128 rfl (by decide) ?_
            subst hΦ
            exfalso
            simp_all [own_mg, own_l31, own_l139, own_k1, own_k2, own_k3, own_k4, own_k5, own_k6]
          · refine own_iconst X91 (v := (1 : Int32)) (pc' := 125) at_124 rfl (by decide) ?_
            refine own_goto X91 (pc' := 129) at_125 (by decide) (by decide) ?_
            subst hΦ
            exact own_retZ X91 at_129 (by decide) (by decide) (by decide) rfl trivial
        · refine own_iload X89 (pc' := 98) at_96 rfl rfl ?_
          refine own_ldc2 X89 (pc' := 101) (hw _ (List.mem_of_getElem? (i := 11) rfl)) at_98 rfl ?_
          refine own_callS X89 (W := 0) (argsL := [(.int x1), (.long (139 : Int64))]) (rest := []) (S' := [(.int (own_cg x1 (139 : Int64)))]) (pc' := 104) (rm2 l Z a0 hw n0 x1 (139 : Int64) h88 X89.size) (hw _ (List.mem_of_getElem? (i := 6) rfl)) (hw _ (List.mem_of_getElem? (i := 7) rfl)) (hw _ (List.mem_of_getElem? (i := 8) rfl)) (hw _ (List.mem_of_getElem? (i := 9) rfl)) (by decide) (by decide) (by decide) rfl rfl (by decide) (by decide) (lenOf pd_1 rfl) rfl (by first | decide | exact Nat.le_of_eq rfl) rfl at_101 rfl rfl ?_
          intro T93 h93 X93 qq93
          rw [show h93 = h88 from qq93] at X93
          refine own_if_eq X93 (pct := 111) (pc' := 107) at_104 rfl (by decide) (by decide) (fun hc104_94 => ?_) (fun hc104_94 => ?_)
          · refine own_iconst X93 (v := (0 : Int32)) (pc' := 112) at_111 rfl (by decide) ?_
            refine own_istore X93 (pc' := 114) (Ls' := #[.val (.int x0), .val (.int x1), .val (.int x2), .val (.int size), .val (.int mode), .val (.int (3 : Int32)), .val (.int x0), .val (.int x1), .val (.ref ad85), .val (.int (0 : Int32))]) at_112 rfl rfl ?_
            refine own_aload X93 (pc' := 116) at_114 rfl rfl rfl ?_
            refine own_callS X93 (W := 0) (argsL := [(.ref ad85)]) (rest := []) (S' := [(.int (own_mg (x0.toInt8.toInt32) (x1.toInt8.toInt32)))]) (pc' := 119) (rm1_3 l Z a0 hw n0 ad85 h88 X93.size (x0.toInt8.toInt32) (x1.toInt8.toInt32) (x2.toInt8.toInt32) A88) (hw _ (List.mem_of_getElem? (i := 1) rfl)) (hw _ (List.mem_of_getElem? (i := 2) rfl)) (hw _ (List.mem_of_getElem? (i := 3) rfl)) (hw _ (List.mem_of_getElem? (i := 4) rfl)) (by decide) (by decide) (by decide) rfl rfl (by decide) (by decide) (lenOf pd_0 rfl) rfl (by first | decide | exact Nat.le_of_eq rfl) rfl at_116 rfl rfl ?_
            intro T95 h95 X95 qq95
            rw [show h95 = h88 from qq95] at X95
            refine own_iload X95 (pc' := 121) at_119 rfl rfl ?_
            refine own_icmp_ne X95 (pct := 128) (pc' := 124) at_121 rfl (by decide) (by decide) (fun hc121_96 => ?_) (fun hc121_96 => ?_)
            · refine own_iconst X95 (v := (0 : Int32)) (pc' := 129) at_128 rfl (by decide) ?_
              subst hΦ
              exfalso
              simp_all [own_mg, own_l31, own_l139, own_k1, own_k2, own_k3, own_k4, own_k5, own_k6]
            · refine own_iconst X95 (v := (1 : Int32)) (pc' := 125) at_124 rfl (by decide) ?_
              refine own_goto X95 (pc' := 129) at_125 (by decide) (by decide) ?_
              subst hΦ
              exact own_retZ X95 at_129 (by decide) (by decide) (by decide) rfl trivial
          · refine own_iconst X93 (v := (1 : Int32)) (pc' := 108) at_107 rfl (by decide) ?_
            refine own_goto X93 (pc' := 112) at_108 (by decide) (by decide) ?_
            refine own_istore X93 (pc' := 114) (Ls' := #[.val (.int x0), .val (.int x1), .val (.int x2), .val (.int size), .val (.int mode), .val (.int (3 : Int32)), .val (.int x0), .val (.int x1), .val (.ref ad85), .val (.int (1 : Int32))]) at_112 rfl rfl ?_
            refine own_aload X93 (pc' := 116) at_114 rfl rfl rfl ?_
            refine own_callS X93 (W := 0) (argsL := [(.ref ad85)]) (rest := []) (S' := [(.int (own_mg (x0.toInt8.toInt32) (x1.toInt8.toInt32)))]) (pc' := 119) (rm1_3 l Z a0 hw n0 ad85 h88 X93.size (x0.toInt8.toInt32) (x1.toInt8.toInt32) (x2.toInt8.toInt32) A88) (hw _ (List.mem_of_getElem? (i := 1) rfl)) (hw _ (List.mem_of_getElem? (i := 2) rfl)) (hw _ (List.mem_of_getElem? (i := 3) rfl)) (hw _ (List.mem_of_getElem? (i := 4) rfl)) (by decide) (by decide) (by decide) rfl rfl (by decide) (by decide) (lenOf pd_0 rfl) rfl (by first | decide | exact Nat.le_of_eq rfl) rfl at_116 rfl rfl ?_
            intro T97 h97 X97 qq97
            rw [show h97 = h88 from qq97] at X97
            refine own_iload X97 (pc' := 121) at_119 rfl rfl ?_
            refine own_icmp_ne X97 (pct := 128) (pc' := 124) at_121 rfl (by decide) (by decide) (fun hc121_98 => ?_) (fun hc121_98 => ?_)
            · refine own_iconst X97 (v := (0 : Int32)) (pc' := 129) at_128 rfl (by decide) ?_
              subst hΦ
              exfalso
              simp_all [own_mg, own_l31, own_l139, own_k1, own_k2, own_k3, own_k4, own_k5, own_k6]
            · refine own_iconst X97 (v := (1 : Int32)) (pc' := 125) at_124 rfl (by decide) ?_
              refine own_goto X97 (pc' := 129) at_125 (by decide) (by decide) ?_
              subst hΦ
              exact own_retZ X97 at_129 (by decide) (by decide) (by decide) rfl trivial
      · refine own_sipush X (v := (139 : Int32)) (pc' := 30) at_27 rfl (by decide) ?_
        refine own_goto X (pc' := 34) at_30 (by decide) (by decide) ?_
        refine own_istore X (pc' := 36) (Ls' := #[.val (.int x0), .val (.int x1), .val (.int x2), .val (.int size), .val (.int mode), .val (.int (3 : Int32)), .val (.int x0), .val (.int (139 : Int32)), .unset, .unset]) at_34 rfl rfl ?_
        refine own_iload X (pc' := 38) at_36 rfl rfl ?_
        refine own_newarr X (len := 3) (vs := [0, 0, 0]) (pc' := 40) (hw _ (List.mem_of_getElem? (i := 0) rfl)) rfl (by decide) (by decide) rfl (by decide) at_38 rfl (by decide) (by decide) ?_
        intro T99 h99 ad99 X99 ge_ad99 g_ad99 E99 A99
        refine own_astore X99 (pc' := 42) (Ls' := #[.val (.int x0), .val (.int x1), .val (.int x2), .val (.int size), .val (.int mode), .val (.int (3 : Int32)), .val (.int x0), .val (.int (139 : Int32)), .val (.ref ad99), .unset]) at_40 rfl rfl rfl ?_
        refine own_iload X99 (pc' := 44) at_42 rfl rfl ?_
        refine own_if_le X99 (pct := 54) (pc' := 47) at_44 rfl (by decide) (by decide) (fun hc => absurd hc (by decide)) (fun _ => ?_)
        refine own_aload X99 (pc' := 49) at_47 rfl rfl rfl ?_
        refine own_iconst X99 (v := (0 : Int32)) (pc' := 50) at_49 rfl (by decide) ?_
        refine own_iload X99 (pc' := 52) at_50 rfl rfl ?_
        refine own_i2b X99 (r := (x0.toInt8.toInt32)) (pc' := 53) at_52 rfl rfl ?_
        refine own_bastore X99 (vs' := [(x0.toInt8.toInt32), (0 : Int32), (0 : Int32)]) (pc' := 54) A99 ge_ad99 rfl (own_b8 _) rfl at_53 rfl ?_
        intro T100 h100 X100 A100 W100
        refine own_iload X100 (pc' := 56) at_54 rfl rfl ?_
        refine own_iconst X100 (v := (1 : Int32)) (pc' := 57) at_56 rfl (by decide) ?_
        refine own_icmp_le X100 (pct := 67) (pc' := 60) at_57 rfl (by decide) (by decide) (fun hc => absurd hc (by decide)) (fun _ => ?_)
        refine own_aload X100 (pc' := 62) at_60 rfl rfl rfl ?_
        refine own_iconst X100 (v := (1 : Int32)) (pc' := 63) at_62 rfl (by decide) ?_
        refine own_iload X100 (pc' := 65) at_63 rfl rfl ?_
        refine own_i2b X100 (r := (-117 : Int32)) (pc' := 66) at_65 rfl (by decide) ?_
        refine own_bastore X100 (vs' := [(x0.toInt8.toInt32), (-117 : Int32), (0 : Int32)]) (pc' := 67) A100 ge_ad99 rfl (by decide) rfl at_66 rfl ?_
        intro T101 h101 X101 A101 W101
        refine own_iload X101 (pc' := 69) at_67 rfl rfl ?_
        refine own_iconst X101 (v := (2 : Int32)) (pc' := 70) at_69 rfl (by decide) ?_
        refine own_icmp_le X101 (pct := 79) (pc' := 73) at_70 rfl (by decide) (by decide) (fun hc => absurd hc (by decide)) (fun _ => ?_)
        refine own_aload X101 (pc' := 75) at_73 rfl rfl rfl ?_
        refine own_iconst X101 (v := (2 : Int32)) (pc' := 76) at_75 rfl (by decide) ?_
        refine own_iloadN X101 (pc' := 77) at_76 rfl rfl ?_
        refine own_i2b X101 (r := (x2.toInt8.toInt32)) (pc' := 78) at_77 rfl rfl ?_
        refine own_bastore X101 (vs' := [(x0.toInt8.toInt32), (-117 : Int32), (x2.toInt8.toInt32)]) (pc' := 79) A101 ge_ad99 rfl (own_b8 _) rfl at_78 rfl ?_
        intro T102 h102 X102 A102 W102
        refine own_iload X102 (pc' := 81) at_79 rfl rfl ?_
        refine own_iconst X102 (v := (2 : Int32)) (pc' := 82) at_81 rfl (by decide) ?_
        refine own_icmp_lt X102 (pct := 111) (pc' := 85) at_82 rfl (by decide) (by decide) (fun hc => absurd hc (by decide)) (fun _ => ?_)
        refine own_iload X102 (pc' := 87) at_85 rfl rfl ?_
        refine own_ldc2 X102 (pc' := 90) (hw _ (List.mem_of_getElem? (i := 5) rfl)) at_87 rfl ?_
        refine own_callS X102 (W := 0) (argsL := [(.int x0), (.long (31 : Int64))]) (rest := []) (S' := [(.int (own_cg x0 (31 : Int64)))]) (pc' := 93) (rm2 l Z a0 hw n0 x0 (31 : Int64) h102 X102.size) (hw _ (List.mem_of_getElem? (i := 6) rfl)) (hw _ (List.mem_of_getElem? (i := 7) rfl)) (hw _ (List.mem_of_getElem? (i := 8) rfl)) (hw _ (List.mem_of_getElem? (i := 9) rfl)) (by decide) (by decide) (by decide) rfl rfl (by decide) (by decide) (lenOf pd_1 rfl) rfl (by first | decide | exact Nat.le_of_eq rfl) rfl at_90 rfl rfl ?_
        intro T103 h103 X103 qq103
        rw [show h103 = h102 from qq103] at X103
        refine own_if_eq X103 (pct := 111) (pc' := 96) at_93 rfl (by decide) (by decide) (fun hc93_104 => ?_) (fun hc93_104 => ?_)
        · refine own_iconst X103 (v := (0 : Int32)) (pc' := 112) at_111 rfl (by decide) ?_
          refine own_istore X103 (pc' := 114) (Ls' := #[.val (.int x0), .val (.int x1), .val (.int x2), .val (.int size), .val (.int mode), .val (.int (3 : Int32)), .val (.int x0), .val (.int (139 : Int32)), .val (.ref ad99), .val (.int (0 : Int32))]) at_112 rfl rfl ?_
          refine own_aload X103 (pc' := 116) at_114 rfl rfl rfl ?_
          refine own_callS X103 (W := 0) (argsL := [(.ref ad99)]) (rest := []) (S' := [(.int (own_mg (x0.toInt8.toInt32) (-117 : Int32)))]) (pc' := 119) (rm1_3 l Z a0 hw n0 ad99 h102 X103.size (x0.toInt8.toInt32) (-117 : Int32) (x2.toInt8.toInt32) A102) (hw _ (List.mem_of_getElem? (i := 1) rfl)) (hw _ (List.mem_of_getElem? (i := 2) rfl)) (hw _ (List.mem_of_getElem? (i := 3) rfl)) (hw _ (List.mem_of_getElem? (i := 4) rfl)) (by decide) (by decide) (by decide) rfl rfl (by decide) (by decide) (lenOf pd_0 rfl) rfl (by first | decide | exact Nat.le_of_eq rfl) rfl at_116 rfl rfl ?_
          intro T105 h105 X105 qq105
          rw [show h105 = h102 from qq105] at X105
          refine own_iload X105 (pc' := 121) at_119 rfl rfl ?_
          refine own_icmp_ne X105 (pct := 128) (pc' := 124) at_121 rfl (by decide) (by decide) (fun hc121_106 => ?_) (fun hc121_106 => ?_)
          · refine own_iconst X105 (v := (0 : Int32)) (pc' := 129) at_128 rfl (by decide) ?_
            subst hΦ
            exfalso
            simp_all [own_mg, own_l31, own_l139, own_k1, own_k2, own_k3, own_k4, own_k5, own_k6]
          · refine own_iconst X105 (v := (1 : Int32)) (pc' := 125) at_124 rfl (by decide) ?_
            refine own_goto X105 (pc' := 129) at_125 (by decide) (by decide) ?_
            subst hΦ
            exact own_retZ X105 at_129 (by decide) (by decide) (by decide) rfl trivial
        · refine own_iload X103 (pc' := 98) at_96 rfl rfl ?_
          refine own_ldc2 X103 (pc' := 101) (hw _ (List.mem_of_getElem? (i := 11) rfl)) at_98 rfl ?_
          refine own_callS X103 (W := 0) (argsL := [(.int (139 : Int32)), (.long (139 : Int64))]) (rest := []) (S' := [(.int (own_cg (139 : Int32) (139 : Int64)))]) (pc' := 104) (rm2 l Z a0 hw n0 (139 : Int32) (139 : Int64) h102 X103.size) (hw _ (List.mem_of_getElem? (i := 6) rfl)) (hw _ (List.mem_of_getElem? (i := 7) rfl)) (hw _ (List.mem_of_getElem? (i := 8) rfl)) (hw _ (List.mem_of_getElem? (i := 9) rfl)) (by decide) (by decide) (by decide) rfl rfl (by decide) (by decide) (lenOf pd_1 rfl) rfl (by first | decide | exact Nat.le_of_eq rfl) rfl at_101 rfl rfl ?_
          intro T107 h107 X107 qq107
          rw [show h107 = h102 from qq107] at X107
          refine own_if_eq X107 (pct := 111) (pc' := 107) at_104 rfl (by decide) (by decide) (fun hc104_108 => ?_) (fun hc104_108 => ?_)
          · refine own_iconst X107 (v := (0 : Int32)) (pc' := 112) at_111 rfl (by decide) ?_
            refine own_istore X107 (pc' := 114) (Ls' := #[.val (.int x0), .val (.int x1), .val (.int x2), .val (.int size), .val (.int mode), .val (.int (3 : Int32)), .val (.int x0), .val (.int (139 : Int32)), .val (.ref ad99), .val (.int (0 : Int32))]) at_112 rfl rfl ?_
            refine own_aload X107 (pc' := 116) at_114 rfl rfl rfl ?_
            refine own_callS X107 (W := 0) (argsL := [(.ref ad99)]) (rest := []) (S' := [(.int (own_mg (x0.toInt8.toInt32) (-117 : Int32)))]) (pc' := 119) (rm1_3 l Z a0 hw n0 ad99 h102 X107.size (x0.toInt8.toInt32) (-117 : Int32) (x2.toInt8.toInt32) A102) (hw _ (List.mem_of_getElem? (i := 1) rfl)) (hw _ (List.mem_of_getElem? (i := 2) rfl)) (hw _ (List.mem_of_getElem? (i := 3) rfl)) (hw _ (List.mem_of_getElem? (i := 4) rfl)) (by decide) (by decide) (by decide) rfl rfl (by decide) (by decide) (lenOf pd_0 rfl) rfl (by first | decide | exact Nat.le_of_eq rfl) rfl at_116 rfl rfl ?_
            intro T109 h109 X109 qq109
            rw [show h109 = h102 from qq109] at X109
            refine own_iload X109 (pc' := 121) at_119 rfl rfl ?_
            refine own_icmp_ne X109 (pct := 128) (pc' := 124) at_121 rfl (by decide) (by decide) (fun hc121_110 => ?_) (fun hc121_110 => ?_)
            · refine own_iconst X109 (v := (0 : Int32)) (pc' := 129) at_128 rfl (by decide) ?_
              subst hΦ
              exfalso
              simp_all [own_mg, own_l31, own_l139, own_k1, own_k2, own_k3, own_k4, own_k5, own_k6]
            · refine own_iconst X109 (v := (1 : Int32)) (pc' := 125) at_124 rfl (by decide) ?_
              refine own_goto X109 (pc' := 129) at_125 (by decide) (by decide) ?_
              subst hΦ
              exact own_retZ X109 at_129 (by decide) (by decide) (by decide) rfl trivial
          · refine own_iconst X107 (v := (1 : Int32)) (pc' := 108) at_107 rfl (by decide) ?_
            refine own_goto X107 (pc' := 112) at_108 (by decide) (by decide) ?_
            refine own_istore X107 (pc' := 114) (Ls' := #[.val (.int x0), .val (.int x1), .val (.int x2), .val (.int size), .val (.int mode), .val (.int (3 : Int32)), .val (.int x0), .val (.int (139 : Int32)), .val (.ref ad99), .val (.int (1 : Int32))]) at_112 rfl rfl ?_
            refine own_aload X107 (pc' := 116) at_114 rfl rfl rfl ?_
            refine own_callS X107 (W := 0) (argsL := [(.ref ad99)]) (rest := []) (S' := [(.int (own_mg (x0.toInt8.toInt32) (-117 : Int32)))]) (pc' := 119) (rm1_3 l Z a0 hw n0 ad99 h102 X107.size (x0.toInt8.toInt32) (-117 : Int32) (x2.toInt8.toInt32) A102) (hw _ (List.mem_of_getElem? (i := 1) rfl)) (hw _ (List.mem_of_getElem? (i := 2) rfl)) (hw _ (List.mem_of_getElem? (i := 3) rfl)) (hw _ (List.mem_of_getElem? (i := 4) rfl)) (by decide) (by decide) (by decide) rfl rfl (by decide) (by decide) (lenOf pd_0 rfl) rfl (by first | decide | exact Nat.le_of_eq rfl) rfl at_116 rfl rfl ?_
            intro T111 h111 X111 qq111
            rw [show h111 = h102 from qq111] at X111
            refine own_iload X111 (pc' := 121) at_119 rfl rfl ?_
            refine own_icmp_ne X111 (pct := 128) (pc' := 124) at_121 rfl (by decide) (by decide) (fun hc121_112 => ?_) (fun hc121_112 => ?_)
            · refine own_iconst X111 (v := (0 : Int32)) (pc' := 129) at_128 rfl (by decide) ?_
              subst hΦ
              exfalso
              simp_all [own_mg, own_l31, own_l139, own_k1, own_k2, own_k3, own_k4, own_k5, own_k6]
            · refine own_iconst X111 (v := (1 : Int32)) (pc' := 125) at_124 rfl (by decide) ?_
              refine own_goto X111 (pc' := 129) at_125 (by decide) (by decide) ?_
              subst hΦ
              exact own_retZ X111 at_129 (by decide) (by decide) (by decide) rfl trivial
    · refine own_bipush X (v := (31 : Int32)) (pc' := 14) at_12 rfl (by decide) ?_
      refine own_goto X (pc' := 18) at_14 (by decide) (by decide) ?_
      refine own_istore X (pc' := 20) (Ls' := #[.val (.int x0), .val (.int x1), .val (.int x2), .val (.int size), .val (.int mode), .val (.int (3 : Int32)), .val (.int (31 : Int32)), .unset, .unset, .unset]) at_18 rfl rfl ?_
      refine own_iload X (pc' := 22) at_20 rfl rfl ?_
      refine own_iconst X (v := (2 : Int32)) (pc' := 23) at_22 rfl (by decide) ?_
      refine own_iand X (r := (mode &&& (2 : Int32))) (pc' := 24) at_23 rfl rfl ?_
      refine own_if_eq X (pct := 33) (pc' := 27) at_24 rfl (by decide) (by decide) (fun hc24_113 => ?_) (fun hc24_113 => ?_)
      · refine own_iloadN X (pc' := 34) at_33 rfl rfl ?_
        refine own_istore X (pc' := 36) (Ls' := #[.val (.int x0), .val (.int x1), .val (.int x2), .val (.int size), .val (.int mode), .val (.int (3 : Int32)), .val (.int (31 : Int32)), .val (.int x1), .unset, .unset]) at_34 rfl rfl ?_
        refine own_iload X (pc' := 38) at_36 rfl rfl ?_
        refine own_newarr X (len := 3) (vs := [0, 0, 0]) (pc' := 40) (hw _ (List.mem_of_getElem? (i := 0) rfl)) rfl (by decide) (by decide) rfl (by decide) at_38 rfl (by decide) (by decide) ?_
        intro T114 h114 ad114 X114 ge_ad114 g_ad114 E114 A114
        refine own_astore X114 (pc' := 42) (Ls' := #[.val (.int x0), .val (.int x1), .val (.int x2), .val (.int size), .val (.int mode), .val (.int (3 : Int32)), .val (.int (31 : Int32)), .val (.int x1), .val (.ref ad114), .unset]) at_40 rfl rfl rfl ?_
        refine own_iload X114 (pc' := 44) at_42 rfl rfl ?_
        refine own_if_le X114 (pct := 54) (pc' := 47) at_44 rfl (by decide) (by decide) (fun hc => absurd hc (by decide)) (fun _ => ?_)
        refine own_aload X114 (pc' := 49) at_47 rfl rfl rfl ?_
        refine own_iconst X114 (v := (0 : Int32)) (pc' := 50) at_49 rfl (by decide) ?_
        refine own_iload X114 (pc' := 52) at_50 rfl rfl ?_
        refine own_i2b X114 (r := (31 : Int32)) (pc' := 53) at_52 rfl (by decide) ?_
        refine own_bastore X114 (vs' := [(31 : Int32), (0 : Int32), (0 : Int32)]) (pc' := 54) A114 ge_ad114 rfl (by decide) rfl at_53 rfl ?_
        intro T115 h115 X115 A115 W115
        refine own_iload X115 (pc' := 56) at_54 rfl rfl ?_
        refine own_iconst X115 (v := (1 : Int32)) (pc' := 57) at_56 rfl (by decide) ?_
        refine own_icmp_le X115 (pct := 67) (pc' := 60) at_57 rfl (by decide) (by decide) (fun hc => absurd hc (by decide)) (fun _ => ?_)
        refine own_aload X115 (pc' := 62) at_60 rfl rfl rfl ?_
        refine own_iconst X115 (v := (1 : Int32)) (pc' := 63) at_62 rfl (by decide) ?_
        refine own_iload X115 (pc' := 65) at_63 rfl rfl ?_
        refine own_i2b X115 (r := (x1.toInt8.toInt32)) (pc' := 66) at_65 rfl rfl ?_
        refine own_bastore X115 (vs' := [(31 : Int32), (x1.toInt8.toInt32), (0 : Int32)]) (pc' := 67) A115 ge_ad114 rfl (own_b8 _) rfl at_66 rfl ?_
        intro T116 h116 X116 A116 W116
        refine own_iload X116 (pc' := 69) at_67 rfl rfl ?_
        refine own_iconst X116 (v := (2 : Int32)) (pc' := 70) at_69 rfl (by decide) ?_
        refine own_icmp_le X116 (pct := 79) (pc' := 73) at_70 rfl (by decide) (by decide) (fun hc => absurd hc (by decide)) (fun _ => ?_)
        refine own_aload X116 (pc' := 75) at_73 rfl rfl rfl ?_
        refine own_iconst X116 (v := (2 : Int32)) (pc' := 76) at_75 rfl (by decide) ?_
        refine own_iloadN X116 (pc' := 77) at_76 rfl rfl ?_
        refine own_i2b X116 (r := (x2.toInt8.toInt32)) (pc' := 78) at_77 rfl rfl ?_
        refine own_bastore X116 (vs' := [(31 : Int32), (x1.toInt8.toInt32), (x2.toInt8.toInt32)]) (pc' := 79) A116 ge_ad114 rfl (own_b8 _) rfl at_78 rfl ?_
        intro T117 h117 X117 A117 W117
        refine own_iload X117 (pc' := 81) at_79 rfl rfl ?_
        refine own_iconst X117 (v := (2 : Int32)) (pc' := 82) at_81 rfl (by decide) ?_
        refine own_icmp_lt X117 (pct := 111) (pc' := 85) at_82 rfl (by decide) (by decide) (fun hc => absurd hc (by decide)) (fun _ => ?_)
        refine own_iload X117 (pc' := 87) at_85 rfl rfl ?_
        refine own_ldc2 X117 (pc' := 90) (hw _ (List.mem_of_getElem? (i := 5) rfl)) at_87 rfl ?_
        refine own_callS X117 (W := 0) (argsL := [(.int (31 : Int32)), (.long (31 : Int64))]) (rest := []) (S' := [(.int (own_cg (31 : Int32) (31 : Int64)))]) (pc' := 93) (rm2 l Z a0 hw n0 (31 : Int32) (31 : Int64) h117 X117.size) (hw _ (List.mem_of_getElem? (i := 6) rfl)) (hw _ (List.mem_of_getElem? (i := 7) rfl)) (hw _ (List.mem_of_getElem? (i := 8) rfl)) (hw _ (List.mem_of_getElem? (i := 9) rfl)) (by decide) (by decide) (by decide) rfl rfl (by decide) (by decide) (lenOf pd_1 rfl) rfl (by first | decide | exact Nat.le_of_eq rfl) rfl at_90 rfl rfl ?_
        intro T118 h118 X118 qq118
        rw [show h118 = h117 from qq118] at X118
        refine own_if_eq X118 (pct := 111) (pc' := 96) at_93 rfl (by decide) (by decide) (fun hc93_119 => ?_) (fun hc93_119 => ?_)
        · refine own_iconst X118 (v := (0 : Int32)) (pc' := 112) at_111 rfl (by decide) ?_
          refine own_istore X118 (pc' := 114) (Ls' := #[.val (.int x0), .val (.int x1), .val (.int x2), .val (.int size), .val (.int mode), .val (.int (3 : Int32)), .val (.int (31 : Int32)), .val (.int x1), .val (.ref ad114), .val (.int (0 : Int32))]) at_112 rfl rfl ?_
          refine own_aload X118 (pc' := 116) at_114 rfl rfl rfl ?_
          refine own_callS X118 (W := 0) (argsL := [(.ref ad114)]) (rest := []) (S' := [(.int (own_mg (31 : Int32) (x1.toInt8.toInt32)))]) (pc' := 119) (rm1_3 l Z a0 hw n0 ad114 h117 X118.size (31 : Int32) (x1.toInt8.toInt32) (x2.toInt8.toInt32) A117) (hw _ (List.mem_of_getElem? (i := 1) rfl)) (hw _ (List.mem_of_getElem? (i := 2) rfl)) (hw _ (List.mem_of_getElem? (i := 3) rfl)) (hw _ (List.mem_of_getElem? (i := 4) rfl)) (by decide) (by decide) (by decide) rfl rfl (by decide) (by decide) (lenOf pd_0 rfl) rfl (by first | decide | exact Nat.le_of_eq rfl) rfl at_116 rfl rfl ?_
          intro T120 h120 X120 qq120
          rw [show h120 = h117 from qq120] at X120
          refine own_iload X120 (pc' := 121) at_119 rfl rfl ?_
          refine own_icmp_ne X120 (pct := 128) (pc' := 124) at_121 rfl (by decide) (by decide) (fun hc121_121 => ?_) (fun hc121_121 => ?_)
          · refine own_iconst X120 (v := (0 : Int32)) (pc' := 129) at_128 rfl (by decide) ?_
            subst hΦ
            exfalso
            simp_all [own_mg, own_l31, own_l139, own_k1, own_k2, own_k3, own_k4, own_k5, own_k6]
          · refine own_iconst X120 (v := (1 : Int32)) (pc' := 125) at_124 rfl (by decide) ?_
            refine own_goto X120 (pc' := 129) at_125 (by decide) (by decide) ?_
            subst hΦ
            exact own_retZ X120 at_129 (by decide) (by decide) (by decide) rfl trivial
        · refine own_iload X118 (pc' := 98) at_96 rfl rfl ?_
          refine own_ldc2 X118 (pc' := 101) (hw _ (List.mem_of_getElem? (i := 11) rfl)) at_98 rfl ?_
          refine own_callS X118 (W := 0) (argsL := [(.int x1), (.long (139 : Int64))]) (rest := []) (S' := [(.int (own_cg x1 (139 : Int64)))]) (pc' := 104) (rm2 l Z a0 hw n0 x1 (139 : Int64) h117 X118.size) (hw _ (List.mem_of_getElem? (i := 6) rfl)) (hw _ (List.mem_of_getElem? (i := 7) rfl)) (hw _ (List.mem_of_getElem? (i := 8) rfl)) (hw _ (List.mem_of_getElem? (i := 9) rfl)) (by decide) (by decide) (by decide) rfl rfl (by decide) (by decide) (lenOf pd_1 rfl) rfl (by first | decide | exact Nat.le_of_eq rfl) rfl at_101 rfl rfl ?_
          intro T122 h122 X122 qq122
          rw [show h122 = h117 from qq122] at X122
          refine own_if_eq X122 (pct := 111) (pc' := 107) at_104 rfl (by decide) (by decide) (fun hc104_123 => ?_) (fun hc104_123 => ?_)
          · refine own_iconst X122 (v := (0 : Int32)) (pc' := 112) at_111 rfl (by decide) ?_
            refine own_istore X122 (pc' := 114) (Ls' := #[.val (.int x0), .val (.int x1), .val (.int x2), .val (.int size), .val (.int mode), .val (.int (3 : Int32)), .val (.int (31 : Int32)), .val (.int x1), .val (.ref ad114), .val (.int (0 : Int32))]) at_112 rfl rfl ?_
            refine own_aload X122 (pc' := 116) at_114 rfl rfl rfl ?_
            refine own_callS X122 (W := 0) (argsL := [(.ref ad114)]) (rest := []) (S' := [(.int (own_mg (31 : Int32) (x1.toInt8.toInt32)))]) (pc' := 119) (rm1_3 l Z a0 hw n0 ad114 h117 X122.size (31 : Int32) (x1.toInt8.toInt32) (x2.toInt8.toInt32) A117) (hw _ (List.mem_of_getElem? (i := 1) rfl)) (hw _ (List.mem_of_getElem? (i := 2) rfl)) (hw _ (List.mem_of_getElem? (i := 3) rfl)) (hw _ (List.mem_of_getElem? (i := 4) rfl)) (by decide) (by decide) (by decide) rfl rfl (by decide) (by decide) (lenOf pd_0 rfl) rfl (by first | decide | exact Nat.le_of_eq rfl) rfl at_116 rfl rfl ?_
            intro T124 h124 X124 qq124
            rw [show h124 = h117 from qq124] at X124
            refine own_iload X124 (pc' := 121) at_119 rfl rfl ?_
            refine own_icmp_ne X124 (pct := 128) (pc' := 124) at_121 rfl (by decide) (by decide) (fun hc121_125 => ?_) (fun hc121_125 => ?_)
            · refine own_iconst X124 (v := (0 : Int32)) (pc' := 129) at_128 rfl (by decide) ?_
              subst hΦ
              exfalso
              simp_all [own_mg, own_l31, own_l139, own_k1, own_k2, own_k3, own_k4, own_k5, own_k6]
            · refine own_iconst X124 (v := (1 : Int32)) (pc' := 125) at_124 rfl (by decide) ?_
              refine own_goto X124 (pc' := 129) at_125 (by decide) (by decide) ?_
              subst hΦ
              exact own_retZ X124 at_129 (by decide) (by decide) (by decide) rfl trivial
          · refine own_iconst X122 (v := (1 : Int32)) (pc' := 108) at_107 rfl (by decide) ?_
            refine own_goto X122 (pc' := 112) at_108 (by decide) (by decide) ?_
            refine own_istore X122 (pc' := 114) (Ls' := #[.val (.int x0), .val (.int x1), .val (.int x2), .val (.int size), .val (.int mode), .val (.int (3 : Int32)), .val (.int (31 : Int32)), .val (.int x1), .val (.ref ad114), .val (.int (1 : Int32))]) at_112 rfl rfl ?_
            refine own_aload X122 (pc' := 116) at_114 rfl rfl rfl ?_
            refine own_callS X122 (W := 0) (argsL := [(.ref ad114)]) (rest := []) (S' := [(.int (own_mg (31 : Int32) (x1.toInt8.toInt32)))]) (pc' := 119) (rm1_3 l Z a0 hw n0 ad114 h117 X122.size (31 : Int32) (x1.toInt8.toInt32) (x2.toInt8.toInt32) A117) (hw _ (List.mem_of_getElem? (i := 1) rfl)) (hw _ (List.mem_of_getElem? (i := 2) rfl)) (hw _ (List.mem_of_getElem? (i := 3) rfl)) (hw _ (List.mem_of_getElem? (i := 4) rfl)) (by decide) (by decide) (by decide) rfl rfl (by decide) (by decide) (lenOf pd_0 rfl) rfl (by first | decide | exact Nat.le_of_eq rfl) rfl at_116 rfl rfl ?_
            intro T126 h126 X126 qq126
            rw [show h126 = h117 from qq126] at X126
            refine own_iload X126 (pc' := 121) at_119 rfl rfl ?_
            refine own_icmp_ne X126 (pct := 128) (pc' := 124) at_121 rfl (by decide) (by decide) (fun hc121_127 => ?_) (fun hc121_127 => ?_)
            · refine own_iconst X126 (v := (0 : Int32)) (pc' := 129) at_128 rfl (by decide) ?_
              subst hΦ
              exfalso
              simp_all [own_mg, own_l31, own_l139, own_k1, own_k2, own_k3, own_k4, own_k5, own_k6]
            · refine own_iconst X126 (v := (1 : Int32)) (pc' := 125) at_124 rfl (by decide) ?_
              refine own_goto X126 (pc' := 129) at_125 (by decide) (by decide) ?_
              subst hΦ
              exact own_retZ X126 at_129 (by decide) (by decide) (by decide) rfl trivial
      · refine own_sipush X (v := (139 : Int32)) (pc' := 30) at_27 rfl (by decide) ?_
        refine own_goto X (pc' := 34) at_30 (by decide) (by decide) ?_
        refine own_istore X (pc' := 36) (Ls' := #[.val (.int x0), .val (.int x1), .val (.int x2), .val (.int size), .val (.int mode), .val (.int (3 : Int32)), .val (.int (31 : Int32)), .val (.int (139 : Int32)), .unset, .unset]) at_34 rfl rfl ?_
        refine own_iload X (pc' := 38) at_36 rfl rfl ?_
        refine own_newarr X (len := 3) (vs := [0, 0, 0]) (pc' := 40) (hw _ (List.mem_of_getElem? (i := 0) rfl)) rfl (by decide) (by decide) rfl (by decide) at_38 rfl (by decide) (by decide) ?_
        intro T128 h128 ad128 X128 ge_ad128 g_ad128 E128 A128
        refine own_astore X128 (pc' := 42) (Ls' := #[.val (.int x0), .val (.int x1), .val (.int x2), .val (.int size), .val (.int mode), .val (.int (3 : Int32)), .val (.int (31 : Int32)), .val (.int (139 : Int32)), .val (.ref ad128), .unset]) at_40 rfl rfl rfl ?_
        refine own_iload X128 (pc' := 44) at_42 rfl rfl ?_
        refine own_if_le X128 (pct := 54) (pc' := 47) at_44 rfl (by decide) (by decide) (fun hc => absurd hc (by decide)) (fun _ => ?_)
        refine own_aload X128 (pc' := 49) at_47 rfl rfl rfl ?_
        refine own_iconst X128 (v := (0 : Int32)) (pc' := 50) at_49 rfl (by decide) ?_
        refine own_iload X128 (pc' := 52) at_50 rfl rfl ?_
        refine own_i2b X128 (r := (31 : Int32)) (pc' := 53) at_52 rfl (by decide) ?_
        refine own_bastore X128 (vs' := [(31 : Int32), (0 : Int32), (0 : Int32)]) (pc' := 54) A128 ge_ad128 rfl (by decide) rfl at_53 rfl ?_
        intro T129 h129 X129 A129 W129
        refine own_iload X129 (pc' := 56) at_54 rfl rfl ?_
        refine own_iconst X129 (v := (1 : Int32)) (pc' := 57) at_56 rfl (by decide) ?_
        refine own_icmp_le X129 (pct := 67) (pc' := 60) at_57 rfl (by decide) (by decide) (fun hc => absurd hc (by decide)) (fun _ => ?_)
        refine own_aload X129 (pc' := 62) at_60 rfl rfl rfl ?_
        refine own_iconst X129 (v := (1 : Int32)) (pc' := 63) at_62 rfl (by decide) ?_
        refine own_iload X129 (pc' := 65) at_63 rfl rfl ?_
        refine own_i2b X129 (r := (-117 : Int32)) (pc' := 66) at_65 rfl (by decide) ?_
        refine own_bastore X129 (vs' := [(31 : Int32), (-117 : Int32), (0 : Int32)]) (pc' := 67) A129 ge_ad128 rfl (by decide) rfl at_66 rfl ?_
        intro T130 h130 X130 A130 W130
        refine own_iload X130 (pc' := 69) at_67 rfl rfl ?_
        refine own_iconst X130 (v := (2 : Int32)) (pc' := 70) at_69 rfl (by decide) ?_
        refine own_icmp_le X130 (pct := 79) (pc' := 73) at_70 rfl (by decide) (by decide) (fun hc => absurd hc (by decide)) (fun _ => ?_)
        refine own_aload X130 (pc' := 75) at_73 rfl rfl rfl ?_
        refine own_iconst X130 (v := (2 : Int32)) (pc' := 76) at_75 rfl (by decide) ?_
        refine own_iloadN X130 (pc' := 77) at_76 rfl rfl ?_
        refine own_i2b X130 (r := (x2.toInt8.toInt32)) (pc' := 78) at_77 rfl rfl ?_
        refine own_bastore X130 (vs' := [(31 : Int32), (-117 : Int32), (x2.toInt8.toInt32)]) (pc' := 79) A130 ge_ad128 rfl (own_b8 _) rfl at_78 rfl ?_
        intro T131 h131 X131 A131 W131
        refine own_iload X131 (pc' := 81) at_79 rfl rfl ?_
        refine own_iconst X131 (v := (2 : Int32)) (pc' := 82) at_81 rfl (by decide) ?_
        refine own_icmp_lt X131 (pct := 111) (pc' := 85) at_82 rfl (by decide) (by decide) (fun hc => absurd hc (by decide)) (fun _ => ?_)
        refine own_iload X131 (pc' := 87) at_85 rfl rfl ?_
        refine own_ldc2 X131 (pc' := 90) (hw _ (List.mem_of_getElem? (i := 5) rfl)) at_87 rfl ?_
        refine own_callS X131 (W := 0) (argsL := [(.int (31 : Int32)), (.long (31 : Int64))]) (rest := []) (S' := [(.int (own_cg (31 : Int32) (31 : Int64)))]) (pc' := 93) (rm2 l Z a0 hw n0 (31 : Int32) (31 : Int64) h131 X131.size) (hw _ (List.mem_of_getElem? (i := 6) rfl)) (hw _ (List.mem_of_getElem? (i := 7) rfl)) (hw _ (List.mem_of_getElem? (i := 8) rfl)) (hw _ (List.mem_of_getElem? (i := 9) rfl)) (by decide) (by decide) (by decide) rfl rfl (by decide) (by decide) (lenOf pd_1 rfl) rfl (by first | decide | exact Nat.le_of_eq rfl) rfl at_90 rfl rfl ?_
        intro T132 h132 X132 qq132
        rw [show h132 = h131 from qq132] at X132
        refine own_if_eq X132 (pct := 111) (pc' := 96) at_93 rfl (by decide) (by decide) (fun hc93_133 => ?_) (fun hc93_133 => ?_)
        · refine own_iconst X132 (v := (0 : Int32)) (pc' := 112) at_111 rfl (by decide) ?_
          refine own_istore X132 (pc' := 114) (Ls' := #[.val (.int x0), .val (.int x1), .val (.int x2), .val (.int size), .val (.int mode), .val (.int (3 : Int32)), .val (.int (31 : Int32)), .val (.int (139 : Int32)), .val (.ref ad128), .val (.int (0 : Int32))]) at_112 rfl rfl ?_
          refine own_aload X132 (pc' := 116) at_114 rfl rfl rfl ?_
          refine own_callS X132 (W := 0) (argsL := [(.ref ad128)]) (rest := []) (S' := [(.int (own_mg (31 : Int32) (-117 : Int32)))]) (pc' := 119) (rm1_3 l Z a0 hw n0 ad128 h131 X132.size (31 : Int32) (-117 : Int32) (x2.toInt8.toInt32) A131) (hw _ (List.mem_of_getElem? (i := 1) rfl)) (hw _ (List.mem_of_getElem? (i := 2) rfl)) (hw _ (List.mem_of_getElem? (i := 3) rfl)) (hw _ (List.mem_of_getElem? (i := 4) rfl)) (by decide) (by decide) (by decide) rfl rfl (by decide) (by decide) (lenOf pd_0 rfl) rfl (by first | decide | exact Nat.le_of_eq rfl) rfl at_116 rfl rfl ?_
          intro T134 h134 X134 qq134
          rw [show h134 = h131 from qq134] at X134
          refine own_iload X134 (pc' := 121) at_119 rfl rfl ?_
          refine own_icmp_ne X134 (pct := 128) (pc' := 124) at_121 rfl (by decide) (by decide) (fun hc121_135 => ?_) (fun hc121_135 => ?_)
          · refine own_iconst X134 (v := (0 : Int32)) (pc' := 129) at_128 rfl (by decide) ?_
            subst hΦ
            exfalso
            simp_all [own_mg, own_l31, own_l139, own_k1, own_k2, own_k3, own_k4, own_k5, own_k6]
          · refine own_iconst X134 (v := (1 : Int32)) (pc' := 125) at_124 rfl (by decide) ?_
            refine own_goto X134 (pc' := 129) at_125 (by decide) (by decide) ?_
            subst hΦ
            exact own_retZ X134 at_129 (by decide) (by decide) (by decide) rfl trivial
        · refine own_iload X132 (pc' := 98) at_96 rfl rfl ?_
          refine own_ldc2 X132 (pc' := 101) (hw _ (List.mem_of_getElem? (i := 11) rfl)) at_98 rfl ?_
          refine own_callS X132 (W := 0) (argsL := [(.int (139 : Int32)), (.long (139 : Int64))]) (rest := []) (S' := [(.int (own_cg (139 : Int32) (139 : Int64)))]) (pc' := 104) (rm2 l Z a0 hw n0 (139 : Int32) (139 : Int64) h131 X132.size) (hw _ (List.mem_of_getElem? (i := 6) rfl)) (hw _ (List.mem_of_getElem? (i := 7) rfl)) (hw _ (List.mem_of_getElem? (i := 8) rfl)) (hw _ (List.mem_of_getElem? (i := 9) rfl)) (by decide) (by decide) (by decide) rfl rfl (by decide) (by decide) (lenOf pd_1 rfl) rfl (by first | decide | exact Nat.le_of_eq rfl) rfl at_101 rfl rfl ?_
          intro T136 h136 X136 qq136
          rw [show h136 = h131 from qq136] at X136
          refine own_if_eq X136 (pct := 111) (pc' := 107) at_104 rfl (by decide) (by decide) (fun hc104_137 => ?_) (fun hc104_137 => ?_)
          · refine own_iconst X136 (v := (0 : Int32)) (pc' := 112) at_111 rfl (by decide) ?_
            refine own_istore X136 (pc' := 114) (Ls' := #[.val (.int x0), .val (.int x1), .val (.int x2), .val (.int size), .val (.int mode), .val (.int (3 : Int32)), .val (.int (31 : Int32)), .val (.int (139 : Int32)), .val (.ref ad128), .val (.int (0 : Int32))]) at_112 rfl rfl ?_
            refine own_aload X136 (pc' := 116) at_114 rfl rfl rfl ?_
            refine own_callS X136 (W := 0) (argsL := [(.ref ad128)]) (rest := []) (S' := [(.int (own_mg (31 : Int32) (-117 : Int32)))]) (pc' := 119) (rm1_3 l Z a0 hw n0 ad128 h131 X136.size (31 : Int32) (-117 : Int32) (x2.toInt8.toInt32) A131) (hw _ (List.mem_of_getElem? (i := 1) rfl)) (hw _ (List.mem_of_getElem? (i := 2) rfl)) (hw _ (List.mem_of_getElem? (i := 3) rfl)) (hw _ (List.mem_of_getElem? (i := 4) rfl)) (by decide) (by decide) (by decide) rfl rfl (by decide) (by decide) (lenOf pd_0 rfl) rfl (by first | decide | exact Nat.le_of_eq rfl) rfl at_116 rfl rfl ?_
            intro T138 h138 X138 qq138
            rw [show h138 = h131 from qq138] at X138
            refine own_iload X138 (pc' := 121) at_119 rfl rfl ?_
            refine own_icmp_ne X138 (pct := 128) (pc' := 124) at_121 rfl (by decide) (by decide) (fun hc121_139 => ?_) (fun hc121_139 => ?_)
            · refine own_iconst X138 (v := (0 : Int32)) (pc' := 129) at_128 rfl (by decide) ?_
              subst hΦ
              exfalso
              simp_all [own_mg, own_l31, own_l139, own_k1, own_k2, own_k3, own_k4, own_k5, own_k6]
            · refine own_iconst X138 (v := (1 : Int32)) (pc' := 125) at_124 rfl (by decide) ?_
              refine own_goto X138 (pc' := 129) at_125 (by decide) (by decide) ?_
              subst hΦ
              exact own_retZ X138 at_129 (by decide) (by decide) (by decide) rfl trivial
          · refine own_iconst X136 (v := (1 : Int32)) (pc' := 108) at_107 rfl (by decide) ?_
            refine own_goto X136 (pc' := 112) at_108 (by decide) (by decide) ?_
            refine own_istore X136 (pc' := 114) (Ls' := #[.val (.int x0), .val (.int x1), .val (.int x2), .val (.int size), .val (.int mode), .val (.int (3 : Int32)), .val (.int (31 : Int32)), .val (.int (139 : Int32)), .val (.ref ad128), .val (.int (1 : Int32))]) at_112 rfl rfl ?_
            refine own_aload X136 (pc' := 116) at_114 rfl rfl rfl ?_
            refine own_callS X136 (W := 0) (argsL := [(.ref ad128)]) (rest := []) (S' := [(.int (own_mg (31 : Int32) (-117 : Int32)))]) (pc' := 119) (rm1_3 l Z a0 hw n0 ad128 h131 X136.size (31 : Int32) (-117 : Int32) (x2.toInt8.toInt32) A131) (hw _ (List.mem_of_getElem? (i := 1) rfl)) (hw _ (List.mem_of_getElem? (i := 2) rfl)) (hw _ (List.mem_of_getElem? (i := 3) rfl)) (hw _ (List.mem_of_getElem? (i := 4) rfl)) (by decide) (by decide) (by decide) rfl rfl (by decide) (by decide) (lenOf pd_0 rfl) rfl (by first | decide | exact Nat.le_of_eq rfl) rfl at_116 rfl rfl ?_
            intro T140 h140 X140 qq140
            rw [show h140 = h131 from qq140] at X140
            refine own_iload X140 (pc' := 121) at_119 rfl rfl ?_
            refine own_icmp_ne X140 (pct := 128) (pc' := 124) at_121 rfl (by decide) (by decide) (fun hc121_141 => ?_) (fun hc121_141 => ?_)
            · refine own_iconst X140 (v := (0 : Int32)) (pc' := 129) at_128 rfl (by decide) ?_
              subst hΦ
              exfalso
              simp_all [own_mg, own_l31, own_l139, own_k1, own_k2, own_k3, own_k4, own_k5, own_k6]
            · refine own_iconst X140 (v := (1 : Int32)) (pc' := 125) at_124 rfl (by decide) ?_
              refine own_goto X140 (pc' := 129) at_125 (by decide) (by decide) ?_
              subst hΦ
              exact own_retZ X140 at_129 (by decide) (by decide) (by decide) rfl trivial
set_option maxRecDepth 65536 in
set_option maxHeartbeats 4000000 in
theorem comes_1 {Post : Tables → Env → Array Value → State → Outcome → State → Prop} (hpost : ∀ tb e args s v u, (limb_1_1.after args s (.returned v) u = true ∧ limb_1_2.after args s (.returned v) u = true ∧ True) → FrameEnd s (.returned v) u (Jvm.fieldLocs frame_1_writes args s ++ Jvm.arrayLocs frame_1_arrays args s ++ Jvm.staticLocs frame_1_statics s) 16 128 → Post tb e args s (.returned v) u) :
    ArmFor flags0 classFile x code maxLocals ret World_1 tables_1 room_1 Calls_1 rest_1 Pre_1 Post := by
  intro l hfl _ _ p e ha hc hk s m args below hf hA hF happ hP
  obtain ⟨hcalls, hrest, hpre⟩ := hP
  obtain ⟨-, -, -, hnamed, -, -, -, hat⟩ := (Spec.applies_iff hf).mp happ
  obtain ⟨hg, hn⟩ := and_e (Cond.before_iff.mp (show (Jvm.Cond.and given_1 narrow_1).before args s = true from hpre))
  obtain ⟨hcnt, r0⟩ := and_e hg
  obtain ⟨k0, r1⟩ := and_e r0
  obtain ⟨k1, r2⟩ := and_e r1
  obtain ⟨k2, r3⟩ := and_e r2
  obtain ⟨k3, r4⟩ := and_e r3
  obtain ⟨w0, w1, w2, w3, w4, rfl⟩ : ∃ w0 w1 w2 w3 w4 : Value, args = #[w0, w1, w2, w3, w4] := by
    have hs : args.size = 5 := by simpa [Cond.value, given_1] using hcnt
    obtain ⟨L⟩ := args
    match L, hs with
    | [w0, w1, w2, w3, w4], _ => exact ⟨w0, w1, w2, w3, w4, rfl⟩
  have hw := fun d (hd : d ∈ tables_1) => atoms_spec (ws := Jvm.Cond.code x code maxLocals ret :: tables_1) hat d (List.mem_cons_of_mem _ hd)
  obtain ⟨i0, ei0⟩ := is_v k0
  obtain rfl : w0 = (.int i0) := Option.some.inj ei0
  obtain ⟨i1, ei1⟩ := is_v k1
  obtain rfl : w1 = (.int i1) := Option.some.inj ei1
  obtain ⟨i2, ei2⟩ := is_v k2
  obtain rfl : w2 = (.int i2) := Option.some.inj ei2
  obtain ⟨i3, ei3⟩ := is_v k3
  obtain rfl : w3 = (.int i3) := Option.some.inj ei3
  obtain ⟨i4, ei4⟩ := is_v r4
  obtain rfl : w4 = (.int i4) := Option.some.inj ei4
  obtain ⟨n, o, h1, h2, h3, _, L, rfl, ⟨⟨rfl, -⟩, N⟩, hq⟩ := rm0 l s _ hw s.heap.size i0 i1 i2 i3 i4 s.heap (Nat.le_refl _) tables_1 p e ha hc hk s m _ below hf ((Spec.applies_iff_loose hf).mp happ).1 ⟨rfl, State.Warmed39.refl s, rfl⟩ trivial
  refine ⟨n, _, h1, h2, h3, hpost _ _ _ _ _ _ ⟨Cond.after_iff.mpr rfl, Cond.after_iff.mpr (eq_i res_at (Term.int_eval (1)) rfl), trivial⟩ ⟨hq.1, hq.2.1, (hq.2.2.sift fun y hy => Or.inr (N y hy)).mono (by decide) (by decide)⟩⟩
theorem main_1_1 : Claimed_1_1 := comes_1 fun _ _ _ _ _ _ h hF => ⟨h.1, hF⟩
theorem main_1_2 : Claimed_1_2 := comes_1 fun _ _ _ _ _ _ h hF => ⟨h.2.1, hF⟩
end Jvm.Pilot.@@N@@
namespace Jvm.Pilot.@@N@@
open Jvm Jvm.ClassFile Sem Op Lib Jvm.Free Jvm.Stand Jvm.Pilot.@@N@@.Jvm.D
/-! MADE BY PROGRAM (witnessworld.py) out of the Statement's table words and the real class files: 12 classes; the members and pool entries that the words name. The judged class is class 1, her method 2. -/
namespace start1
open Jvm.ClassFile
def u (s : String) : CpInfo := .utf8 (stringToUtf16 s)
/-- a pool by its gaps: so many unusable entries, then the entry; so many at the end -/
def gap : Nat → List CpInfo → List CpInfo
  | 0, r => r
  | n + 1, r => .unusable :: gap n r
def poolList (es : List (Nat × CpInfo)) (last : Nat) : List CpInfo := es.foldr (fun e r => gap e.1 (e.2 :: r)) (gap last [])
def pool (es : List (Nat × CpInfo)) (last : Nat) : Array CpInfo := ⟨poolList es last⟩
def fileOf (pool : Array CpInfo) (this : Nat) (attrs : Array Attribute := #[]) (ms : Array MethodInfo := #[]) (fl : Nat := 33) (sup : Nat := 0) (ifs : Array Nat := #[]) (fds : Array FieldInfo := #[]) : ClassFile where
  minorVersion := 0
  majorVersion := 65
  constantPool := pool
  accessFlags := fl
  thisClass := this
  superClass := sup
  interfaces := ifs
  fields := fds
  methods := ms
  attributes := attrs
def plain (name : String) (sup : Option ClassId) : Class where
  name := name
  kind := .ordinary
  loader := none
  accessFlags := 33
  super := sup
  interfaces := #[]
  cf := none
  fields := #[]
  methods := #[]
  instanceTypes := #[]
  staticTypes := #[]
  resolved := #[]
  callSites := []
  init := .initialized
  statics := none
  mirror := none

def pool0 : Array CpInfo := pool [(5, u "<init>"), (0, u "()V"), (1, .class_ 10), (1, u "java/lang/Object")] 113

def k0m0 : Method := { name := "<init>", desc := "()V", sig := { parameters := [], returnType := none }, accessFlags := 1, code := none }
/-- java/lang/Object -/
def k0 : Class := { plain "java/lang/Object" none with
  accessFlags := 33
  interfaces := #[]
  cf := some (fileOf pool0 8 #[] #[{ accessFlags := 1, nameIndex := 5, descriptorIndex := 6, attributes := #[] }] 33 0 #[] #[])
  fields := #[]
  methods := #[k0m0]
  instanceTypes := #[]
  staticTypes := #[]
  resolved := Array.replicate 124 none
  statics := none }

def pool1 : Array CpInfo := pool [(2, .class_ 4), (1, u "java/lang/Object"), (0, u "<init>"), (0, u "()V"), (0, .long 256), (1, .long 31), (1, .methodref 12 13), (0, .class_ 14), (0, .nameAndType 15 16), (0, u "com/example/quern/quern/text/GzipMembersIsMagicPinLaw"), (0, u "congruent"), (0, u "(IJ)Z"), (0, .long 139), (1, .methodref 20 21), (0, .class_ 22), (0, .nameAndType 23 24), (0, u "com/example/quern/quern/text/GzipMembers"), (0, u "isMagic"), (0, u "([B)Z"), (3, u "law"), (0, u "(IIIII)Z")] 4

def k1m0 : Method := { name := "<init>", desc := "()V", sig := { parameters := [], returnType := none }, accessFlags := 2, code := none }
def k1c1 : Code := { maxStack := 4, maxLocals := 3, code := method_2_code, exceptionTable := #[], attributes := #[] }
def k1m1 : Method := { name := "congruent", desc := "(IJ)Z", sig := { parameters := [.int, .long], returnType := some .boolean }, accessFlags := 10, code := some k1c1 }
def k1c2 : Code := { maxStack := 3, maxLocals := 10, code := code, exceptionTable := #[], attributes := #[] }
def k1m2 : Method := { name := "law", desc := "(IIIII)Z", sig := { parameters := [.int, .int, .int, .int, .int], returnType := some .boolean }, accessFlags := 9, code := some k1c2 }
/-- com/example/quern/quern/text/GzipMembersIsMagicPinLaw -/
def k1 : Class := { plain "com/example/quern/quern/text/GzipMembersIsMagicPinLaw" (some 0) with
  accessFlags := 49
  interfaces := #[]
  cf := some (fileOf pool1 12 #[] #[{ accessFlags := 2, nameIndex := 5, descriptorIndex := 6, attributes := #[] }, { accessFlags := 10, nameIndex := 15, descriptorIndex := 16, attributes := #[] }, { accessFlags := 9, nameIndex := 28, descriptorIndex := 29, attributes := #[] }] 49 2 #[] #[])
  fields := #[]
  methods := #[k1m0, k1m1, k1m2]
  instanceTypes := #[]
  staticTypes := #[]
  resolved := Array.replicate 34 none
  statics := none }

def pool2 : Array CpInfo := pool [(1, .class_ 2), (0, u "java/lang/AutoCloseable"), (0, .class_ 4), (0, u "java/lang/Object")] 7

/-- java/lang/AutoCloseable -/
def k2 : Class := { plain "java/lang/AutoCloseable" (some 0) with
  accessFlags := 1537
  interfaces := #[]
  cf := some (fileOf pool2 1 #[] #[] 1537 3 #[] #[])
  fields := #[]
  methods := #[]
  instanceTypes := #[]
  staticTypes := #[]
  resolved := Array.replicate 12 none
  statics := none }

def pool3 : Array CpInfo := pool [(1, .class_ 2), (0, u "java/io/Closeable"), (0, .class_ 4), (0, u "java/lang/Object"), (0, .class_ 6), (0, u "java/lang/AutoCloseable")] 7

/-- java/io/Closeable -/
def k3 : Class := { plain "java/io/Closeable" (some 0) with
  accessFlags := 1537
  interfaces := #[2]
  cf := some (fileOf pool3 1 #[] #[] 1537 3 #[5] #[])
  fields := #[]
  methods := #[]
  instanceTypes := #[]
  staticTypes := #[]
  resolved := Array.replicate 14 none
  statics := none }

def pool4 : Array CpInfo := pool [(4, .class_ 6), (1, u "java/lang/Object"), (0, u "<init>"), (0, u "()V"), (0, .class_ 10), (0, u "java/io/InputStream$1"), (2, .class_ 15), (1, u "java/io/InputStream"), (116, .class_ 133), (0, u "java/io/Closeable"), (0, u "MAX_SKIP_BUFFER_SIZE"), (0, u "I"), (2, u "DEFAULT_BUFFER_SIZE"), (1, u "MAX_BUFFER_SIZE")] 54

def k4m0 : Method := { name := "<init>", desc := "()V", sig := { parameters := [], returnType := none }, accessFlags := 1, code := none }
/-- java/io/InputStream -/
def k4 : Class := { plain "java/io/InputStream" (some 0) with
  accessFlags := 1057
  interfaces := #[3]
  cf := some (fileOf pool4 13 #[.nestMembers #[9]] #[{ accessFlags := 1, nameIndex := 7, descriptorIndex := 8, attributes := #[] }] 1057 4 #[132] #[{ accessFlags := 26, nameIndex := 134, descriptorIndex := 135, attributes := #[] }, { accessFlags := 26, nameIndex := 138, descriptorIndex := 135, attributes := #[] }, { accessFlags := 26, nameIndex := 140, descriptorIndex := 135, attributes := #[] }])
  fields := #[{ name := "MAX_SKIP_BUFFER_SIZE", type := .int, accessFlags := 26, slot := 0, constantValue := 0 }, { name := "DEFAULT_BUFFER_SIZE", type := .int, accessFlags := 26, slot := 1, constantValue := 0 }, { name := "MAX_BUFFER_SIZE", type := .int, accessFlags := 26, slot := 2, constantValue := 0 }]
  methods := #[k4m0]
  instanceTypes := #[]
  staticTypes := #[.int, .int, .int]
  resolved := Array.replicate 195 none
  statics := none }

def pool5 : Array CpInfo := pool [(2, .class_ 4), (1, u "java/io/InputStream"), (2, .class_ 8), (0, u "com/example/quern/quern/text/GzipMembers"), (2, u "buffer"), (0, u "[B"), (7, u "inflater"), (0, u "Ljava/util/zip/Inflater;"), (5, u "dataChecksum"), (0, u "Ljava/util/zip/CRC32;"), (2, u "headerChecksum"), (2, u "in"), (0, u "Ljava/io/InputStream;"), (2, u "member"), (0, u "I"), (12, u "ended"), (0, u "Z"), (2, u "inData"), (21, u "position"), (45, u "length"), (0, u "J"), (10, u "limit"), (51, u "MAGIC_FIRST"), (2, u "MAGIC_SECOND"), (1, u "DEFLATE"), (1, u "HEADER_CHECKSUM"), (1, u "EXTRA"), (1, u "NAME"), (0, u "COMMENT"), (1, u "RESERVED"), (1, u "FIXED_AFTER_FLAGS"), (1, u "BUFFER_SIZE"), (4, u "isMagic"), (0, u "([B)Z")] 30

def k5c0 : Code := { maxStack := 2, maxLocals := 1, code := prog_274_method_2_code, exceptionTable := #[], attributes := #[] }
def k5m0 : Method := { name := "isMagic", desc := "([B)Z", sig := { parameters := [(.array .byte)], returnType := some .boolean }, accessFlags := 8, code := some k5c0 }
/-- com/example/quern/quern/text/GzipMembers -/
def k5 : Class := { plain "com/example/quern/quern/text/GzipMembers" (some 4) with
  accessFlags := 48
  interfaces := #[]
  cf := some (fileOf pool5 7 #[] #[{ accessFlags := 8, nameIndex := 211, descriptorIndex := 212, attributes := #[] }] 48 2 #[] #[{ accessFlags := 26, nameIndex := 188, descriptorIndex := 39, attributes := #[] }, { accessFlags := 26, nameIndex := 191, descriptorIndex := 39, attributes := #[] }, { accessFlags := 26, nameIndex := 193, descriptorIndex := 39, attributes := #[] }, { accessFlags := 26, nameIndex := 195, descriptorIndex := 39, attributes := #[] }, { accessFlags := 26, nameIndex := 197, descriptorIndex := 39, attributes := #[] }, { accessFlags := 26, nameIndex := 199, descriptorIndex := 39, attributes := #[] }, { accessFlags := 26, nameIndex := 200, descriptorIndex := 39, attributes := #[] }, { accessFlags := 26, nameIndex := 202, descriptorIndex := 39, attributes := #[] }, { accessFlags := 26, nameIndex := 204, descriptorIndex := 39, attributes := #[] }, { accessFlags := 26, nameIndex := 206, descriptorIndex := 39, attributes := #[] }, { accessFlags := 18, nameIndex := 34, descriptorIndex := 35, attributes := #[] }, { accessFlags := 18, nameIndex := 11, descriptorIndex := 12, attributes := #[] }, { accessFlags := 18, nameIndex := 20, descriptorIndex := 21, attributes := #[] }, { accessFlags := 18, nameIndex := 27, descriptorIndex := 28, attributes := #[] }, { accessFlags := 18, nameIndex := 31, descriptorIndex := 28, attributes := #[] }, { accessFlags := 2, nameIndex := 78, descriptorIndex := 39, attributes := #[] }, { accessFlags := 2, nameIndex := 136, descriptorIndex := 39, attributes := #[] }, { accessFlags := 2, nameIndex := 38, descriptorIndex := 39, attributes := #[] }, { accessFlags := 2, nameIndex := 124, descriptorIndex := 125, attributes := #[] }, { accessFlags := 2, nameIndex := 56, descriptorIndex := 53, attributes := #[] }, { accessFlags := 2, nameIndex := 52, descriptorIndex := 53, attributes := #[] }])
  fields := #[{ name := "MAGIC_FIRST", type := .int, accessFlags := 26, slot := 0, constantValue := 0 }, { name := "MAGIC_SECOND", type := .int, accessFlags := 26, slot := 1, constantValue := 0 }, { name := "DEFLATE", type := .int, accessFlags := 26, slot := 2, constantValue := 0 }, { name := "HEADER_CHECKSUM", type := .int, accessFlags := 26, slot := 3, constantValue := 0 }, { name := "EXTRA", type := .int, accessFlags := 26, slot := 4, constantValue := 0 }, { name := "NAME", type := .int, accessFlags := 26, slot := 5, constantValue := 0 }, { name := "COMMENT", type := .int, accessFlags := 26, slot := 6, constantValue := 0 }, { name := "RESERVED", type := .int, accessFlags := 26, slot := 7, constantValue := 0 }, { name := "FIXED_AFTER_FLAGS", type := .int, accessFlags := 26, slot := 8, constantValue := 0 }, { name := "BUFFER_SIZE", type := .int, accessFlags := 26, slot := 9, constantValue := 0 }, { name := "in", type := (.object "java/io/InputStream"), accessFlags := 18, slot := 0, constantValue := 0 }, { name := "buffer", type := (.array .byte), accessFlags := 18, slot := 1, constantValue := 0 }, { name := "inflater", type := (.object "java/util/zip/Inflater"), accessFlags := 18, slot := 2, constantValue := 0 }, { name := "dataChecksum", type := (.object "java/util/zip/CRC32"), accessFlags := 18, slot := 3, constantValue := 0 }, { name := "headerChecksum", type := (.object "java/util/zip/CRC32"), accessFlags := 18, slot := 4, constantValue := 0 }, { name := "position", type := .int, accessFlags := 2, slot := 5, constantValue := 0 }, { name := "limit", type := .int, accessFlags := 2, slot := 6, constantValue := 0 }, { name := "member", type := .int, accessFlags := 2, slot := 7, constantValue := 0 }, { name := "length", type := .long, accessFlags := 2, slot := 8, constantValue := 0 }, { name := "inData", type := .boolean, accessFlags := 2, slot := 9, constantValue := 0 }, { name := "ended", type := .boolean, accessFlags := 2, slot := 10, constantValue := 0 }]
  methods := #[k5m0]
  instanceTypes := #[(.object "java/io/InputStream"), (.array .byte), (.object "java/util/zip/Inflater"), (.object "java/util/zip/CRC32"), (.object "java/util/zip/CRC32"), .int, .int, .int, .long, .boolean, .boolean]
  staticTypes := #[.int, .int, .int, .int, .int, .int, .int, .int, .int, .int]
  resolved := Array.replicate 243 none
  statics := none }

def pool6 : Array CpInfo := pool [(1, u "java/lang/Cloneable"), (0, .class_ 1), (0, u "java/lang/Object"), (0, .class_ 3)] 3

/-- java/lang/Cloneable -/
def k6 : Class := { plain "java/lang/Cloneable" (some 0) with
  accessFlags := 1537
  interfaces := #[]
  cf := some (fileOf pool6 2 #[] #[] 1537 4 #[] #[])
  fields := #[]
  methods := #[]
  instanceTypes := #[]
  staticTypes := #[]
  resolved := Array.replicate 8 none
  statics := none }

def pool7 : Array CpInfo := pool [(1, u "java/io/Serializable"), (0, .class_ 1), (0, u "java/lang/Object"), (0, .class_ 3)] 3

/-- java/io/Serializable -/
def k7 : Class := { plain "java/io/Serializable" (some 0) with
  accessFlags := 1537
  interfaces := #[]
  cf := some (fileOf pool7 2 #[] #[] 1537 4 #[] #[])
  fields := #[]
  methods := #[]
  instanceTypes := #[]
  staticTypes := #[]
  resolved := Array.replicate 8 none
  statics := none }

/-- the primitive byte -/
def k8 : Class := { plain "byte" none with kind := .primitive 'B', accessFlags := 0x411 }
/-- [B -/
def k9 : Class := { plain "[B" (some 0) with kind := .array 8 .byte, interfaces := #[6, 7], accessFlags := 1041 }

/-- the primitive int -/
def k10 : Class := { plain "int" none with kind := .primitive 'I', accessFlags := 0x411 }
/-- [I -/
def k11 : Class := { plain "[I" (some 0) with kind := .array 10 .int, interfaces := #[6, 7], accessFlags := 1041 }

def heap : Heap := #[]
def classes : Array Class := #[k0, k1, k2, k3, k4, k5, k6, k7, k8, k9, k10, k11]
def interned : List (Array UInt16 × Addr) := []
def slotsUsed : Nat := 0
def theMethod : MethodId := ⟨1, 2⟩
def args0 : Array Value := #[.int 1, .int 2, .int 3, .int 4, .int 5]
def aboutOver (below : List Frame) : State where
  vm := { classes := classes, interned := interned.toArray }
  heap := heap
  slotsUsed := slotsUsed
  threads := #[{ frames := .invoking theMethod args0 :: below }]
def below0 : List Frame := [.native { method := ⟨0, 0⟩, args := #[] }]
def about1 : State := aboutOver below0
def p0 : Program := .bare "" "" ""
def e0 : Env := launch0.env 0 0 0
theorem w_frames : about1.frames = Frame.invoking theMethod args0 :: below0 := rfl
set_option maxRecDepth 65536 in
theorem w_args : argsFit about1.vm theMethod args0 = true := by decide +kernel
set_option maxRecDepth 65536 in
theorem w_heap : heapFits about1 = true := by decide +kernel
set_option maxRecDepth 65536 in
theorem w_runnable : about1.curStatus? = some .runnable := by decide +kernel
set_option maxRecDepth 65536 in
theorem w_alone : about1.alone = true := by decide +kernel
set_option maxRecDepth 65536 in
theorem w_named : about1.methodNamed? x = some theMethod := by decide +kernel
set_option maxRecDepth 65536 in
theorem w_hears : about1.hears theMethod below0 = true := by decide +kernel
set_option maxRecDepth 65536 in
theorem w_ripe : about1.ripe theMethod args0 below0 = true := by decide +kernel
theorem w_running : about1.status = .running := rfl
set_option maxRecDepth 65536 in
theorem w_room : about1.hasRoom e0.platform room_1 = true :=
  launch0.hasRoom_least _ room_1 (by decide +kernel) (by decide +kernel) (by decide +kernel) (by decide +kernel) (by decide +kernel) (by decide +kernel)
theorem allAtoms_all (ts : List Jvm.Cond) (a : Array Jvm.Value) (st : Jvm.State) : (allAtoms ts).before a st = ts.all (fun c => c.before a st) := by
  induction ts with
  | nil => rfl
  | cons c t ih =>
    show (Jvm.Cond.and c (allAtoms t)).before a st = _
    rw [Jvm.Cond.before_and, ih, List.all_cons]
def words1 : List Jvm.Cond := Jvm.Cond.code x code maxLocals ret :: tables_1
/-- a 'code' word, met by the world's own term for the bytes: nothing is compared byte by byte -/
theorem code_word {y : MethodName} {bytes : ByteArray} {mx : Nat} {rt : Option FieldType} {a : Array Value} {s : State} {m : MethodId} {meth : Method} {c : Code} (h1 : s.methodNamed? y = some m) (h2 : s.vm.method? m = some meth) (h3 : meth.code = some c) (h4 : c.code = bytes)
    (h5 : (c.maxLocals == mx && c.exceptionTable.isEmpty && decide (c.maxStack ≤ mostOperands) && decide (meth.sig.returnType = rt) && !meth.locks && decide (parseMethodDescriptor y.desc = some meth.sig)) = true) : (Jvm.Cond.code y bytes mx rt).before a s = true := by
  simp only [Bool.and_eq_true, beq_iff_eq, Bool.not_eq_true', decide_eq_true_eq] at h5
  obtain ⟨⟨⟨⟨⟨g1, g2⟩, g3⟩, g4⟩, g5⟩, g6⟩ := h5
  simp [Cond.before, Cond.holds, Cond.value, h1, h2, h3, h4, g1, g2, g3, g4, g5, g6]
def isCode : Jvm.Cond → Bool
  | .code _ _ _ _ => true
  | _ => false
theorem all_split {L : List Jvm.Cond} {P : Jvm.Cond → Bool} (h1 : L.all (fun c => isCode c || P c) = true) (h2 : ∀ c ∈ L.filter isCode, P c = true) : L.all P = true := by
  refine List.all_eq_true.mpr fun c hc => ?_
  have h := List.all_eq_true.mp h1 c hc
  rcases Bool.eq_false_or_eq_true (isCode c) with hi | hi
  · exact h2 c (List.mem_filter.mpr ⟨hc, hi⟩)
  · simpa [hi] using h
set_option maxRecDepth 65536 in
theorem w_c0 : (Jvm.Cond.code x code maxLocals ret).before args0 about1 = true := code_word (m := ⟨1, 2⟩) (meth := k1m2) (c := k1c2) (by decide +kernel) rfl rfl rfl (by decide +kernel)
set_option maxRecDepth 65536 in
theorem w_c1 : (Jvm.Cond.code ({ cls := "com/example/quern/quern/text/GzipMembers", name := "isMagic", desc := "([B)Z" } : Jvm.MethodName) prog_274_method_2_code (1 : Nat) (Option.some Jvm.ClassFile.FieldType.boolean)).before args0 about1 = true := code_word (m := ⟨5, 0⟩) (meth := k5m0) (c := k5c0) (by decide +kernel) rfl rfl rfl (by decide +kernel)
set_option maxRecDepth 65536 in
theorem w_c2 : (Jvm.Cond.code ({ cls := "com/example/quern/quern/text/GzipMembersIsMagicPinLaw", name := "congruent", desc := "(IJ)Z" } : Jvm.MethodName) method_2_code (3 : Nat) (Option.some Jvm.ClassFile.FieldType.boolean)).before args0 about1 = true := code_word (m := ⟨1, 1⟩) (meth := k1m1) (c := k1c1) (by decide +kernel) rfl rfl rfl (by decide +kernel)
def codes1 : List Jvm.Cond := [Jvm.Cond.code x code maxLocals ret, Jvm.Cond.code ({ cls := "com/example/quern/quern/text/GzipMembers", name := "isMagic", desc := "([B)Z" } : Jvm.MethodName) prog_274_method_2_code (1 : Nat) (Option.some Jvm.ClassFile.FieldType.boolean), Jvm.Cond.code ({ cls := "com/example/quern/quern/text/GzipMembersIsMagicPinLaw", name := "congruent", desc := "(IJ)Z" } : Jvm.MethodName) method_2_code (3 : Nat) (Option.some Jvm.ClassFile.FieldType.boolean)]
set_option maxRecDepth 65536 in
theorem codes_eq : words1.filter isCode = codes1 := rfl
theorem w_codes : ∀ c ∈ words1.filter isCode, c.before args0 about1 = true := by
  rw [codes_eq]
  intro c hc
  simp only [codes1, List.mem_cons, List.not_mem_nil, or_false] at hc
  rcases hc with rfl | rfl | rfl
  · exact w_c0
  · exact w_c1
  · exact w_c2
set_option maxRecDepth 65536 in
theorem w_t1 : words1.all (fun c => isCode c || c.before args0 about1) = true := by decide +kernel
theorem w_tables : (allAtoms (Jvm.Cond.code x code maxLocals ret :: tables_1)).before args0 about1 = true := by
  rw [allAtoms_all]
  show words1.all (fun c => c.before args0 about1) = true
  refine all_split ?_ w_codes
  rw [w_t1]
set_option maxRecDepth 65536 in
theorem w_case : (Jvm.Cond.and given_1 narrow_1).before args0 about1 = true := by decide +kernel
theorem w_applies : (headSpec (Jvm.Cond.code x code maxLocals ret :: tables_1) room_1).applies x e0.platform about1 = true :=
  (Spec.applies_iff w_frames).mpr ⟨w_running, w_runnable, w_alone, w_named, w_hears, w_ripe, w_room, w_tables⟩
theorem atStart : AtStart classFile x code maxLocals ret World_1 tables_1 room_1 Calls_1 rest_1 Pre_1 launch0 p0 e0 about1 theMethod args0 below0 :=
  ⟨lists_1, trivial, launch0.admits_env _ _ _, launch0.least_env, fairChoices_fair.cas, fairChoices_fair.clock, w_frames, w_args, w_heap, w_applies, trivial, trivial, w_case⟩
end start1
theorem witness_1 : WitnessClaimed_1 := ⟨start1.p0, start1.e0, start1.about1, start1.theMethod, start1.args0, start1.below0, start1.atStart⟩
end Jvm.Pilot.@@N@@
