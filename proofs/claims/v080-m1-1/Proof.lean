import JvmDerived
import JvmDerived.Pilot.@@N@@Statement
import JvmDerived.Pilot.@@N@@Code
set_option linter.unusedVariables false
set_option linter.unusedSimpArgs false
namespace Jvm.Pilot.@@N@@
open Jvm Jvm.ClassFile Sem Op Lib Jvm.Free Jvm.Stand Jvm.LawKit Jvm.RoadKit Bundle Jvm.Pilot.@@N@@.Jvm.D
section OwnKit
def own_G (p : Program) (e : Env) (below : List Frame) (Φ : State → Outcome → Prop) (T : State) (f : JFrame) : Prop := ∃ s₂ o, Steps p.tables e below (T.setTop f) s₂ ∧ Φ s₂ o
def own_S (Z : State) (n0 : Nat) (bytes : ByteArray) (y : MethodName) (ml : Nat) (ret : Option FieldType) (p : Program) (l : Launch) (e : Env) (R : Room) (s : State) (m : MethodId) (args : Array Value) (below : List Frame) (meth : Method) (c : Code) (T : State) (k sl : Nat) (h : Heap) : Prop :=
  (∃ locs, Stand p l e R s m args below meth c T locs k sl ∧ Fr n0 locs) ∧ T.heap = h ∧ n0 ≤ s.heap.size ∧ p.tables.exec = Jvm.exec ∧ Z.Warmed39 s.vm ∧ c.code = bytes ∧ c.maxLocals = ml ∧ s.vm.findClass y.cls = some m.cls ∧ meth.name = y.name ∧ meth.sig.returnType = ret ∧ meth.locks = false
def own_Q (n0 : Nat) (below : List Frame) (s : State) (R : Room) (w : Option Value) (Θ : Heap → Prop) : State → Outcome → Prop := fun s₂ o => s₂.status = .running ∧ Ended s₂ below o ∧ ∃ v L, o = .returned v ∧ ((v = w ∧ Θ s₂.heap) ∧ Fr n0 L) ∧ FrameEnd s o s₂ L R.cells R.slots
def own_Met (l : Launch) (y : MethodName) (bytes : ByteArray) (ml : Nat) (ret : Option FieldType) (rm : Room) (Z : State) (n0 : Nat) (as : Array Value) (h0 : Heap) (w : Option Value) (Θ : Heap → Prop) : Prop :=
  ∀ ws, MetFree l y (head1 (Jvm.Cond.code y bytes ml ret :: ws) rm) (fun a U => a = as ∧ Z.Warmed39 U.vm ∧ U.heap = h0) (fun _ _ _ _ _ => True) (fun _ U o U' => ∃ v L, o = .returned v ∧ ((v = w ∧ Θ U'.heap) ∧ Fr n0 L) ∧ FrameEnd U o U' L rm.cells rm.slots)
theorem own_met {l : Launch} {y : MethodName} {bytes : ByteArray} {ml : Nat} {ret : Option FieldType} {rm : Room} {Z : State} {n0 : Nat} {as : Array Value} {h0 : Heap} {w : Option Value} {Θ : Heap → Prop} (hp : plainFor y = true) (hn0 : n0 ≤ h0.size)
    (body : ∀ p e s m below meth c T, own_S Z n0 bytes y ml ret p l e rm s m as below meth c T 0 0 h0 → own_G p e below (own_Q n0 below s rm w Θ) T (entryFrame m as ml)) : own_Met l y bytes ml ret rm Z n0 as h0 w Θ := by
  intro ws
  refine MetFree.of_bodySF hp hisR ?_
  intro p e s m args below meth c s₁ Bd hml0 hP hK
  obtain ⟨rfl, hZ, hh⟩ := hP
  obtain ⟨s₂, o, st, h1, h2, h3⟩ := body p e s m below meth c s₁ ⟨⟨[], Stand.of_body Bd, Fr.nil n0⟩, by rw [← hh, Bd.state]; rfl, by rw [hh]; exact hn0, Bd.exec, hZ, Bd.bytes, hml0, findClass_of_methodNamed Bd.named, (name_of_methodNamed Bd.named Bd.method).1, Bd.returns, BodyLoose.notSynchronized Bd⟩
  exact ⟨s₂, o, st, h1, h2, h3⟩
variable {Z : State} {n0 : Nat} {bytes : ByteArray} {y : MethodName} {ml : Nat} {ret : Option FieldType} {p : Program} {l : Launch} {e : Env} {R : Room} {s : State} {m : MethodId} {args : Array Value} {below : List Frame} {meth : Method} {c : Code} {T : State} {k sl : Nat} {h : Heap} {Φ : State → Outcome → Prop} {pc pc' : Nat} {Ls Ls' : Array Slot} {S : List Value} {a0 : Array Value}
theorem own_cast {f f' : JFrame} (q : f = f') (K : own_G p e below Φ T f') : own_G p e below Φ T f := q ▸ K
theorem own_by {T T' : State} {f f' : JFrame} (K : own_G p e below Φ T' f') (st : ∀ t, Steps p.tables e below (T'.setTop f') t → Steps p.tables e below (T.setTop f) t) : own_G p e below Φ T f := by
  obtain ⟨s₂, o, q, r⟩ := K
  exact ⟨s₂, o, st _ q, r⟩
theorem own_S.size (X : own_S Z n0 bytes y ml ret p l e R s m args below meth c T k sl h) : n0 ≤ h.size := by
  obtain ⟨⟨locs, Y, N⟩, hh, hn, hx, hZ, hby, hml, hown, hnm, hret, hlk⟩ := X
  subst hh
  exact Nat.le_trans hn Y.same.2.1
theorem own_iadd (X : own_S Z n0 bytes y ml ret p l e R s m args below meth c T k sl h) {a b r : Int32} (hd : decode bytes pc = .ok (.iadd, 1)) (hpc : pc + 1 = pc') (hr : a + b = r) (K : own_G p e below Φ T (mkF m pc' Ls (.int r :: S))) : own_G p e below Φ T (mkF m pc Ls (.int b :: .int a :: S)) := by
  obtain ⟨⟨locs, Y, N⟩, hh, hn, hx, hZ, hby, hml, hown, hnm, hret, hlk⟩ := X
  subst hpc
  exact own_by K fun t kk => XS.iadd Y.here hx rfl (hb hby hd) rfl (hr ▸ kk)
theorem own_ladd (X : own_S Z n0 bytes y ml ret p l e R s m args below meth c T k sl h) {a b r : Int64} (hd : decode bytes pc = .ok (.ladd, 1)) (hpc : pc + 1 = pc') (hr : a + b = r) (K : own_G p e below Φ T (mkF m pc' Ls (.long r :: S))) : own_G p e below Φ T (mkF m pc Ls (.long b :: .long a :: S)) := by
  obtain ⟨⟨locs, Y, N⟩, hh, hn, hx, hZ, hby, hml, hown, hnm, hret, hlk⟩ := X
  subst hpc
  exact own_by K fun t kk => XS.ladd Y.here hx rfl (hb hby hd) rfl (hr ▸ kk)
theorem own_isub (X : own_S Z n0 bytes y ml ret p l e R s m args below meth c T k sl h) {a b r : Int32} (hd : decode bytes pc = .ok (.isub, 1)) (hpc : pc + 1 = pc') (hr : a - b = r) (K : own_G p e below Φ T (mkF m pc' Ls (.int r :: S))) : own_G p e below Φ T (mkF m pc Ls (.int b :: .int a :: S)) := by
  obtain ⟨⟨locs, Y, N⟩, hh, hn, hx, hZ, hby, hml, hown, hnm, hret, hlk⟩ := X
  subst hpc
  exact own_by K fun t kk => XS.isub Y.here hx rfl (hb hby hd) rfl (hr ▸ kk)
theorem own_lsub (X : own_S Z n0 bytes y ml ret p l e R s m args below meth c T k sl h) {a b r : Int64} (hd : decode bytes pc = .ok (.lsub, 1)) (hpc : pc + 1 = pc') (hr : a - b = r) (K : own_G p e below Φ T (mkF m pc' Ls (.long r :: S))) : own_G p e below Φ T (mkF m pc Ls (.long b :: .long a :: S)) := by
  obtain ⟨⟨locs, Y, N⟩, hh, hn, hx, hZ, hby, hml, hown, hnm, hret, hlk⟩ := X
  subst hpc
  exact own_by K fun t kk => XS.lsub Y.here hx rfl (hb hby hd) rfl (hr ▸ kk)
theorem own_imul (X : own_S Z n0 bytes y ml ret p l e R s m args below meth c T k sl h) {a b r : Int32} (hd : decode bytes pc = .ok (.imul, 1)) (hpc : pc + 1 = pc') (hr : a * b = r) (K : own_G p e below Φ T (mkF m pc' Ls (.int r :: S))) : own_G p e below Φ T (mkF m pc Ls (.int b :: .int a :: S)) := by
  obtain ⟨⟨locs, Y, N⟩, hh, hn, hx, hZ, hby, hml, hown, hnm, hret, hlk⟩ := X
  subst hpc
  exact own_by K fun t kk => XS.imul Y.here hx rfl (hb hby hd) rfl (hr ▸ kk)
theorem own_lmul (X : own_S Z n0 bytes y ml ret p l e R s m args below meth c T k sl h) {a b r : Int64} (hd : decode bytes pc = .ok (.lmul, 1)) (hpc : pc + 1 = pc') (hr : a * b = r) (K : own_G p e below Φ T (mkF m pc' Ls (.long r :: S))) : own_G p e below Φ T (mkF m pc Ls (.long b :: .long a :: S)) := by
  obtain ⟨⟨locs, Y, N⟩, hh, hn, hx, hZ, hby, hml, hown, hnm, hret, hlk⟩ := X
  subst hpc
  exact own_by K fun t kk => XS.lmul Y.here hx rfl (hb hby hd) rfl (hr ▸ kk)
theorem own_iand (X : own_S Z n0 bytes y ml ret p l e R s m args below meth c T k sl h) {a b r : Int32} (hd : decode bytes pc = .ok (.iand, 1)) (hpc : pc + 1 = pc') (hr : a &&& b = r) (K : own_G p e below Φ T (mkF m pc' Ls (.int r :: S))) : own_G p e below Φ T (mkF m pc Ls (.int b :: .int a :: S)) := by
  obtain ⟨⟨locs, Y, N⟩, hh, hn, hx, hZ, hby, hml, hown, hnm, hret, hlk⟩ := X
  subst hpc
  exact own_by K fun t kk => XS.iand Y.here hx rfl (hb hby hd) rfl (hr ▸ kk)
theorem own_land (X : own_S Z n0 bytes y ml ret p l e R s m args below meth c T k sl h) {a b r : Int64} (hd : decode bytes pc = .ok (.land, 1)) (hpc : pc + 1 = pc') (hr : a &&& b = r) (K : own_G p e below Φ T (mkF m pc' Ls (.long r :: S))) : own_G p e below Φ T (mkF m pc Ls (.long b :: .long a :: S)) := by
  obtain ⟨⟨locs, Y, N⟩, hh, hn, hx, hZ, hby, hml, hown, hnm, hret, hlk⟩ := X
  subst hpc
  exact own_by K fun t kk => XS.land Y.here hx rfl (hb hby hd) rfl (hr ▸ kk)
theorem own_ior (X : own_S Z n0 bytes y ml ret p l e R s m args below meth c T k sl h) {a b r : Int32} (hd : decode bytes pc = .ok (.ior, 1)) (hpc : pc + 1 = pc') (hr : a ||| b = r) (K : own_G p e below Φ T (mkF m pc' Ls (.int r :: S))) : own_G p e below Φ T (mkF m pc Ls (.int b :: .int a :: S)) := by
  obtain ⟨⟨locs, Y, N⟩, hh, hn, hx, hZ, hby, hml, hown, hnm, hret, hlk⟩ := X
  subst hpc
  exact own_by K fun t kk => XS.ior Y.here hx rfl (hb hby hd) rfl (hr ▸ kk)
theorem own_lor (X : own_S Z n0 bytes y ml ret p l e R s m args below meth c T k sl h) {a b r : Int64} (hd : decode bytes pc = .ok (.lor, 1)) (hpc : pc + 1 = pc') (hr : a ||| b = r) (K : own_G p e below Φ T (mkF m pc' Ls (.long r :: S))) : own_G p e below Φ T (mkF m pc Ls (.long b :: .long a :: S)) := by
  obtain ⟨⟨locs, Y, N⟩, hh, hn, hx, hZ, hby, hml, hown, hnm, hret, hlk⟩ := X
  subst hpc
  exact own_by K fun t kk => XS.lor Y.here hx rfl (hb hby hd) rfl (hr ▸ kk)
theorem own_ixor (X : own_S Z n0 bytes y ml ret p l e R s m args below meth c T k sl h) {a b r : Int32} (hd : decode bytes pc = .ok (.ixor, 1)) (hpc : pc + 1 = pc') (hr : a ^^^ b = r) (K : own_G p e below Φ T (mkF m pc' Ls (.int r :: S))) : own_G p e below Φ T (mkF m pc Ls (.int b :: .int a :: S)) := by
  obtain ⟨⟨locs, Y, N⟩, hh, hn, hx, hZ, hby, hml, hown, hnm, hret, hlk⟩ := X
  subst hpc
  exact own_by K fun t kk => XS.ixor Y.here hx rfl (hb hby hd) rfl (hr ▸ kk)
theorem own_lxor (X : own_S Z n0 bytes y ml ret p l e R s m args below meth c T k sl h) {a b r : Int64} (hd : decode bytes pc = .ok (.lxor, 1)) (hpc : pc + 1 = pc') (hr : a ^^^ b = r) (K : own_G p e below Φ T (mkF m pc' Ls (.long r :: S))) : own_G p e below Φ T (mkF m pc Ls (.long b :: .long a :: S)) := by
  obtain ⟨⟨locs, Y, N⟩, hh, hn, hx, hZ, hby, hml, hown, hnm, hret, hlk⟩ := X
  subst hpc
  exact own_by K fun t kk => XS.lxor Y.here hx rfl (hb hby hd) rfl (hr ▸ kk)
theorem own_ishl (X : own_S Z n0 bytes y ml ret p l e R s m args below meth c T k sl h) {a r : Int32} {b : Int32} (hd : decode bytes pc = .ok (.ishl, 1)) (hpc : pc + 1 = pc') (hr : (a <<< (b &&& 31)) = r) (K : own_G p e below Φ T (mkF m pc' Ls (.int r :: S))) : own_G p e below Φ T (mkF m pc Ls (.int b :: .int a :: S)) := by
  obtain ⟨⟨locs, Y, N⟩, hh, hn, hx, hZ, hby, hml, hown, hnm, hret, hlk⟩ := X
  subst hpc
  exact own_by K fun t kk => XS.ishl Y.here hx rfl (hb hby hd) rfl (hr ▸ kk)
theorem own_ishr (X : own_S Z n0 bytes y ml ret p l e R s m args below meth c T k sl h) {a r : Int32} {b : Int32} (hd : decode bytes pc = .ok (.ishr, 1)) (hpc : pc + 1 = pc') (hr : (a >>> (b &&& 31)) = r) (K : own_G p e below Φ T (mkF m pc' Ls (.int r :: S))) : own_G p e below Φ T (mkF m pc Ls (.int b :: .int a :: S)) := by
  obtain ⟨⟨locs, Y, N⟩, hh, hn, hx, hZ, hby, hml, hown, hnm, hret, hlk⟩ := X
  subst hpc
  exact own_by K fun t kk => XS.ishr Y.here hx rfl (hb hby hd) rfl (hr ▸ kk)
theorem own_iushr (X : own_S Z n0 bytes y ml ret p l e R s m args below meth c T k sl h) {a r : Int32} {b : Int32} (hd : decode bytes pc = .ok (.iushr, 1)) (hpc : pc + 1 = pc') (hr : ((a.toUInt32 >>> (b &&& 31).toUInt32).toInt32) = r) (K : own_G p e below Φ T (mkF m pc' Ls (.int r :: S))) : own_G p e below Φ T (mkF m pc Ls (.int b :: .int a :: S)) := by
  obtain ⟨⟨locs, Y, N⟩, hh, hn, hx, hZ, hby, hml, hown, hnm, hret, hlk⟩ := X
  subst hpc
  exact own_by K fun t kk => XS.iushr Y.here hx rfl (hb hby hd) rfl (hr ▸ kk)
theorem own_lshl (X : own_S Z n0 bytes y ml ret p l e R s m args below meth c T k sl h) {a r : Int64} {b : Int32} (hd : decode bytes pc = .ok (.lshl, 1)) (hpc : pc + 1 = pc') (hr : (a <<< (b &&& 0x3f).toInt64) = r) (K : own_G p e below Φ T (mkF m pc' Ls (.long r :: S))) : own_G p e below Φ T (mkF m pc Ls (.int b :: .long a :: S)) := by
  obtain ⟨⟨locs, Y, N⟩, hh, hn, hx, hZ, hby, hml, hown, hnm, hret, hlk⟩ := X
  subst hpc
  exact own_by K fun t kk => XS.lshl Y.here hx rfl (hb hby hd) rfl (hr ▸ kk)
theorem own_lshr (X : own_S Z n0 bytes y ml ret p l e R s m args below meth c T k sl h) {a r : Int64} {b : Int32} (hd : decode bytes pc = .ok (.lshr, 1)) (hpc : pc + 1 = pc') (hr : (a >>> (b &&& 0x3f).toInt64) = r) (K : own_G p e below Φ T (mkF m pc' Ls (.long r :: S))) : own_G p e below Φ T (mkF m pc Ls (.int b :: .long a :: S)) := by
  obtain ⟨⟨locs, Y, N⟩, hh, hn, hx, hZ, hby, hml, hown, hnm, hret, hlk⟩ := X
  subst hpc
  exact own_by K fun t kk => XS.lshr Y.here hx rfl (hb hby hd) rfl (hr ▸ kk)
theorem own_lushr (X : own_S Z n0 bytes y ml ret p l e R s m args below meth c T k sl h) {a r : Int64} {b : Int32} (hd : decode bytes pc = .ok (.lushr, 1)) (hpc : pc + 1 = pc') (hr : ((a.toUInt64 >>> (b &&& 0x3f).toInt64.toUInt64).toInt64) = r) (K : own_G p e below Φ T (mkF m pc' Ls (.long r :: S))) : own_G p e below Φ T (mkF m pc Ls (.int b :: .long a :: S)) := by
  obtain ⟨⟨locs, Y, N⟩, hh, hn, hx, hZ, hby, hml, hown, hnm, hret, hlk⟩ := X
  subst hpc
  exact own_by K fun t kk => XS.lushr Y.here hx rfl (hb hby hd) rfl (hr ▸ kk)
theorem own_idiv (X : own_S Z n0 bytes y ml ret p l e R s m args below meth c T k sl h) {a b r : Int32} (hd : decode bytes pc = .ok (.idiv, 1)) (hpc : pc + 1 = pc') (hz : b ≠ 0) (hr : a / b = r) (K : own_G p e below Φ T (mkF m pc' Ls (.int r :: S))) : own_G p e below Φ T (mkF m pc Ls (.int b :: .int a :: S)) := by
  obtain ⟨⟨locs, Y, N⟩, hh, hn, hx, hZ, hby, hml, hown, hnm, hret, hlk⟩ := X
  subst hpc
  exact own_by K fun t kk => XS.idiv Y.here hx rfl (hb hby hd) rfl hz (hr ▸ kk)
theorem own_irem (X : own_S Z n0 bytes y ml ret p l e R s m args below meth c T k sl h) {a b r : Int32} (hd : decode bytes pc = .ok (.irem, 1)) (hpc : pc + 1 = pc') (hz : b ≠ 0) (hr : a - (a / b) * b = r) (K : own_G p e below Φ T (mkF m pc' Ls (.int r :: S))) : own_G p e below Φ T (mkF m pc Ls (.int b :: .int a :: S)) := by
  obtain ⟨⟨locs, Y, N⟩, hh, hn, hx, hZ, hby, hml, hown, hnm, hret, hlk⟩ := X
  subst hpc
  exact own_by K fun t kk => XS.irem Y.here hx rfl (hb hby hd) rfl hz (hr ▸ kk)
theorem own_ldiv (X : own_S Z n0 bytes y ml ret p l e R s m args below meth c T k sl h) {a b r : Int64} (hd : decode bytes pc = .ok (.ldiv, 1)) (hpc : pc + 1 = pc') (hz : b ≠ 0) (hr : a / b = r) (K : own_G p e below Φ T (mkF m pc' Ls (.long r :: S))) : own_G p e below Φ T (mkF m pc Ls (.long b :: .long a :: S)) := by
  obtain ⟨⟨locs, Y, N⟩, hh, hn, hx, hZ, hby, hml, hown, hnm, hret, hlk⟩ := X
  subst hpc
  exact own_by K fun t kk => XS.ldiv Y.here hx rfl (hb hby hd) rfl hz (hr ▸ kk)
theorem own_lrem (X : own_S Z n0 bytes y ml ret p l e R s m args below meth c T k sl h) {a b r : Int64} (hd : decode bytes pc = .ok (.lrem, 1)) (hpc : pc + 1 = pc') (hz : b ≠ 0) (hr : a - (a / b) * b = r) (K : own_G p e below Φ T (mkF m pc' Ls (.long r :: S))) : own_G p e below Φ T (mkF m pc Ls (.long b :: .long a :: S)) := by
  obtain ⟨⟨locs, Y, N⟩, hh, hn, hx, hZ, hby, hml, hown, hnm, hret, hlk⟩ := X
  subst hpc
  exact own_by K fun t kk => XS.lrem Y.here hx rfl (hb hby hd) rfl hz (hr ▸ kk)
theorem own_ineg (X : own_S Z n0 bytes y ml ret p l e R s m args below meth c T k sl h) {a : Int32} {r : Int32} (hd : decode bytes pc = .ok (.ineg, 1)) (hpc : pc + 1 = pc') (hr : -a = r) (K : own_G p e below Φ T (mkF m pc' Ls (.int r :: S))) : own_G p e below Φ T (mkF m pc Ls (.int a :: S)) := by
  obtain ⟨⟨locs, Y, N⟩, hh, hn, hx, hZ, hby, hml, hown, hnm, hret, hlk⟩ := X
  subst hpc
  exact own_by K fun t kk => XS.ineg Y.here hx rfl (hb hby hd) rfl (hr ▸ kk)
theorem own_lneg (X : own_S Z n0 bytes y ml ret p l e R s m args below meth c T k sl h) {a : Int64} {r : Int64} (hd : decode bytes pc = .ok (.lneg, 1)) (hpc : pc + 1 = pc') (hr : -a = r) (K : own_G p e below Φ T (mkF m pc' Ls (.long r :: S))) : own_G p e below Φ T (mkF m pc Ls (.long a :: S)) := by
  obtain ⟨⟨locs, Y, N⟩, hh, hn, hx, hZ, hby, hml, hown, hnm, hret, hlk⟩ := X
  subst hpc
  exact own_by K fun t kk => XS.lneg Y.here hx rfl (hb hby hd) rfl (hr ▸ kk)
theorem own_i2l (X : own_S Z n0 bytes y ml ret p l e R s m args below meth c T k sl h) {a : Int32} {r : Int64} (hd : decode bytes pc = .ok (.i2l, 1)) (hpc : pc + 1 = pc') (hr : a.toInt64 = r) (K : own_G p e below Φ T (mkF m pc' Ls (.long r :: S))) : own_G p e below Φ T (mkF m pc Ls (.int a :: S)) := by
  obtain ⟨⟨locs, Y, N⟩, hh, hn, hx, hZ, hby, hml, hown, hnm, hret, hlk⟩ := X
  subst hpc
  exact own_by K fun t kk => XS.i2l Y.here hx rfl (hb hby hd) rfl (hr ▸ kk)
theorem own_l2i (X : own_S Z n0 bytes y ml ret p l e R s m args below meth c T k sl h) {a : Int64} {r : Int32} (hd : decode bytes pc = .ok (.l2i, 1)) (hpc : pc + 1 = pc') (hr : a.toInt32 = r) (K : own_G p e below Φ T (mkF m pc' Ls (.int r :: S))) : own_G p e below Φ T (mkF m pc Ls (.long a :: S)) := by
  obtain ⟨⟨locs, Y, N⟩, hh, hn, hx, hZ, hby, hml, hown, hnm, hret, hlk⟩ := X
  subst hpc
  exact own_by K fun t kk => XS.l2i Y.here hx rfl (hb hby hd) rfl (hr ▸ kk)
theorem own_i2b (X : own_S Z n0 bytes y ml ret p l e R s m args below meth c T k sl h) {a : Int32} {r : Int32} (hd : decode bytes pc = .ok (.i2b, 1)) (hpc : pc + 1 = pc') (hr : a.toInt8.toInt32 = r) (K : own_G p e below Φ T (mkF m pc' Ls (.int r :: S))) : own_G p e below Φ T (mkF m pc Ls (.int a :: S)) := by
  obtain ⟨⟨locs, Y, N⟩, hh, hn, hx, hZ, hby, hml, hown, hnm, hret, hlk⟩ := X
  subst hpc
  exact own_by K fun t kk => XS.i2b Y.here hx rfl (hb hby hd) rfl (hr ▸ kk)
theorem own_i2s (X : own_S Z n0 bytes y ml ret p l e R s m args below meth c T k sl h) {a : Int32} {r : Int32} (hd : decode bytes pc = .ok (.i2s, 1)) (hpc : pc + 1 = pc') (hr : a.toInt16.toInt32 = r) (K : own_G p e below Φ T (mkF m pc' Ls (.int r :: S))) : own_G p e below Φ T (mkF m pc Ls (.int a :: S)) := by
  obtain ⟨⟨locs, Y, N⟩, hh, hn, hx, hZ, hby, hml, hown, hnm, hret, hlk⟩ := X
  subst hpc
  exact own_by K fun t kk => XS.i2s Y.here hx rfl (hb hby hd) rfl (hr ▸ kk)
theorem own_i2c (X : own_S Z n0 bytes y ml ret p l e R s m args below meth c T k sl h) {a : Int32} {r : Int32} (hd : decode bytes pc = .ok (.i2c, 1)) (hpc : pc + 1 = pc') (hr : a.toUInt32.toUInt16.toUInt32.toInt32 = r) (K : own_G p e below Φ T (mkF m pc' Ls (.int r :: S))) : own_G p e below Φ T (mkF m pc Ls (.int a :: S)) := by
  obtain ⟨⟨locs, Y, N⟩, hh, hn, hx, hZ, hby, hml, hown, hnm, hret, hlk⟩ := X
  subst hpc
  exact own_by K fun t kk => XS.i2c Y.here hx rfl (hb hby hd) rfl (hr ▸ kk)
theorem own_lcmp (X : own_S Z n0 bytes y ml ret p l e R s m args below meth c T k sl h) {a b : Int64} (hd : decode bytes pc = .ok (.lcmp, 1)) (hpc : pc + 1 = pc') (K : own_G p e below Φ T (mkF m pc' Ls (.int (lcmpW a b) :: S))) : own_G p e below Φ T (mkF m pc Ls (.long b :: .long a :: S)) := by
  obtain ⟨⟨locs, Y, N⟩, hh, hn, hx, hZ, hby, hml, hown, hnm, hret, hlk⟩ := X
  subst hpc
  exact own_by K fun t kk => XS.lcmp Y.here hx rfl (hb hby hd) rfl kk
theorem own_iconst (X : own_S Z n0 bytes y ml ret p l e R s m args below meth c T k sl h) {i : Int} {v : Int32} (hd : decode bytes pc = .ok (.iconst i, 1)) (hpc : pc + 1 = pc') (hv : Int32.ofInt i = v) (K : own_G p e below Φ T (mkF m pc' Ls (.int v :: S))) : own_G p e below Φ T (mkF m pc Ls (S)) := by
  obtain ⟨⟨locs, Y, N⟩, hh, hn, hx, hZ, hby, hml, hown, hnm, hret, hlk⟩ := X
  subst hpc
  exact own_by K fun t kk => XS.iconst Y.here hx rfl (hb hby hd) (hv ▸ kk)
theorem own_bipush (X : own_S Z n0 bytes y ml ret p l e R s m args below meth c T k sl h) {i : Int} {v : Int32} (hd : decode bytes pc = .ok (.bipush i, 2)) (hpc : pc + 2 = pc') (hv : (Int8.ofInt i).toInt32 = v) (K : own_G p e below Φ T (mkF m pc' Ls (.int v :: S))) : own_G p e below Φ T (mkF m pc Ls (S)) := by
  obtain ⟨⟨locs, Y, N⟩, hh, hn, hx, hZ, hby, hml, hown, hnm, hret, hlk⟩ := X
  subst hpc
  exact own_by K fun t kk => XS.bipush Y.here hx rfl (hb hby hd) (hv ▸ kk)
theorem own_sipush (X : own_S Z n0 bytes y ml ret p l e R s m args below meth c T k sl h) {i : Int} {v : Int32} (hd : decode bytes pc = .ok (.sipush i, 3)) (hpc : pc + 3 = pc') (hv : (Int16.ofInt i).toInt32 = v) (K : own_G p e below Φ T (mkF m pc' Ls (.int v :: S))) : own_G p e below Φ T (mkF m pc Ls (S)) := by
  obtain ⟨⟨locs, Y, N⟩, hh, hn, hx, hZ, hby, hml, hown, hnm, hret, hlk⟩ := X
  subst hpc
  exact own_by K fun t kk => XS.sipush Y.here hx rfl (hb hby hd) (hv ▸ kk)
theorem own_lconst (X : own_S Z n0 bytes y ml ret p l e R s m args below meth c T k sl h) {i : Fin 2} {v : Int64} (hd : decode bytes pc = .ok (.lconst i, 1)) (hpc : pc + 1 = pc') (hv : Int64.ofNat i = v) (K : own_G p e below Φ T (mkF m pc' Ls (.long v :: S))) : own_G p e below Φ T (mkF m pc Ls (S)) := by
  obtain ⟨⟨locs, Y, N⟩, hh, hn, hx, hZ, hby, hml, hown, hnm, hret, hlk⟩ := X
  subst hpc
  exact own_by K fun t kk => XS.lconst Y.here hx rfl (hb hby hd) (hv ▸ kk)
theorem own_aconst_null (X : own_S Z n0 bytes y ml ret p l e R s m args below meth c T k sl h) (hd : decode bytes pc = .ok (.aconst_null, 1)) (hpc : pc + 1 = pc') (K : own_G p e below Φ T (mkF m pc' Ls (.null :: S))) : own_G p e below Φ T (mkF m pc Ls (S)) := by
  obtain ⟨⟨locs, Y, N⟩, hh, hn, hx, hZ, hby, hml, hown, hnm, hret, hlk⟩ := X
  subst hpc
  exact own_by K fun t kk => XS.aconstNull Y.here hx rfl (hb hby hd) kk
theorem own_iload (X : own_S Z n0 bytes y ml ret p l e R s m args below meth c T k sl h) {i : Nat} {v : Int32} (hd : decode bytes pc = .ok (.iload i, 2)) (hpc : pc + 2 = pc') (hl : Ls[i]? = some (.val (.int v))) (K : own_G p e below Φ T (mkF m pc' Ls (.int v :: S))) : own_G p e below Φ T (mkF m pc Ls (S)) := by
  obtain ⟨⟨locs, Y, N⟩, hh, hn, hx, hZ, hby, hml, hown, hnm, hret, hlk⟩ := X
  subst hpc
  exact own_by K fun t kk => XS.iload Y.here hx rfl (hb hby hd) hl kk
theorem own_iloadN (X : own_S Z n0 bytes y ml ret p l e R s m args below meth c T k sl h) {i : Fin 4} {v : Int32} (hd : decode bytes pc = .ok (.iload_n i, 1)) (hpc : pc + 1 = pc') (hl : Ls[i.val]? = some (.val (.int v))) (K : own_G p e below Φ T (mkF m pc' Ls (.int v :: S))) : own_G p e below Φ T (mkF m pc Ls (S)) := by
  obtain ⟨⟨locs, Y, N⟩, hh, hn, hx, hZ, hby, hml, hown, hnm, hret, hlk⟩ := X
  subst hpc
  exact own_by K fun t kk => XS.iloadN Y.here hx rfl (hb hby hd) hl kk
theorem own_lload (X : own_S Z n0 bytes y ml ret p l e R s m args below meth c T k sl h) {i : Nat} {v : Int64} (hd : decode bytes pc = .ok (.lload i, 2)) (hpc : pc + 2 = pc') (hl : Ls[i]? = some (.val (.long v))) (K : own_G p e below Φ T (mkF m pc' Ls (.long v :: S))) : own_G p e below Φ T (mkF m pc Ls (S)) := by
  obtain ⟨⟨locs, Y, N⟩, hh, hn, hx, hZ, hby, hml, hown, hnm, hret, hlk⟩ := X
  subst hpc
  exact own_by K fun t kk => XS.lload Y.here hx rfl (hb hby hd) hl kk
theorem own_lloadN (X : own_S Z n0 bytes y ml ret p l e R s m args below meth c T k sl h) {i : Fin 4} {v : Int64} (hd : decode bytes pc = .ok (.lload_n i, 1)) (hpc : pc + 1 = pc') (hl : Ls[i.val]? = some (.val (.long v))) (K : own_G p e below Φ T (mkF m pc' Ls (.long v :: S))) : own_G p e below Φ T (mkF m pc Ls (S)) := by
  obtain ⟨⟨locs, Y, N⟩, hh, hn, hx, hZ, hby, hml, hown, hnm, hret, hlk⟩ := X
  subst hpc
  exact own_by K fun t kk => XS.lloadN Y.here hx rfl (hb hby hd) hl kk
theorem own_aload (X : own_S Z n0 bytes y ml ret p l e R s m args below meth c T k sl h) {i : Nat} {v : Value} (hd : decode bytes pc = .ok (.aload i, 2)) (hpc : pc + 2 = pc') (hl : Ls[i]? = some (.val v)) (hv : v.isRef = true) (K : own_G p e below Φ T (mkF m pc' Ls (v :: S))) : own_G p e below Φ T (mkF m pc Ls (S)) := by
  obtain ⟨⟨locs, Y, N⟩, hh, hn, hx, hZ, hby, hml, hown, hnm, hret, hlk⟩ := X
  subst hpc
  exact own_by K fun t kk => XS.aload Y.here hx rfl (hb hby hd) hl hv kk
theorem own_aloadN (X : own_S Z n0 bytes y ml ret p l e R s m args below meth c T k sl h) {i : Fin 4} {v : Value} (hd : decode bytes pc = .ok (.aload_n i, 1)) (hpc : pc + 1 = pc') (hl : Ls[i.val]? = some (.val v)) (hv : v.isRef = true) (K : own_G p e below Φ T (mkF m pc' Ls (v :: S))) : own_G p e below Φ T (mkF m pc Ls (S)) := by
  obtain ⟨⟨locs, Y, N⟩, hh, hn, hx, hZ, hby, hml, hown, hnm, hret, hlk⟩ := X
  subst hpc
  exact own_by K fun t kk => XS.aloadN Y.here hx rfl (hb hby hd) hl hv kk
theorem own_dup (X : own_S Z n0 bytes y ml ret p l e R s m args below meth c T k sl h) {v : Value} (hd : decode bytes pc = .ok (.dup, 1)) (hpc : pc + 1 = pc') (hv : v.category = 1) (K : own_G p e below Φ T (mkF m pc' Ls (v :: v :: S))) : own_G p e below Φ T (mkF m pc Ls (v :: S)) := by
  obtain ⟨⟨locs, Y, N⟩, hh, hn, hx, hZ, hby, hml, hown, hnm, hret, hlk⟩ := X
  subst hpc
  exact own_by K fun t kk => XS.dup Y.here hx rfl (hb hby hd) rfl hv kk
theorem own_dup2 (X : own_S Z n0 bytes y ml ret p l e R s m args below meth c T k sl h) {v w : Value} (hd : decode bytes pc = .ok (.dup2, 1)) (hpc : pc + 1 = pc') (hv : v.category = 1) (hw : w.category = 1) (K : own_G p e below Φ T (mkF m pc' Ls (v :: w :: v :: w :: S))) : own_G p e below Φ T (mkF m pc Ls (v :: w :: S)) := by
  obtain ⟨⟨locs, Y, N⟩, hh, hn, hx, hZ, hby, hml, hown, hnm, hret, hlk⟩ := X
  subst hpc
  exact own_by K fun t kk => XT.dup2 Y.here hx rfl (hb hby hd) rfl hv hw kk
theorem own_pop (X : own_S Z n0 bytes y ml ret p l e R s m args below meth c T k sl h) {v : Value} (hd : decode bytes pc = .ok (.pop, 1)) (hpc : pc + 1 = pc') (hv : v.category = 1) (K : own_G p e below Φ T (mkF m pc' Ls (S))) : own_G p e below Φ T (mkF m pc Ls (v :: S)) := by
  obtain ⟨⟨locs, Y, N⟩, hh, hn, hx, hZ, hby, hml, hown, hnm, hret, hlk⟩ := X
  subst hpc
  exact own_by K fun t kk => XS.pop Y.here hx rfl (hb hby hd) rfl hv kk
theorem own_istore (X : own_S Z n0 bytes y ml ret p l e R s m args below meth c T k sl h) {i : Nat} {v : Int32} (hd : decode bytes pc = .ok (.istore i, 2)) (hpc : pc + 2 = pc') (hl : storeLocals Ls i (.int v) = some Ls') (K : own_G p e below Φ T (mkF m pc' Ls' S)) : own_G p e below Φ T (mkF m pc Ls (.int v :: S)) := by
  obtain ⟨⟨locs, Y, N⟩, hh, hn, hx, hZ, hby, hml, hown, hnm, hret, hlk⟩ := X
  subst hpc
  exact own_by K fun t kk => XS.istore Y.here hx rfl (hb hby hd) rfl hl kk
theorem own_istoreN (X : own_S Z n0 bytes y ml ret p l e R s m args below meth c T k sl h) {i : Fin 4} {v : Int32} (hd : decode bytes pc = .ok (.istore_n i, 1)) (hpc : pc + 1 = pc') (hl : storeLocals Ls i.val (.int v) = some Ls') (K : own_G p e below Φ T (mkF m pc' Ls' S)) : own_G p e below Φ T (mkF m pc Ls (.int v :: S)) := by
  obtain ⟨⟨locs, Y, N⟩, hh, hn, hx, hZ, hby, hml, hown, hnm, hret, hlk⟩ := X
  subst hpc
  exact own_by K fun t kk => XS.istoreN Y.here hx rfl (hb hby hd) rfl hl kk
theorem own_lstore (X : own_S Z n0 bytes y ml ret p l e R s m args below meth c T k sl h) {i : Nat} {v : Int64} (hd : decode bytes pc = .ok (.lstore i, 2)) (hpc : pc + 2 = pc') (hl : storeLocals Ls i (.long v) = some Ls') (K : own_G p e below Φ T (mkF m pc' Ls' S)) : own_G p e below Φ T (mkF m pc Ls (.long v :: S)) := by
  obtain ⟨⟨locs, Y, N⟩, hh, hn, hx, hZ, hby, hml, hown, hnm, hret, hlk⟩ := X
  subst hpc
  exact own_by K fun t kk => XS.lstore Y.here hx rfl (hb hby hd) rfl hl kk
theorem own_lstoreN (X : own_S Z n0 bytes y ml ret p l e R s m args below meth c T k sl h) {i : Fin 4} {v : Int64} (hd : decode bytes pc = .ok (.lstore_n i, 1)) (hpc : pc + 1 = pc') (hl : storeLocals Ls i.val (.long v) = some Ls') (K : own_G p e below Φ T (mkF m pc' Ls' S)) : own_G p e below Φ T (mkF m pc Ls (.long v :: S)) := by
  obtain ⟨⟨locs, Y, N⟩, hh, hn, hx, hZ, hby, hml, hown, hnm, hret, hlk⟩ := X
  subst hpc
  exact own_by K fun t kk => XS.lstoreN Y.here hx rfl (hb hby hd) rfl hl kk
theorem own_astore (X : own_S Z n0 bytes y ml ret p l e R s m args below meth c T k sl h) {i : Nat} {v : Value} (hd : decode bytes pc = .ok (.astore i, 2)) (hpc : pc + 2 = pc') (hv : v.isRef = true) (hl : storeLocals Ls i (v) = some Ls') (K : own_G p e below Φ T (mkF m pc' Ls' S)) : own_G p e below Φ T (mkF m pc Ls (v :: S)) := by
  obtain ⟨⟨locs, Y, N⟩, hh, hn, hx, hZ, hby, hml, hown, hnm, hret, hlk⟩ := X
  subst hpc
  exact own_by K fun t kk => XS.astore Y.here hx rfl (hb hby hd) rfl hv hl kk
theorem own_astoreN (X : own_S Z n0 bytes y ml ret p l e R s m args below meth c T k sl h) {i : Fin 4} {v : Value} (hd : decode bytes pc = .ok (.astore_n i, 1)) (hpc : pc + 1 = pc') (hv : v.isRef = true) (hl : storeLocals Ls i.val (v) = some Ls') (K : own_G p e below Φ T (mkF m pc' Ls' S)) : own_G p e below Φ T (mkF m pc Ls (v :: S)) := by
  obtain ⟨⟨locs, Y, N⟩, hh, hn, hx, hZ, hby, hml, hown, hnm, hret, hlk⟩ := X
  subst hpc
  exact own_by K fun t kk => XS.astoreN Y.here hx rfl (hb hby hd) rfl hv hl kk
theorem own_iinc (X : own_S Z n0 bytes y ml ret p l e R s m args below meth c T k sl h) {i : Nat} {cst : Int} {v : Int32} (hd : decode bytes pc = .ok (.iinc i cst, 3)) (hpc : pc + 3 = pc') (hl : Ls[i]? = some (.val (.int v))) {w : Int32} (hw : v + Int32.ofInt cst = w) (hs : storeLocals Ls i (.int w) = some Ls') (K : own_G p e below Φ T (mkF m pc' Ls' S)) : own_G p e below Φ T (mkF m pc Ls S) := by
  obtain ⟨⟨locs, Y, N⟩, hh, hn, hx, hZ, hby, hml, hown, hnm, hret, hlk⟩ := X
  subst hpc
  exact own_by K fun t kk => XS.iinc Y.here hx rfl (hb hby hd) hl (hw ▸ hs) kk
theorem own_goto (X : own_S Z n0 bytes y ml ret p l e R s m args below meth c T k sl h) {o : Int} (hd : decode bytes pc = .ok (.goto o, 3)) (ho : 0 ≤ (pc : Int) + o) (hp : ((pc : Int) + o).toNat = pc') (K : own_G p e below Φ T (mkF m pc' Ls S)) : own_G p e below Φ T (mkF m pc Ls S) := by
  obtain ⟨⟨locs, Y, N⟩, hh, hn, hx, hZ, hby, hml, hown, hnm, hret, hlk⟩ := X
  exact own_by K fun t kk => XS.goto Y.here hx rfl rfl (hb hby hd) ho hp kk
theorem own_icmp_eq (X : own_S Z n0 bytes y ml ret p l e R s m args below meth c T k sl h) {o : Int} {a b : Int32} {pct : Nat} (hd : decode bytes pc = .ok (.if_icmp .eq o, 3)) (hpc : pc + 3 = pc') (ho : 0 ≤ (pc : Int) + o) (hp : ((pc : Int) + o).toNat = pct) (Ky : a = b → own_G p e below Φ T (mkF m pct Ls S)) (Kn : ¬ a = b → own_G p e below Φ T (mkF m pc' Ls S)) : own_G p e below Φ T (mkF m pc Ls (.int b :: .int a :: S)) := by
  obtain ⟨⟨locs, Y, N⟩, hh, hn, hx, hZ, hby, hml, hown, hnm, hret, hlk⟩ := X
  subst hpc
  by_cases hc : a = b
  · exact own_by (Ky hc) fun t kk => XS.icmpYes Y.here hx rfl rfl (hb hby hd) rfl (teq hc).1 ho hp kk
  · exact own_by (Kn hc) fun t kk => XS.icmpNo Y.here hx rfl (hb hby hd) rfl (feq hc).1 kk
theorem own_if_eq (X : own_S Z n0 bytes y ml ret p l e R s m args below meth c T k sl h) {o : Int} {a : Int32} {pct : Nat} (hd : decode bytes pc = .ok (.ifCond .eq o, 3)) (hpc : pc + 3 = pc') (ho : 0 ≤ (pc : Int) + o) (hp : ((pc : Int) + o).toNat = pct) (Ky : a = 0 → own_G p e below Φ T (mkF m pct Ls S)) (Kn : ¬ a = 0 → own_G p e below Φ T (mkF m pc' Ls S)) : own_G p e below Φ T (mkF m pc Ls (.int a :: S)) := by
  obtain ⟨⟨locs, Y, N⟩, hh, hn, hx, hZ, hby, hml, hown, hnm, hret, hlk⟩ := X
  subst hpc
  by_cases hc : a = 0
  · exact own_by (Ky hc) fun t kk => XS.ifYes Y.here hx rfl rfl (hb hby hd) rfl ((if0 _ _).trans (teq hc).1) ho hp kk
  · exact own_by (Kn hc) fun t kk => XS.ifNo Y.here hx rfl (hb hby hd) rfl ((if0 _ _).trans (feq hc).1) kk
theorem own_icmp_ne (X : own_S Z n0 bytes y ml ret p l e R s m args below meth c T k sl h) {o : Int} {a b : Int32} {pct : Nat} (hd : decode bytes pc = .ok (.if_icmp .ne o, 3)) (hpc : pc + 3 = pc') (ho : 0 ≤ (pc : Int) + o) (hp : ((pc : Int) + o).toNat = pct) (Ky : ¬ a = b → own_G p e below Φ T (mkF m pct Ls S)) (Kn : a = b → own_G p e below Φ T (mkF m pc' Ls S)) : own_G p e below Φ T (mkF m pc Ls (.int b :: .int a :: S)) := by
  obtain ⟨⟨locs, Y, N⟩, hh, hn, hx, hZ, hby, hml, hown, hnm, hret, hlk⟩ := X
  subst hpc
  by_cases hc : ¬ a = b
  · exact own_by (Ky hc) fun t kk => XS.icmpYes Y.here hx rfl rfl (hb hby hd) rfl (feq hc).2 ho hp kk
  · replace hc := Decidable.not_not.mp hc; exact own_by (Kn hc) fun t kk => XS.icmpNo Y.here hx rfl (hb hby hd) rfl (teq hc).2 kk
theorem own_if_ne (X : own_S Z n0 bytes y ml ret p l e R s m args below meth c T k sl h) {o : Int} {a : Int32} {pct : Nat} (hd : decode bytes pc = .ok (.ifCond .ne o, 3)) (hpc : pc + 3 = pc') (ho : 0 ≤ (pc : Int) + o) (hp : ((pc : Int) + o).toNat = pct) (Ky : ¬ a = 0 → own_G p e below Φ T (mkF m pct Ls S)) (Kn : a = 0 → own_G p e below Φ T (mkF m pc' Ls S)) : own_G p e below Φ T (mkF m pc Ls (.int a :: S)) := by
  obtain ⟨⟨locs, Y, N⟩, hh, hn, hx, hZ, hby, hml, hown, hnm, hret, hlk⟩ := X
  subst hpc
  by_cases hc : ¬ a = 0
  · exact own_by (Ky hc) fun t kk => XS.ifYes Y.here hx rfl rfl (hb hby hd) rfl ((if0 _ _).trans (feq hc).2) ho hp kk
  · replace hc := Decidable.not_not.mp hc; exact own_by (Kn hc) fun t kk => XS.ifNo Y.here hx rfl (hb hby hd) rfl ((if0 _ _).trans (teq hc).2) kk
theorem own_icmp_lt (X : own_S Z n0 bytes y ml ret p l e R s m args below meth c T k sl h) {o : Int} {a b : Int32} {pct : Nat} (hd : decode bytes pc = .ok (.if_icmp .lt o, 3)) (hpc : pc + 3 = pc') (ho : 0 ≤ (pc : Int) + o) (hp : ((pc : Int) + o).toNat = pct) (Ky : a < b → own_G p e below Φ T (mkF m pct Ls S)) (Kn : ¬ a < b → own_G p e below Φ T (mkF m pc' Ls S)) : own_G p e below Φ T (mkF m pc Ls (.int b :: .int a :: S)) := by
  obtain ⟨⟨locs, Y, N⟩, hh, hn, hx, hZ, hby, hml, hown, hnm, hret, hlk⟩ := X
  subst hpc
  by_cases hc : a < b
  · exact own_by (Ky hc) fun t kk => XS.icmpYes Y.here hx rfl rfl (hb hby hd) rfl (tlt hc).1 ho hp kk
  · exact own_by (Kn hc) fun t kk => XS.icmpNo Y.here hx rfl (hb hby hd) rfl (flt hc).1 kk
theorem own_if_lt (X : own_S Z n0 bytes y ml ret p l e R s m args below meth c T k sl h) {o : Int} {a : Int32} {pct : Nat} (hd : decode bytes pc = .ok (.ifCond .lt o, 3)) (hpc : pc + 3 = pc') (ho : 0 ≤ (pc : Int) + o) (hp : ((pc : Int) + o).toNat = pct) (Ky : a < 0 → own_G p e below Φ T (mkF m pct Ls S)) (Kn : ¬ a < 0 → own_G p e below Φ T (mkF m pc' Ls S)) : own_G p e below Φ T (mkF m pc Ls (.int a :: S)) := by
  obtain ⟨⟨locs, Y, N⟩, hh, hn, hx, hZ, hby, hml, hown, hnm, hret, hlk⟩ := X
  subst hpc
  by_cases hc : a < 0
  · exact own_by (Ky hc) fun t kk => XS.ifYes Y.here hx rfl rfl (hb hby hd) rfl ((if0 _ _).trans (tlt hc).1) ho hp kk
  · exact own_by (Kn hc) fun t kk => XS.ifNo Y.here hx rfl (hb hby hd) rfl ((if0 _ _).trans (flt hc).1) kk
theorem own_icmp_ge (X : own_S Z n0 bytes y ml ret p l e R s m args below meth c T k sl h) {o : Int} {a b : Int32} {pct : Nat} (hd : decode bytes pc = .ok (.if_icmp .ge o, 3)) (hpc : pc + 3 = pc') (ho : 0 ≤ (pc : Int) + o) (hp : ((pc : Int) + o).toNat = pct) (Ky : ¬ a < b → own_G p e below Φ T (mkF m pct Ls S)) (Kn : a < b → own_G p e below Φ T (mkF m pc' Ls S)) : own_G p e below Φ T (mkF m pc Ls (.int b :: .int a :: S)) := by
  obtain ⟨⟨locs, Y, N⟩, hh, hn, hx, hZ, hby, hml, hown, hnm, hret, hlk⟩ := X
  subst hpc
  by_cases hc : ¬ a < b
  · exact own_by (Ky hc) fun t kk => XS.icmpYes Y.here hx rfl rfl (hb hby hd) rfl (flt hc).2.1 ho hp kk
  · replace hc := Decidable.not_not.mp hc; exact own_by (Kn hc) fun t kk => XS.icmpNo Y.here hx rfl (hb hby hd) rfl (tlt hc).2.1 kk
theorem own_if_ge (X : own_S Z n0 bytes y ml ret p l e R s m args below meth c T k sl h) {o : Int} {a : Int32} {pct : Nat} (hd : decode bytes pc = .ok (.ifCond .ge o, 3)) (hpc : pc + 3 = pc') (ho : 0 ≤ (pc : Int) + o) (hp : ((pc : Int) + o).toNat = pct) (Ky : ¬ a < 0 → own_G p e below Φ T (mkF m pct Ls S)) (Kn : a < 0 → own_G p e below Φ T (mkF m pc' Ls S)) : own_G p e below Φ T (mkF m pc Ls (.int a :: S)) := by
  obtain ⟨⟨locs, Y, N⟩, hh, hn, hx, hZ, hby, hml, hown, hnm, hret, hlk⟩ := X
  subst hpc
  by_cases hc : ¬ a < 0
  · exact own_by (Ky hc) fun t kk => XS.ifYes Y.here hx rfl rfl (hb hby hd) rfl ((if0 _ _).trans (flt hc).2.1) ho hp kk
  · replace hc := Decidable.not_not.mp hc; exact own_by (Kn hc) fun t kk => XS.ifNo Y.here hx rfl (hb hby hd) rfl ((if0 _ _).trans (tlt hc).2.1) kk
theorem own_icmp_gt (X : own_S Z n0 bytes y ml ret p l e R s m args below meth c T k sl h) {o : Int} {a b : Int32} {pct : Nat} (hd : decode bytes pc = .ok (.if_icmp .gt o, 3)) (hpc : pc + 3 = pc') (ho : 0 ≤ (pc : Int) + o) (hp : ((pc : Int) + o).toNat = pct) (Ky : b < a → own_G p e below Φ T (mkF m pct Ls S)) (Kn : ¬ b < a → own_G p e below Φ T (mkF m pc' Ls S)) : own_G p e below Φ T (mkF m pc Ls (.int b :: .int a :: S)) := by
  obtain ⟨⟨locs, Y, N⟩, hh, hn, hx, hZ, hby, hml, hown, hnm, hret, hlk⟩ := X
  subst hpc
  by_cases hc : b < a
  · exact own_by (Ky hc) fun t kk => XS.icmpYes Y.here hx rfl rfl (hb hby hd) rfl (tlt hc).2.2.1 ho hp kk
  · exact own_by (Kn hc) fun t kk => XS.icmpNo Y.here hx rfl (hb hby hd) rfl (flt hc).2.2.1 kk
theorem own_if_gt (X : own_S Z n0 bytes y ml ret p l e R s m args below meth c T k sl h) {o : Int} {a : Int32} {pct : Nat} (hd : decode bytes pc = .ok (.ifCond .gt o, 3)) (hpc : pc + 3 = pc') (ho : 0 ≤ (pc : Int) + o) (hp : ((pc : Int) + o).toNat = pct) (Ky : 0 < a → own_G p e below Φ T (mkF m pct Ls S)) (Kn : ¬ 0 < a → own_G p e below Φ T (mkF m pc' Ls S)) : own_G p e below Φ T (mkF m pc Ls (.int a :: S)) := by
  obtain ⟨⟨locs, Y, N⟩, hh, hn, hx, hZ, hby, hml, hown, hnm, hret, hlk⟩ := X
  subst hpc
  by_cases hc : 0 < a
  · exact own_by (Ky hc) fun t kk => XS.ifYes Y.here hx rfl rfl (hb hby hd) rfl ((if0 _ _).trans (tlt hc).2.2.1) ho hp kk
  · exact own_by (Kn hc) fun t kk => XS.ifNo Y.here hx rfl (hb hby hd) rfl ((if0 _ _).trans (flt hc).2.2.1) kk
theorem own_icmp_le (X : own_S Z n0 bytes y ml ret p l e R s m args below meth c T k sl h) {o : Int} {a b : Int32} {pct : Nat} (hd : decode bytes pc = .ok (.if_icmp .le o, 3)) (hpc : pc + 3 = pc') (ho : 0 ≤ (pc : Int) + o) (hp : ((pc : Int) + o).toNat = pct) (Ky : ¬ b < a → own_G p e below Φ T (mkF m pct Ls S)) (Kn : b < a → own_G p e below Φ T (mkF m pc' Ls S)) : own_G p e below Φ T (mkF m pc Ls (.int b :: .int a :: S)) := by
  obtain ⟨⟨locs, Y, N⟩, hh, hn, hx, hZ, hby, hml, hown, hnm, hret, hlk⟩ := X
  subst hpc
  by_cases hc : ¬ b < a
  · exact own_by (Ky hc) fun t kk => XS.icmpYes Y.here hx rfl rfl (hb hby hd) rfl (flt hc).2.2.2 ho hp kk
  · replace hc := Decidable.not_not.mp hc; exact own_by (Kn hc) fun t kk => XS.icmpNo Y.here hx rfl (hb hby hd) rfl (tlt hc).2.2.2 kk
theorem own_if_le (X : own_S Z n0 bytes y ml ret p l e R s m args below meth c T k sl h) {o : Int} {a : Int32} {pct : Nat} (hd : decode bytes pc = .ok (.ifCond .le o, 3)) (hpc : pc + 3 = pc') (ho : 0 ≤ (pc : Int) + o) (hp : ((pc : Int) + o).toNat = pct) (Ky : ¬ 0 < a → own_G p e below Φ T (mkF m pct Ls S)) (Kn : 0 < a → own_G p e below Φ T (mkF m pc' Ls S)) : own_G p e below Φ T (mkF m pc Ls (.int a :: S)) := by
  obtain ⟨⟨locs, Y, N⟩, hh, hn, hx, hZ, hby, hml, hown, hnm, hret, hlk⟩ := X
  subst hpc
  by_cases hc : ¬ 0 < a
  · exact own_by (Ky hc) fun t kk => XS.ifYes Y.here hx rfl rfl (hb hby hd) rfl ((if0 _ _).trans (flt hc).2.2.2) ho hp kk
  · replace hc := Decidable.not_not.mp hc; exact own_by (Kn hc) fun t kk => XS.ifNo Y.here hx rfl (hb hby hd) rfl ((if0 _ _).trans (tlt hc).2.2.2) kk
theorem own_ifl_eq (X : own_S Z n0 bytes y ml ret p l e R s m args below meth c T k sl h) {o : Int} {a b : Int64} {pct : Nat} (hd : decode bytes pc = .ok (.ifCond .eq o, 3)) (hpc : pc + 3 = pc') (ho : 0 ≤ (pc : Int) + o) (hp : ((pc : Int) + o).toNat = pct) (Ky : a = b → own_G p e below Φ T (mkF m pct Ls S)) (Kn : ¬ a = b → own_G p e below Φ T (mkF m pc' Ls S)) : own_G p e below Φ T (mkF m pc Ls (.int (lcmpW a b) :: S)) :=
  own_if_eq X hd hpc ho hp (fun q => Ky ((lw_eq a b).mp q)) (fun q => Kn (fun r => q ((lw_eq a b).mpr r)))
theorem own_ifl_ne (X : own_S Z n0 bytes y ml ret p l e R s m args below meth c T k sl h) {o : Int} {a b : Int64} {pct : Nat} (hd : decode bytes pc = .ok (.ifCond .ne o, 3)) (hpc : pc + 3 = pc') (ho : 0 ≤ (pc : Int) + o) (hp : ((pc : Int) + o).toNat = pct) (Ky : ¬ a = b → own_G p e below Φ T (mkF m pct Ls S)) (Kn : a = b → own_G p e below Φ T (mkF m pc' Ls S)) : own_G p e below Φ T (mkF m pc Ls (.int (lcmpW a b) :: S)) :=
  own_if_ne X hd hpc ho hp (fun q => Ky (fun r => q ((lw_eq a b).mpr r))) (fun q => Kn ((lw_eq a b).mp q))
theorem own_ifl_lt (X : own_S Z n0 bytes y ml ret p l e R s m args below meth c T k sl h) {o : Int} {a b : Int64} {pct : Nat} (hd : decode bytes pc = .ok (.ifCond .lt o, 3)) (hpc : pc + 3 = pc') (ho : 0 ≤ (pc : Int) + o) (hp : ((pc : Int) + o).toNat = pct) (Ky : a < b → own_G p e below Φ T (mkF m pct Ls S)) (Kn : ¬ a < b → own_G p e below Φ T (mkF m pc' Ls S)) : own_G p e below Φ T (mkF m pc Ls (.int (lcmpW a b) :: S)) :=
  own_if_lt X hd hpc ho hp (fun q => Ky ((lw_lt a b).mp q)) (fun q => Kn (fun r => q ((lw_lt a b).mpr r)))
theorem own_ifl_ge (X : own_S Z n0 bytes y ml ret p l e R s m args below meth c T k sl h) {o : Int} {a b : Int64} {pct : Nat} (hd : decode bytes pc = .ok (.ifCond .ge o, 3)) (hpc : pc + 3 = pc') (ho : 0 ≤ (pc : Int) + o) (hp : ((pc : Int) + o).toNat = pct) (Ky : ¬ a < b → own_G p e below Φ T (mkF m pct Ls S)) (Kn : a < b → own_G p e below Φ T (mkF m pc' Ls S)) : own_G p e below Φ T (mkF m pc Ls (.int (lcmpW a b) :: S)) :=
  own_if_ge X hd hpc ho hp (fun q => Ky (fun r => q ((lw_lt a b).mpr r))) (fun q => Kn ((lw_lt a b).mp q))
theorem own_ifl_gt (X : own_S Z n0 bytes y ml ret p l e R s m args below meth c T k sl h) {o : Int} {a b : Int64} {pct : Nat} (hd : decode bytes pc = .ok (.ifCond .gt o, 3)) (hpc : pc + 3 = pc') (ho : 0 ≤ (pc : Int) + o) (hp : ((pc : Int) + o).toNat = pct) (Ky : b < a → own_G p e below Φ T (mkF m pct Ls S)) (Kn : ¬ b < a → own_G p e below Φ T (mkF m pc' Ls S)) : own_G p e below Φ T (mkF m pc Ls (.int (lcmpW a b) :: S)) :=
  own_if_gt X hd hpc ho hp (fun q => Ky ((lw_gt a b).mp q)) (fun q => Kn (fun r => q ((lw_gt a b).mpr r)))
theorem own_ifl_le (X : own_S Z n0 bytes y ml ret p l e R s m args below meth c T k sl h) {o : Int} {a b : Int64} {pct : Nat} (hd : decode bytes pc = .ok (.ifCond .le o, 3)) (hpc : pc + 3 = pc') (ho : 0 ≤ (pc : Int) + o) (hp : ((pc : Int) + o).toNat = pct) (Ky : ¬ b < a → own_G p e below Φ T (mkF m pct Ls S)) (Kn : b < a → own_G p e below Φ T (mkF m pc' Ls S)) : own_G p e below Φ T (mkF m pc Ls (.int (lcmpW a b) :: S)) :=
  own_if_le X hd hpc ho hp (fun q => Ky (fun r => q ((lw_gt a b).mpr r))) (fun q => Kn ((lw_gt a b).mp q))
theorem own_ldc {i : Nat} {v : Int32} (X : own_S Z n0 bytes y ml ret p l e R s m args below meth c T k sl h) (hw : (Jvm.Cond.constant y.cls i v).before a0 Z = true) (hd : decode bytes pc = .ok (.ldc i, 2)) (hpc : pc + 2 = pc') (K : own_G p e below Φ T (mkF m pc' Ls (.int v :: S))) : own_G p e below Φ T (mkF m pc Ls S) := by
  obtain ⟨⟨locs, Y, N⟩, hh, hn, hx, hZ, hby, hml, hown, hnm, hret, hlk⟩ := X
  subst hpc
  exact own_by K fun t kk => Y.ldcInt hx hown (mvT hZ hw) (g := mkF m pc Ls S) rfl (hb hby hd) t kk
theorem own_ldc2 {i : Nat} {v : Int64} (X : own_S Z n0 bytes y ml ret p l e R s m args below meth c T k sl h) (hw : (Jvm.Cond.constantLong y.cls i v).before a0 Z = true) (hd : decode bytes pc = .ok (.ldc2_w i, 3)) (hpc : pc + 3 = pc') (K : own_G p e below Φ T (mkF m pc' Ls (.long v :: S))) : own_G p e below Φ T (mkF m pc Ls S) := by
  obtain ⟨⟨locs, Y, N⟩, hh, hn, hx, hZ, hby, hml, hown, hnm, hret, hlk⟩ := X
  subst hpc
  exact own_by K fun t kk => Y.ldc2Long hx hown (mvT hZ hw) (g := mkF m pc Ls S) rfl (hb hby hd) t kk
theorem own_ret {w' : Option Value} {Θ : Heap → Prop} {w : Value} {t : FieldType} {i : Instr} (X : own_S Z n0 bytes y ml (some t) p l e R s m args below meth c T k sl h)
    (hd : decode bytes pc = .ok (i, 1)) (hi : (i = .ireturn ∧ (t = .int ∨ t = .boolean ∨ t = .byte ∨ t = .char ∨ t = .short) ∧ ∃ z, w = .int z) ∨ (i = .lreturn ∧ t = .long ∧ ∃ z, w = .long z) ∨ (i = .dreturn ∧ t = .double ∧ ∃ z, w = .double z) ∨ (i = .freturn ∧ t = .float ∧ ∃ z, w = .float z) ∨ (i = .areturn ∧ t.isReference = true ∧ w.isRef = true))
    (hnw : narrow t w = w) (hk : k ≤ R.cells) (hs : sl ≤ R.slots) (hw : some w = w') (hΘ : Θ h) : own_G p e below (own_Q n0 below s R w' Θ) T (mkF m pc Ls (w :: S)) := by
  obtain ⟨⟨locs, Y, N⟩, hh, hn, hx, hZ, hby, hml, hown, hnm, hret, hlk⟩ := X
  obtain ⟨fs, hr, hrun, hended, hW, hsame⟩ := Y.leave (v := some w) (fun h => by rw [hret] at h; cases h) hlk
  refine ⟨_, _, retOut Y hx hret hnw hi (hb hby hd) hr, hrun, hended, _, _, rfl, ⟨⟨hw, ?_⟩, N⟩, ⟨_, rfl⟩, hW, hsame.mono hk hs⟩
  show Θ T.heap
  rw [hh]; exact hΘ
theorem own_retV {w' : Option Value} {Θ : Heap → Prop} (X : own_S Z n0 bytes y ml none p l e R s m args below meth c T k sl h)
    (hd : decode bytes pc = .ok (.return_, 1)) (hk : k ≤ R.cells) (hs : sl ≤ R.slots) (hw : none = w') (hΘ : Θ h) : own_G p e below (own_Q n0 below s R w' Θ) T (mkF m pc Ls []) := by
  obtain ⟨⟨locs, Y, N⟩, hh, hn, hx, hZ, hby, hml, hown, hnm, hret, hlk⟩ := X
  obtain ⟨fs, hr, hrun, hended, hW, hsame⟩ := Y.leave (v := none) (fun _ => rfl) hlk
  refine ⟨_, _, Y.returnOut hx hret (hb hby hd) hr, hrun, hended, _, _, rfl, ⟨⟨hw, ?_⟩, N⟩, ⟨_, rfl⟩, hW, hsame.mono hk hs⟩
  show Θ T.heap
  rw [hh]; exact hΘ
theorem own_retZ {w' : Option Value} {Θ : Heap → Prop} {z : Int32} (X : own_S Z n0 bytes y ml (some .boolean) p l e R s m args below meth c T k sl h) (hd : decode bytes pc = .ok (.ireturn, 1)) (hz : z &&& 1 = z) (hk : k ≤ R.cells) (hs : sl ≤ R.slots) (hw : some (.int z) = w') (hΘ : Θ h) : own_G p e below (own_Q n0 below s R w' Θ) T (mkF m pc Ls (.int z :: S)) :=
  own_ret X hd (Or.inl ⟨rfl, by simp, _, rfl⟩) (by simp [narrow, hz]) hk hs hw hΘ
theorem own_retI {w' : Option Value} {Θ : Heap → Prop} {z : Int32} (X : own_S Z n0 bytes y ml (some .int) p l e R s m args below meth c T k sl h) (hd : decode bytes pc = .ok (.ireturn, 1)) (hk : k ≤ R.cells) (hs : sl ≤ R.slots) (hw : some (.int z) = w') (hΘ : Θ h) : own_G p e below (own_Q n0 below s R w' Θ) T (mkF m pc Ls (.int z :: S)) :=
  own_ret X hd (Or.inl ⟨rfl, by simp, _, rfl⟩) rfl hk hs hw hΘ
theorem own_retB {w' : Option Value} {Θ : Heap → Prop} {z : Int32} (X : own_S Z n0 bytes y ml (some .byte) p l e R s m args below meth c T k sl h) (hd : decode bytes pc = .ok (.ireturn, 1)) (hz : z.toInt8.toInt32 = z) (hk : k ≤ R.cells) (hs : sl ≤ R.slots) (hw : some (.int z) = w') (hΘ : Θ h) : own_G p e below (own_Q n0 below s R w' Θ) T (mkF m pc Ls (.int z :: S)) :=
  own_ret X hd (Or.inl ⟨rfl, by simp, _, rfl⟩) (by simp [narrow, hz]) hk hs hw hΘ
theorem own_retL {w' : Option Value} {Θ : Heap → Prop} {z : Int64} (X : own_S Z n0 bytes y ml (some .long) p l e R s m args below meth c T k sl h) (hd : decode bytes pc = .ok (.lreturn, 1)) (hk : k ≤ R.cells) (hs : sl ≤ R.slots) (hw : some (.long z) = w') (hΘ : Θ h) : own_G p e below (own_Q n0 below s R w' Θ) T (mkF m pc Ls (.long z :: S)) :=
  own_ret X hd (Or.inr (Or.inl ⟨rfl, rfl, _, rfl⟩)) rfl hk hs hw hΘ
theorem own_callS {z : MethodName} {cb : ByteArray} {cml : Nat} {cret : Option FieldType} {crm : Room} {i : Nat} {argsL rest S' : List Value} {w : Option Value} {Θ : Heap → Prop} (X : own_S Z n0 bytes y ml ret p l e R s m args below meth c T k sl h) (M : own_Met l z cb cml cret crm Z n0 argsL.toArray h w Θ)
    (w1 : (Jvm.Cond.methodLink y.cls i z).before a0 Z = true) (w2 : (Jvm.Cond.static z).before a0 Z = true) (w3 : (Jvm.Cond.initialized z.cls).before a0 Z = true) (w4 : (Jvm.Cond.code z cb cml cret).before a0 Z = true) (hz : z.cls ≠ "java/lang/invoke/MethodHandle" ∧ z.cls ≠ "java/lang/invoke/VarHandle")
    {W : Nat} (hf : crm.frames + 1 ≤ R.frames) (hl : W + (cml + 11) + crm.locals ≤ R.locals) (hc0 : crm.cells = 0) (hs0 : crm.slots = 0) (hc : k ≤ R.cells) (hs : sl ≤ R.slots)
    (hlen : ∀ sig, parseMethodDescriptor z.desc = some sig → argsL.length = sig.parameters.length) (hst : S = argsL.reverse ++ rest) (hW : 2 * 0 + (rest.map fun v => v.category).sum ≤ W) (hsz : Ls.size = ml)
    (hd : decode bytes pc = .ok (.invokestatic i, 3)) (hpc : pc + 3 = pc')
    (hS' : w.toList ++ rest = S') (K : ∀ T' h', own_S Z n0 bytes y ml ret p l e R s m args below meth c T' k sl h' → Θ h' → own_G p e below Φ T' (mkF m pc' Ls S')) : own_G p e below Φ T (mkF m pc Ls S) := by
  obtain ⟨⟨locs, Y, N⟩, hh, hn, hx, hZ, hby, hml, hown, hnm, hret, hlk⟩ := X
  subst hpc
  obtain ⟨v, _, ⟨T', L', k', n'⟩, -, X', ⟨Lc, hQ, l1, y1, z1⟩, st⟩ := Jvm.LawKit.callS Y hx (y := z) hown (mvT hZ w1) (mvT hZ w2) (mvT hZ w3) (mvT hZ w4) hz (backOf (W := W) (Q := fun v h' L => (v = w ∧ Θ h') ∧ Fr n0 L) (M []) hZ w4 w3 hf hl) (g := mkF m pc Ls S) rfl (by rw [hml]; exact hsz) (argsL := argsL) (rest := rest) hlen hst hW (hb hby hd) (fun _ _ => ⟨rfl, hh, by rw [hc0]; exact hc, by rw [hs0]; exact hs⟩)
  dsimp only [Pt.U, Pt.locs, Pt.cells, Pt.slots] at X' l1 y1 z1 st hQ
  subst l1 y1 z1
  obtain ⟨⟨rfl, hQ1⟩, hQ2⟩ := hQ
  rw [hc0, hs0] at X'
  subst hS'
  exact own_by (K T' _ ⟨⟨_, X', N.app hQ2⟩, rfl, hn, hx, hZ, hby, hml, hown, hnm, hret, hlk⟩ hQ1) st
theorem own_callI {z : MethodName} {cb : ByteArray} {cml : Nat} {crm : Room} {i : Nat} {a : Addr} {argsL rest S' : List Value} {w : Option Value} {Θ : Heap → Prop} (X : own_S Z n0 bytes y ml ret p l e R s m args below meth c T k sl h) (M : own_Met l z cb cml none crm Z n0 (.ref a :: argsL).toArray h w Θ) (hi : z.name = "<init>")
    (w1 : (Jvm.Cond.methodLink y.cls i z).before a0 Z = true) (w2 : (Jvm.Cond.instanceMethod z).before a0 Z = true) (w3 : (Jvm.Cond.initialized z.cls).before a0 Z = true) (w4 : (Jvm.Cond.code z cb cml none).before a0 Z = true) (hz : z.cls ≠ "java/lang/invoke/MethodHandle" ∧ z.cls ≠ "java/lang/invoke/VarHandle")
    {W : Nat} (hf : crm.frames + 1 ≤ R.frames) (hl : W + (cml + 11) + crm.locals ≤ R.locals) (hc0 : crm.cells = 0) (hs0 : crm.slots = 0) (hc : k ≤ R.cells) (hs : sl ≤ R.slots)
    (hlen : ∀ sig, parseMethodDescriptor z.desc = some sig → argsL.length = sig.parameters.length) (hst : S = argsL.reverse ++ .ref a :: rest) (hW : 2 * 0 + (rest.map fun v => v.category).sum ≤ W) (hsz : Ls.size = ml)
    (hd : decode bytes pc = .ok (.invokespecial i, 3)) (hpc : pc + 3 = pc')
    (hS' : w.toList ++ rest = S') (K : ∀ T' h', own_S Z n0 bytes y ml ret p l e R s m args below meth c T' k sl h' → Θ h' → own_G p e below Φ T' (mkF m pc' Ls S')) : own_G p e below Φ T (mkF m pc Ls S) := by
  obtain ⟨⟨locs, Y, N⟩, hh, hn, hx, hZ, hby, hml, hown, hnm, hret, hlk⟩ := X
  subst hpc
  obtain ⟨v, _, ⟨T', L', k', n'⟩, -, X', ⟨Lc, hQ, l1, y1, z1⟩, st⟩ := Y.specialBack hx (y := z) hi hown (mvT hZ w1) (mvT hZ w2) (mvT hZ w4) hz (backOf (W := W) (Q := fun v h' L => (v = w ∧ Θ h') ∧ Fr n0 L) (M []) hZ w4 w3 hf hl) (g := mkF m pc Ls S) rfl (by rw [hml]; exact hsz) (Steps.refl _) (a := a) (argsL := argsL) (rest := rest) hlen hst hW (hb hby hd) (fun _ _ => ⟨rfl, hh, by rw [hc0]; exact hc, by rw [hs0]; exact hs⟩)
  dsimp only [Pt.U, Pt.locs, Pt.cells, Pt.slots] at X' l1 y1 z1 st hQ
  subst l1 y1 z1
  obtain ⟨⟨rfl, hQ1⟩, hQ2⟩ := hQ
  rw [hc0, hs0] at X'
  subst hS'
  exact own_by (K T' _ ⟨⟨_, X', N.app hQ2⟩, rfl, hn, hx, hZ, hby, hml, hown, hnm, hret, hlk⟩ hQ1) fun t kk => st.trans kk
theorem own_callV {z : MethodName} {cb : ByteArray} {cml : Nat} {cret : Option FieldType} {crm : Room} {i : Nat} {a : Addr} {argsL rest S' : List Value} {w : Option Value} {Θ : Heap → Prop} (X : own_S Z n0 bytes y ml ret p l e R s m args below meth c T k sl h) (M : own_Met l z cb cml cret crm Z n0 (.ref a :: argsL).toArray h w Θ) (E : Exa Z h a z.cls)
    (w1 : (Jvm.Cond.methodLink y.cls i z).before a0 Z = true) (w2 : (Jvm.Cond.declares z).before a0 Z = true) (w5 : (Jvm.Cond.selects z.cls z z).before a0 Z = true) (w6 : (Jvm.Cond.instanceMethod z).before a0 Z = true) (w3 : (Jvm.Cond.initialized z.cls).before a0 Z = true) (w4 : (Jvm.Cond.code z cb cml cret).before a0 Z = true) (hz : z.cls ≠ "java/lang/invoke/MethodHandle" ∧ z.cls ≠ "java/lang/invoke/VarHandle")
    {W : Nat} (hf : crm.frames + 1 ≤ R.frames) (hl : W + (cml + 11) + crm.locals ≤ R.locals) (hc0 : crm.cells = 0) (hs0 : crm.slots = 0) (hc : k ≤ R.cells) (hs : sl ≤ R.slots)
    (hlen : ∀ sig, parseMethodDescriptor z.desc = some sig → argsL.length = sig.parameters.length) (hst : S = argsL.reverse ++ .ref a :: rest) (hW : 2 * 0 + (rest.map fun v => v.category).sum ≤ W) (hsz : Ls.size = ml)
    (hd : decode bytes pc = .ok (.invokevirtual i, 3)) (hpc : pc + 3 = pc')
    (hS' : w.toList ++ rest = S') (K : ∀ T' h', own_S Z n0 bytes y ml ret p l e R s m args below meth c T' k sl h' → Θ h' → own_G p e below Φ T' (mkF m pc' Ls S')) : own_G p e below Φ T (mkF m pc Ls S) := by
  obtain ⟨⟨locs, Y, N⟩, hh, hn, hx, hZ, hby, hml, hown, hnm, hret, hlk⟩ := X
  subst hpc
  obtain ⟨cq, kq, qa, qb, qc⟩ := isOf hZ hh E
  obtain ⟨v, _, ⟨T', L', k', n'⟩, -, X', ⟨Lc, hQ, l1, y1, z1⟩, st⟩ := Y.virtualBack hx (y := z) (z := z) hown (mvT hZ w1) (mvT hZ w2) (notFace_of_selects (args := #[]) (mvT hZ w5)) (mvT hZ w5) (mvT hZ w6) hz (backOf (W := W) (Q := fun v h' L => (v = w ∧ Θ h') ∧ Fr n0 L) (M []) hZ w4 w3 hf hl) qa qc (g := mkF m pc Ls S) rfl (by rw [hml]; exact hsz) (Steps.refl _) (argsL := argsL) (rest := rest) hlen hst hW (hb hby hd) (fun _ _ => ⟨rfl, hh, by rw [hc0]; exact hc, by rw [hs0]; exact hs⟩)
  dsimp only [Pt.U, Pt.locs, Pt.cells, Pt.slots] at X' l1 y1 z1 st hQ
  subst l1 y1 z1
  obtain ⟨⟨rfl, hQ1⟩, hQ2⟩ := hQ
  rw [hc0, hs0] at X'
  subst hS'
  exact own_by (K T' _ ⟨⟨_, X', N.app hQ2⟩, rfl, hn, hx, hZ, hby, hml, hown, hnm, hret, hlk⟩ hQ1) fun t kk => st.trans kk
theorem own_getF (X : own_S Z n0 bytes y ml ret p l e R s m args below meth c T k sl h) {i : Nat} {a : Addr} {O nm d : String} {v : Value} (w : (Jvm.Cond.fieldLink y.cls i O nm d).before a0 Z = true) (F : Fld Z h a O nm d v) (hd : decode bytes pc = .ok (.getfield i, 3)) (hpc : pc + 3 = pc')
    (K : ∀ T', own_S Z n0 bytes y ml ret p l e R s m args below meth c T' k sl h → own_G p e below Φ T' (mkF m pc' Ls (v :: S))) : own_G p e below Φ T (mkF m pc Ls (.ref a :: S)) := by
  obtain ⟨⟨locs, Y, N⟩, hh, hn, hx, hZ, hby, hml, hown, hnm, hret, hlk⟩ := X
  subst hpc
  obtain ⟨T', X', e', st⟩ := getF Y hx hZ hown (host := "") (Or.inl w) Via.refl hh F (g := mkF m pc Ls (.ref a :: S)) rfl rfl (hb hby hd)
  exact own_by (K T' ⟨⟨_, X', N⟩, e', hn, hx, hZ, hby, hml, hown, hnm, hret, hlk⟩) st
theorem own_putF (X : own_S Z n0 bytes y ml ret p l e R s m args below meth c T k sl h) {i kk : Nat} {a : Addr} {O nm d C : String} {v v' old : Value} {ty : FieldType} (w : (Jvm.Cond.fieldLink y.cls i O nm d).before a0 Z = true) (F : Fld Z h a O nm d old) (E : Exa Z h a C) (ha : n0 ≤ a)
    (L : (Jvm.Cond.lays C O nm d).before a0 Z = true ∨ ((Jvm.Cond.laysFinal C O nm d).before a0 Z = true ∧ y.cls = O ∧ y.name = "<init>")) (wi : (Jvm.Cond.instantiable C kk).before a0 Z = true) (hty : parseFieldDescriptor d = some ty) (hv : narrow ty v = v') (hf : fits ty v' = true)
    (hd : decode bytes pc = .ok (.putfield i, 3)) (hpc : pc + 3 = pc')
    (K : ∀ T' h', own_S Z n0 bytes y ml ret p l e R s m args below meth c T' k sl h' → Wr h h' a (Jvm.RoadKit.slotOf Z O nm d) v' → own_G p e below Φ T' (mkF m pc' Ls S)) : own_G p e below Φ T (mkF m pc Ls (v :: .ref a :: S)) := by
  obtain ⟨⟨locs, Y, N⟩, hh, hn, hx, hZ, hby, hml, hown, hnm, hret, hlk⟩ := X
  subst hpc
  obtain ⟨T', h', X', e', W', st⟩ := putFN Y hx hZ hown w Via.refl hh F E (L.imp id fun q => ⟨q.1, q.2.1, hnm.trans q.2.2⟩) wi hty hv hf (g := mkF m pc Ls (v :: .ref a :: S)) rfl rfl (hb hby hd)
  exact own_by (K T' h' ⟨⟨_, X', Fr.snoc X' N ha⟩, e', hn, hx, hZ, hby, hml, hown, hnm, hret, hlk⟩ W') st
theorem own_new (X : own_S Z n0 bytes y ml ret p l e R s m args below meth c T k sl h) {i n : Nat} {C : String} (w : (Jvm.Cond.classLink y.cls i C).before a0 Z = true) (wi : (Jvm.Cond.instantiable C n).before a0 Z = true) (wz : (Jvm.Cond.initialized C).before a0 Z = true) (hd : decode bytes pc = .ok (.new i, 3)) (hpc : pc + 3 = pc') (hc : k + 1 ≤ R.cells) (hs : sl + n ≤ R.slots)
    (K : ∀ T' h' a, own_S Z n0 bytes y ml ret p l e R s m args below meth c T' (k + 1) (sl + n) h' → n0 ≤ a → a = h.size → Ext h h' → Exa Z h' a C → (∀ {O nm d : String} {ty : FieldType}, Laid Z a0 C O nm d → parseFieldDescriptor d = some ty → Fld Z h' a O nm d (defaultValue ty)) → own_G p e below Φ T' (mkF m pc' Ls (.ref a :: S))) : own_G p e below Φ T (mkF m pc Ls S) := by
  have hsz := X.size
  obtain ⟨⟨locs, Y, N⟩, hh, hn, hx, hZ, hby, hml, hown, hnm, hret, hlk⟩ := X
  subst hpc
  obtain ⟨T', h', X', e', E', A', D', -, st⟩ := newO Y hx hZ hown w wi wz hh (g := mkF m pc Ls S) rfl (hb hby hd) hc hs
  exact own_by (K T' h' h.size ⟨⟨_, X', N⟩, e', hn, hx, hZ, hby, hml, hown, hnm, hret, hlk⟩ hsz rfl E' A' D') st
def own_A (Z : State) (h : Heap) (a : Addr) (ty : FieldType) (vs : List Int32) : Prop := ∃ cl : Cell, Arr Z h a cl ty ∧ cl.slots.size = vs.length ∧ ∀ j, j < vs.length → cl.slots[j]? = some (.int (vs.getD j 0))
theorem own_A.ext {h' : Heap} {a : Addr} {ty : FieldType} {vs : List Int32} (A : own_A Z h a ty vs) (E : Ext h h') : own_A Z h' a ty vs := by obtain ⟨cl, q, r⟩ := A; exact ⟨cl, q.ext E, r⟩
theorem own_A.other {h' : Heap} {a b : Addr} {ty : FieldType} {vs : List Int32} {i : Nat} {v : Value} (A : own_A Z h b ty vs) (W : Wr h h' a i v) (q : b ≠ a) : own_A Z h' b ty vs := by obtain ⟨cl, r, t⟩ := A; exact ⟨cl, r.other W q, t⟩
theorem own_A.keep {h' : Heap} {a : Addr} {ty : FieldType} {vs : List Int32} {ws : List Addr} (A : own_A Z h a ty vs) (K : Keep h h' ws) (q : a ∉ ws) : own_A Z h' a ty vs := by obtain ⟨cl, r, t⟩ := A; exact ⟨cl, ⟨K.2.1 a cl r.1 q, r.2⟩, t⟩
theorem own_A.lt {a : Addr} {ty : FieldType} {vs : List Int32} (A : own_A Z h a ty vs) : a < h.size := by obtain ⟨cl, q, r⟩ := A; exact q.lt
def own_in (j : Int32) (n : Nat) : Bool := decide (0 ≤ j.toInt) && Nat.blt j.toNatClampNeg n
theorem own_in_not {j : Int32} {n : Nat} (q : own_in j n = true) : j.toNatClampNeg < n ∧ ¬ (j < 0 ∨ n ≤ j.toNatClampNeg) := by
  simp only [own_in, Bool.and_eq_true, decide_eq_true_eq] at q
  have h2 : j.toNatClampNeg < n := Nat.le_of_ble_eq_true q.2
  refine ⟨h2, ?_⟩
  simp only [Int32.lt_iff_toInt_lt, Int32.reduceToInt]
  omega
theorem own_baload (X : own_S Z n0 bytes y ml ret p l e R s m args below meth c T k sl h) {a : Addr} {vs : List Int32} {j v : Int32} (A : own_A Z h a .byte vs) (hj : own_in j vs.length = true) (hv : vs.getD j.toNatClampNeg 0 = v) (hd : decode bytes pc = .ok (.baload, 1)) (hpc : pc + 1 = pc') (K : own_G p e below Φ T (mkF m pc' Ls (.int v :: S))) : own_G p e below Φ T (mkF m pc Ls (.int j :: .ref a :: S)) := by
  obtain ⟨⟨locs, Y, N⟩, hh, hn, hx, hZ, hby, hml, hown, hnm, hret, hlk⟩ := X
  subst hpc
  obtain ⟨cl, q, r, t⟩ := A
  obtain ⟨j1, j2⟩ := own_in_not hj
  exact own_by K fun t' kk => Y.baloadBytes hx (j := j) (v := .int v) (by rw [hh]; exact q.1) (State.isArrayOf_alike hZ.alike q.2.1) q.2.2 (by rw [r]; exact j2) (by rw [t _ j1, hv]) (g := mkF m pc Ls (.int j :: .ref a :: S)) rfl rfl (hb hby hd) t' kk
theorem own_iaload (X : own_S Z n0 bytes y ml ret p l e R s m args below meth c T k sl h) {a : Addr} {vs : List Int32} {j v : Int32} (A : own_A Z h a .int vs) (hj : own_in j vs.length = true) (hv : vs.getD j.toNatClampNeg 0 = v) (hd : decode bytes pc = .ok (.iaload, 1)) (hpc : pc + 1 = pc') (K : own_G p e below Φ T (mkF m pc' Ls (.int v :: S))) : own_G p e below Φ T (mkF m pc Ls (.int j :: .ref a :: S)) := by
  obtain ⟨⟨locs, Y, N⟩, hh, hn, hx, hZ, hby, hml, hown, hnm, hret, hlk⟩ := X
  subst hpc
  obtain ⟨cl, q, r, t⟩ := A
  obtain ⟨j1, j2⟩ := own_in_not hj
  exact own_by K fun t' kk => Y.iaload hx (j := j) (v := .int v) (by rw [hh]; exact q.1) (State.isArrayOf_alike hZ.alike q.2.1) q.2.2 (by rw [r]; exact j2) (by rw [t _ j1, hv]) (g := mkF m pc Ls (.int j :: .ref a :: S)) rfl rfl (hb hby hd) t' kk
theorem own_len (X : own_S Z n0 bytes y ml ret p l e R s m args below meth c T k sl h) {a : Addr} {ty : FieldType} {vs : List Int32} {v : Int32} (A : own_A Z h a ty vs) (hv : vs.length.toInt32 = v) (hd : decode bytes pc = .ok (.arraylength, 1)) (hpc : pc + 1 = pc') (K : own_G p e below Φ T (mkF m pc' Ls (.int v :: S))) : own_G p e below Φ T (mkF m pc Ls (.ref a :: S)) := by
  obtain ⟨⟨locs, Y, N⟩, hh, hn, hx, hZ, hby, hml, hown, hnm, hret, hlk⟩ := X
  subst hpc
  obtain ⟨cl, q, r, t⟩ := A
  exact own_by K fun t' kk => Y.arraylength hx (by rw [hh]; exact q.1) (State.isArrayOf_alike hZ.alike q.2.1) (g := mkF m pc Ls (.ref a :: S)) rfl rfl (hb hby hd) t' (by rw [r, hv]; exact kk)
theorem own_set {h' : Heap} {a : Addr} {ty : FieldType} {vs : List Int32} {i : Nat} {v : Int32} {cl : Cell} (q : Arr Z h a cl ty) (r : cl.slots.size = vs.length) (t : ∀ j, j < vs.length → cl.slots[j]? = some (.int (vs.getD j 0))) (hi : i < vs.length) (W : Wr h h' a i (.int v)) : own_A Z h' a ty (vs.set i v) := by
  refine ⟨cl.setSlot i (.int v), q.same W, by rw [sz_set, r, List.length_set], fun j hj => ?_⟩
  rw [List.length_set] at hj
  have hc : i < cl.slots.size := by rw [r]; exact hi
  show (cl.slots.setIfInBounds i (.int v))[j]? = _
  rw [Array.getElem?_setIfInBounds]
  by_cases e : i = j
  · subst e
    simp [hc, List.getD_eq_getElem?_getD, hi]
  · simp only [e, if_false]
    rw [t j hj]
    simp [List.getD_eq_getElem?_getD, List.getElem?_set, e]
theorem own_bastore (X : own_S Z n0 bytes y ml ret p l e R s m args below meth c T k sl h) {a : Addr} {vs vs' : List Int32} {j v v' : Int32} (A : own_A Z h a .byte vs) (ha : n0 ≤ a) (hj : own_in j vs.length = true) (hv : v.toInt8.toInt32 = v') (hvs : vs.set j.toNatClampNeg v' = vs') (hd : decode bytes pc = .ok (.bastore, 1)) (hpc : pc + 1 = pc')
    (K : ∀ T' h', own_S Z n0 bytes y ml ret p l e R s m args below meth c T' k sl h' → own_A Z h' a .byte vs' → Wr h h' a j.toNatClampNeg (.int v') → own_G p e below Φ T' (mkF m pc' Ls S)) : own_G p e below Φ T (mkF m pc Ls (.int v :: .int j :: .ref a :: S)) := by
  obtain ⟨⟨locs, Y, N⟩, hh, hn, hx, hZ, hby, hml, hown, hnm, hret, hlk⟩ := X
  subst hpc hvs hv
  obtain ⟨cl, q, r, t⟩ := A
  obtain ⟨j1, j2⟩ := own_in_not hj
  obtain ⟨T', h', X', e', W', st⟩ := stB Y hx hZ hh q (j := j) (x := v) (by rw [r]; exact j2) (g := mkF m pc Ls (.int v :: .int j :: .ref a :: S)) rfl rfl (hb hby hd)
  exact own_by (K T' h' ⟨⟨_, X', Fr.snoc X' N ha⟩, e', hn, hx, hZ, hby, hml, hown, hnm, hret, hlk⟩ (own_set q r t j1 W') W') st
theorem own_iastore (X : own_S Z n0 bytes y ml ret p l e R s m args below meth c T k sl h) {a : Addr} {vs vs' : List Int32} {j v : Int32} (A : own_A Z h a .int vs) (ha : n0 ≤ a) (hj : own_in j vs.length = true) (hvs : vs.set j.toNatClampNeg v = vs') (hd : decode bytes pc = .ok (.iastore, 1)) (hpc : pc + 1 = pc')
    (K : ∀ T' h', own_S Z n0 bytes y ml ret p l e R s m args below meth c T' k sl h' → own_A Z h' a .int vs' → Wr h h' a j.toNatClampNeg (.int v) → own_G p e below Φ T' (mkF m pc' Ls S)) : own_G p e below Φ T (mkF m pc Ls (.int v :: .int j :: .ref a :: S)) := by
  obtain ⟨⟨locs, Y, N⟩, hh, hn, hx, hZ, hby, hml, hown, hnm, hret, hlk⟩ := X
  subst hpc hvs
  obtain ⟨cl, q, r, t⟩ := A
  obtain ⟨j1, j2⟩ := own_in_not hj
  obtain ⟨T', h', X', e', W', st⟩ := stI Y hx hZ hh q (j := j) (x := v) (by rw [r]; exact j2) (g := mkF m pc Ls (.int v :: .int j :: .ref a :: S)) rfl rfl (hb hby hd)
  exact own_by (K T' h' ⟨⟨_, X', Fr.snoc X' N ha⟩, e', hn, hx, hZ, hby, hml, hown, hnm, hret, hlk⟩ (own_set q r t j1 W') W') st
theorem own_newarr (X : own_S Z n0 bytes y ml ret p l e R s m args below meth c T k sl h) {aty : ArrayType} {n : Int32} {len : Nat} {vs : List Int32} (w : (Jvm.Cond.arrayClass (newarray.typeOf aty)).before a0 Z = true) (hty : defaultValue (newarray.typeOf aty) = .int 0) (hn0 : ¬ n < 0) (hlen : n.toNatClampNeg = len) (hvs : List.replicate len 0 = vs) (hbig : len * 8 ≤ 536870912) (hd : decode bytes pc = .ok (.newarray aty, 2)) (hpc : pc + 2 = pc') (hc : k + 1 ≤ R.cells) (hs : sl + len ≤ R.slots)
    (K : ∀ T' h' a, own_S Z n0 bytes y ml ret p l e R s m args below meth c T' (k + 1) (sl + len) h' → n0 ≤ a → a = h.size → Ext h h' → own_A Z h' a (newarray.typeOf aty) vs → own_G p e below Φ T' (mkF m pc' Ls (.ref a :: S))) : own_G p e below Φ T (mkF m pc Ls (.int n :: S)) := by
  have hsz := X.size
  obtain ⟨⟨locs, Y, N⟩, hh, hn, hx, hZ, hby, hml, hown, hnm, hret, hlk⟩ := X
  subst hpc hvs hlen
  obtain ⟨T', h', cA, X', e', E', A', st⟩ := newP Y hx hZ w hh (g := mkF m pc Ls (.int n :: S)) rfl (hb hby hd) rfl hn0 (cap := n.toNatClampNeg) (Nat.le_refl _) hbig hc hs
  refine own_by (K T' h' h.size ⟨⟨_, X', N⟩, e', hn, hx, hZ, hby, hml, hown, hnm, hret, hlk⟩ hsz rfl E' ⟨_, A', by rw [sz_new, List.length_replicate], fun j hj => ?_⟩) st
  rw [List.length_replicate] at hj
  simp [newA, hj, hty, List.getD_eq_getElem?_getD]
theorem own_b8 (v : Int32) : (v.toInt8.toInt32).toInt8.toInt32 = v.toInt8.toInt32 := by simp
end OwnKit
def own_g (m : Int) (u0 u1 u2 u3 : Int32) : Int32 := if u0.toInt < 128 then 1 else if 194 ≤ u0.toInt ∧ u0.toInt ≤ 223 ∧ 2 ≤ m ∧ 128 ≤ u1.toInt ∧ u1.toInt ≤ 191 then 2 else if 224 ≤ u0.toInt ∧ u0.toInt ≤ 239 ∧ 3 ≤ m ∧ 128 ≤ u1.toInt ∧ u1.toInt ≤ 191 ∧ (u0.toInt = 224 → 160 ≤ u1.toInt) ∧ (u0.toInt = 237 → u1.toInt ≤ 159) ∧ 128 ≤ u2.toInt ∧ u2.toInt ≤ 191 then 3
  else if 240 ≤ u0.toInt ∧ u0.toInt ≤ 244 ∧ 4 ≤ m ∧ 128 ≤ u1.toInt ∧ u1.toInt ≤ 191 ∧ (u0.toInt = 240 → 144 ≤ u1.toInt) ∧ (u0.toInt = 244 → u1.toInt ≤ 143) ∧ 128 ≤ u2.toInt ∧ u2.toInt ≤ 191 ∧ 128 ≤ u3.toInt ∧ u3.toInt ≤ 191 then 4 else 0
def own_sl (us : List Int32) : Int32 := own_g us.length (us.getD 0 0) (us.getD 1 0) (us.getD 2 0) (us.getD 3 0)
theorem own_g5 (m : Int) (u0 u1 u2 u3 : Int32) : own_g m u0 u1 u2 u3 = 0 ∨ own_g m u0 u1 u2 u3 = 1 ∨ (own_g m u0 u1 u2 u3 = 2 ∧ 2 ≤ m) ∨ (own_g m u0 u1 u2 u3 = 3 ∧ 3 ≤ m) ∨ (own_g m u0 u1 u2 u3 = 4 ∧ 4 ≤ m) := by
  unfold own_g
  repeat' split
  · exact Or.inr (Or.inl rfl)
  · exact Or.inr (Or.inr (Or.inl ⟨rfl, by omega⟩))
  · exact Or.inr (Or.inr (Or.inr (Or.inl ⟨rfl, by omega⟩)))
  · exact Or.inr (Or.inr (Or.inr (Or.inr ⟨rfl, by omega⟩)))
  · exact Or.inl rfl
theorem own_s1 (u0 : Int32) : own_sl [u0] = 0 ∨ own_sl [u0] = 1 := by
  rcases own_g5 1 u0 0 0 0 with h | h | h | h | h
  · exact Or.inl h
  · exact Or.inr h
  · omega
  · omega
  · omega
theorem own_s2 (u0 u1 : Int32) : own_sl [u0, u1] = 0 ∨ own_sl [u0, u1] = 1 ∨ own_sl [u0, u1] = 2 := by
  rcases own_g5 2 u0 u1 0 0 with h | h | h | h | h
  · exact Or.inl h
  · exact Or.inr (Or.inl h)
  · exact Or.inr (Or.inr h.1)
  · omega
  · omega
theorem own_s3 (u0 u1 u2 : Int32) : own_sl [u0, u1, u2] = 0 ∨ own_sl [u0, u1, u2] = 1 ∨ own_sl [u0, u1, u2] = 2 ∨ own_sl [u0, u1, u2] = 3 := by
  rcases own_g5 3 u0 u1 u2 0 with h | h | h | h | h
  · exact Or.inl h
  · exact Or.inr (Or.inl h)
  · exact Or.inr (Or.inr (Or.inl h.1))
  · exact Or.inr (Or.inr (Or.inr h.1))
  · omega
theorem own_s4 (u0 u1 u2 u3 : Int32) : own_sl [u0, u1, u2, u3] = 0 ∨ own_sl [u0, u1, u2, u3] = 1 ∨ own_sl [u0, u1, u2, u3] = 2 ∨ own_sl [u0, u1, u2, u3] = 3 ∨ own_sl [u0, u1, u2, u3] = 4 := by
  rcases own_g5 4 u0 u1 u2 u3 with h | h | h | h | h
  · exact Or.inl h
  · exact Or.inr (Or.inl h)
  · exact Or.inr (Or.inr (Or.inl h.1))
  · exact Or.inr (Or.inr (Or.inr (Or.inl h.1)))
  · exact Or.inr (Or.inr (Or.inr (Or.inr h.1)))
def own_w : Nat → List Int32 → Int32
  | _, [] => 1
  | 0, _ :: _ => 0
  | f + 1, u :: us => if own_sl (u :: us) = 0 then 0 else own_w f ((u :: us).drop (own_sl (u :: us)).toNatClampNeg)
theorem own_wn (f : Nat) : own_w f [] = 1 := by cases f <;> rfl
theorem own_w0 {f : Nat} {u : Int32} {us : List Int32} (h : own_sl (u :: us) = 0) : own_w (f + 1) (u :: us) = 0 := by rw [own_w, if_pos h]
theorem own_wc {f : Nat} {u k : Int32} {us r : List Int32} (h : own_sl (u :: us) = k) (hk : k ≠ 0) (hr : (u :: us).drop k.toNatClampNeg = r) : own_w (f + 1) (u :: us) = own_w f r := by rw [own_w, if_neg (by rw [h]; exact hk), h, hr]
def own_nv (i : Int32) (us : List Int32) : Int32 := if own_sl us = 0 then -1 else i + own_sl us
theorem own_and1 {a v : Int32} (e : a &&& (1 : Int32) = v) : v = 0 ∨ v = 1 := by
  have h := c_mask a 1 1 (by decide) (by decide)
  rw [e] at h
  have k1 : ∀ n : Int32, v = n ↔ v.toInt = n.toInt := fun n => Int32.toInt_inj.symm
  simp only [k1, Int32.reduceToInt]
  omega
theorem own_rem5 {a v : Int32} (e : ((a &&& (7 : Int32)) - ((a &&& (7 : Int32)) / (5 : Int32)) * (5 : Int32)) = v) : v = 0 ∨ v = 1 ∨ v = 2 ∨ v = 3 ∨ v = 4 := by
  have h := c_mask a 7 3 (by decide) (by decide)
  have h2 := c_irem (a &&& 7) 5 5 (by decide)
  rw [irem_eq_mod] at e
  rw [e] at h2
  have k1 : ∀ n : Int32, v = n ↔ v.toInt = n.toInt := fun n => Int32.toInt_inj.symm
  simp only [k1, Int32.reduceToInt]
  omega
theorem own_m8 (b : Int32) : b.toInt8.toInt32 &&& (255 : Int32) = b &&& (255 : Int32) := by
  have h1 := c_i2b b
  have h2 := c_mask b.toInt8.toInt32 255 8 (by decide) (by decide)
  have h3 := c_mask b 255 8 (by decide) (by decide)
  apply Int32.toInt_inj.mp
  omega
theorem own_mr (b : Int32) : 0 ≤ (b &&& (255 : Int32)).toInt ∧ (b &&& (255 : Int32)).toInt < 256 := by
  have h3 := c_mask b 255 8 (by decide) (by decide)
  omega
theorem own_bits : ∀ n : Fin 256, (((Int32.ofNat n.val) &&& (224 : Int32) = 192) ↔ (192 ≤ n.val ∧ n.val ≤ 223)) ∧ (((Int32.ofNat n.val) &&& (240 : Int32) = 224) ↔ (224 ≤ n.val ∧ n.val ≤ 239)) ∧ (((Int32.ofNat n.val) &&& (248 : Int32) = 240) ↔ (240 ≤ n.val ∧ n.val ≤ 247)) ∧ (((Int32.ofNat n.val) &&& (192 : Int32) = 128) ↔ (128 ≤ n.val ∧ n.val ≤ 191)) := by decide +kernel
theorem own_b4 (b : Int32) (h : 0 ≤ b.toInt ∧ b.toInt < 256) : ((b &&& (224 : Int32) = 192) ↔ (192 ≤ b.toInt ∧ b.toInt ≤ 223)) ∧ ((b &&& (240 : Int32) = 224) ↔ (224 ≤ b.toInt ∧ b.toInt ≤ 239)) ∧ ((b &&& (248 : Int32) = 240) ↔ (240 ≤ b.toInt ∧ b.toInt ≤ 247)) ∧ ((b &&& (192 : Int32) = 128) ↔ (128 ≤ b.toInt ∧ b.toInt ≤ 191)) := by
  have e : b = Int32.ofNat b.toInt.toNat := by
    apply Int32.toInt_inj.mp
    rw [Int32.toInt_ofNat_of_lt (by omega)]; omega
  have q := own_bits ⟨b.toInt.toNat, by omega⟩
  simp only [← e] at q
  obtain ⟨q1, q2, q3, q4⟩ := q
  refine ⟨q1.trans (by omega), q2.trans (by omega), q3.trans (by omega), q4.trans (by omega)⟩
theorem own_c192 (b : Int32) (h : -128 ≤ b.toInt ∧ b.toInt < 128) : (b &&& (192 : Int32) = 128) ↔ (128 ≤ (b &&& (255 : Int32)).toInt ∧ (b &&& (255 : Int32)).toInt ≤ 191) := by
  have e : b &&& (192 : Int32) = (b &&& (255 : Int32)) &&& (192 : Int32) := by rw [Int32.and_assoc]; rfl
  rw [e]
  exact (own_b4 _ (own_mr b)).2.2.2
theorem own_cp2 (x u1 : Int32) (k : Int) (hx : 0 ≤ x.toInt ∧ x.toInt < 32768) : ((x <<< ((6 : Int32) &&& 31)) ||| (u1 &&& (63 : Int32))).toInt = x.toInt * 64 + u1.toInt % 64 := by
  have m := c_mask u1 63 6 (by decide) (by decide)
  have s1 := c_ishl x 6 6 (by decide)
  generalize x <<< ((6 : Int32) &&& 31) = f at *
  generalize u1 &&& (63 : Int32) = t at *
  have r := rng32 f
  have o := c_or f t 6 (by decide) 64 (by decide) (by omega) (by omega) (by omega)
  have r2 := rng32 (f ||| t)
  omega
theorem own_ad (j t : Int32) (h : 0 ≤ j.toInt ∧ j.toInt ≤ 5) (h2 : 0 ≤ t.toInt ∧ t.toInt ≤ 5) : (j + t).toInt = j.toInt + t.toInt := by
  have e := c_iadd j t
  have r := rng32 (j + t)
  omega
theorem d2_0 : decode method_4_code 0 = .ok (.aload_n 0, 1) := by decide +kernel
theorem d2_1 : decode method_4_code 1 = .ok (.iload_n 1, 1) := by decide +kernel
theorem d2_2 : decode method_4_code 2 = .ok (.iaload, 1) := by decide +kernel
theorem d2_3 : decode method_4_code 3 = .ok (.istore_n 3, 1) := by decide +kernel
theorem d2_4 : decode method_4_code 4 = .ok (.iload_n 3, 1) := by decide +kernel
theorem d2_5 : decode method_4_code 5 = .ok (.sipush 128, 3) := by decide +kernel
theorem d2_8 : decode method_4_code 8 = .ok (.if_icmp .ge 5, 3) := by decide +kernel
theorem d2_11 : decode method_4_code 11 = .ok (.iconst 1, 1) := by decide +kernel
theorem d2_12 : decode method_4_code 12 = .ok (.ireturn, 1) := by decide +kernel
theorem d2_13 : decode method_4_code 13 = .ok (.iload_n 3, 1) := by decide +kernel
theorem d2_14 : decode method_4_code 14 = .ok (.sipush 224, 3) := by decide +kernel
theorem d2_17 : decode method_4_code 17 = .ok (.iand, 1) := by decide +kernel
theorem d2_18 : decode method_4_code 18 = .ok (.sipush 192, 3) := by decide +kernel
theorem d2_21 : decode method_4_code 21 = .ok (.if_icmp .ne 20, 3) := by decide +kernel
theorem d2_24 : decode method_4_code 24 = .ok (.iconst 2, 1) := by decide +kernel
theorem d2_25 : decode method_4_code 25 = .ok (.istore 4, 2) := by decide +kernel
theorem d2_27 : decode method_4_code 27 = .ok (.iload_n 3, 1) := by decide +kernel
theorem d2_28 : decode method_4_code 28 = .ok (.bipush 31, 2) := by decide +kernel
theorem d2_30 : decode method_4_code 30 = .ok (.iand, 1) := by decide +kernel
theorem d2_31 : decode method_4_code 31 = .ok (.istore 5, 2) := by decide +kernel
theorem d2_33 : decode method_4_code 33 = .ok (.sipush 128, 3) := by decide +kernel
theorem d2_36 : decode method_4_code 36 = .ok (.istore 6, 2) := by decide +kernel
theorem d2_38 : decode method_4_code 38 = .ok (.goto 60, 3) := by decide +kernel
theorem d2_41 : decode method_4_code 41 = .ok (.iload_n 3, 1) := by decide +kernel
theorem d2_42 : decode method_4_code 42 = .ok (.sipush 240, 3) := by decide +kernel
theorem d2_45 : decode method_4_code 45 = .ok (.iand, 1) := by decide +kernel
theorem d2_46 : decode method_4_code 46 = .ok (.sipush 224, 3) := by decide +kernel
theorem d2_49 : decode method_4_code 49 = .ok (.if_icmp .ne 20, 3) := by decide +kernel
theorem d2_52 : decode method_4_code 52 = .ok (.iconst 3, 1) := by decide +kernel
theorem d2_53 : decode method_4_code 53 = .ok (.istore 4, 2) := by decide +kernel
theorem d2_55 : decode method_4_code 55 = .ok (.iload_n 3, 1) := by decide +kernel
theorem d2_56 : decode method_4_code 56 = .ok (.bipush 15, 2) := by decide +kernel
theorem d2_58 : decode method_4_code 58 = .ok (.iand, 1) := by decide +kernel
theorem d2_59 : decode method_4_code 59 = .ok (.istore 5, 2) := by decide +kernel
theorem d2_61 : decode method_4_code 61 = .ok (.sipush 2048, 3) := by decide +kernel
theorem d2_64 : decode method_4_code 64 = .ok (.istore 6, 2) := by decide +kernel
theorem d2_66 : decode method_4_code 66 = .ok (.goto 32, 3) := by decide +kernel
theorem d2_69 : decode method_4_code 69 = .ok (.iload_n 3, 1) := by decide +kernel
theorem d2_70 : decode method_4_code 70 = .ok (.sipush 248, 3) := by decide +kernel
theorem d2_73 : decode method_4_code 73 = .ok (.iand, 1) := by decide +kernel
theorem d2_74 : decode method_4_code 74 = .ok (.sipush 240, 3) := by decide +kernel
theorem d2_77 : decode method_4_code 77 = .ok (.if_icmp .ne 19, 3) := by decide +kernel
theorem d2_80 : decode method_4_code 80 = .ok (.iconst 4, 1) := by decide +kernel
theorem d2_81 : decode method_4_code 81 = .ok (.istore 4, 2) := by decide +kernel
theorem d2_83 : decode method_4_code 83 = .ok (.iload_n 3, 1) := by decide +kernel
theorem d2_84 : decode method_4_code 84 = .ok (.bipush 7, 2) := by decide +kernel
theorem d2_86 : decode method_4_code 86 = .ok (.iand, 1) := by decide +kernel
theorem d2_87 : decode method_4_code 87 = .ok (.istore 5, 2) := by decide +kernel
theorem d2_89 : decode method_4_code 89 = .ok (.ldc 22, 2) := by decide +kernel
theorem d2_91 : decode method_4_code 91 = .ok (.istore 6, 2) := by decide +kernel
theorem d2_93 : decode method_4_code 93 = .ok (.goto 5, 3) := by decide +kernel
theorem d2_96 : decode method_4_code 96 = .ok (.iconst 0, 1) := by decide +kernel
theorem d2_97 : decode method_4_code 97 = .ok (.ireturn, 1) := by decide +kernel
theorem d2_98 : decode method_4_code 98 = .ok (.iload_n 2, 1) := by decide +kernel
theorem d2_99 : decode method_4_code 99 = .ok (.iload_n 1, 1) := by decide +kernel
theorem d2_100 : decode method_4_code 100 = .ok (.isub, 1) := by decide +kernel
theorem d2_101 : decode method_4_code 101 = .ok (.iload 4, 2) := by decide +kernel
theorem d2_103 : decode method_4_code 103 = .ok (.if_icmp .ge 5, 3) := by decide +kernel
theorem d2_106 : decode method_4_code 106 = .ok (.iconst 0, 1) := by decide +kernel
theorem d2_107 : decode method_4_code 107 = .ok (.ireturn, 1) := by decide +kernel
theorem pn_rm2_1 : plainFor (⟨"com/example/vegeu/vegeu/model/Utf8IsWellFormedPinLaw", "seq", "([III)I"⟩ : MethodName) = true := plainFor_of_name (by first | (simp [plainName, overriddenIn]; done) | decide +kernel)
theorem ef_rm2_1 (m : MethodId) (x0 : Addr) (x1 : Int32) (x2 : Int32) : entryFrame m #[(.ref x0), (.int x1), (.int x2)] 9 = mkF m 0 #[.val (.ref x0), .val (.int x1), .val (.int x2), .unset, .unset, .unset, .unset, .unset, .unset] [] := by first | (simp [entryFrame, mkF, argsToLocals, Value.category]; done) | rfl
set_option maxRecDepth 65536 in
set_option maxHeartbeats 4000000 in
theorem rm2_1 (l : Launch) (Z : State) (a0 : Array Value) (hw : ∀ d ∈ tables_1, d.before a0 Z = true) (n0 : Nat) (a : Addr) (i : Int32) (ed : Int32) (h0 : Heap) (hn0 : n0 ≤ h0.size) (vs : List Int32) (A : own_A Z h0 a .int vs) (u0 : Int32) (hm : ed - i = (1 : Int32)) (g0 : own_in i vs.length = true) (f0 : vs.getD (i).toNatClampNeg 0 = u0) (r0 : 0 ≤ u0.toInt ∧ u0.toInt < 256) :
    own_Met l (⟨"com/example/vegeu/vegeu/model/Utf8IsWellFormedPinLaw", "seq", "([III)I"⟩ : MethodName) method_4_code 9 (some .int) ({ frames := 0, cells := 0, slots := 0, locals := 0 } : Room) Z n0 #[(.ref a), (.int i), (.int ed)] h0 (some (.int (own_sl [u0]))) (fun h' => h' = h0) := by
  refine own_met pn_rm2_1 hn0 ?_
  intro p e s m below meth c T X
  refine own_cast (ef_rm2_1 m a i ed) ?_
  generalize hΦ : own_Q n0 below s _ _ _ = Φ
  have B0 := own_b4 u0 r0
  refine own_aloadN X (pc' := 1) d2_0 rfl rfl rfl ?_
  refine own_iloadN X (pc' := 2) d2_1 rfl rfl ?_
  refine own_iaload X (v := u0) (pc' := 3) A g0 f0 d2_2 rfl ?_
  refine own_istoreN X (pc' := 4) (Ls' := #[.val (.ref a), .val (.int i), .val (.int ed), .val (.int u0), .unset, .unset, .unset, .unset, .unset]) d2_3 rfl rfl ?_
  refine own_iloadN X (pc' := 5) d2_4 rfl rfl ?_
  refine own_sipush X (v := (128 : Int32)) (pc' := 8) d2_5 rfl (by decide) ?_
  refine own_icmp_ge X (pct := 13) (pc' := 11) d2_8 rfl (by decide) (by decide) (fun hc8_1 => ?_) (fun hc8_1 => ?_)
  · refine own_iloadN X (pc' := 14) d2_13 rfl rfl ?_
    refine own_sipush X (v := (224 : Int32)) (pc' := 17) d2_14 rfl (by decide) ?_
    refine own_iand X (r := (u0 &&& (224 : Int32))) (pc' := 18) d2_17 rfl rfl ?_
    refine own_sipush X (v := (192 : Int32)) (pc' := 21) d2_18 rfl (by decide) ?_
    refine own_icmp_ne X (pct := 41) (pc' := 24) d2_21 rfl (by decide) (by decide) (fun hc21_2 => ?_) (fun hc21_2 => ?_)
    · refine own_iloadN X (pc' := 42) d2_41 rfl rfl ?_
      refine own_sipush X (v := (240 : Int32)) (pc' := 45) d2_42 rfl (by decide) ?_
      refine own_iand X (r := (u0 &&& (240 : Int32))) (pc' := 46) d2_45 rfl rfl ?_
      refine own_sipush X (v := (224 : Int32)) (pc' := 49) d2_46 rfl (by decide) ?_
      refine own_icmp_ne X (pct := 69) (pc' := 52) d2_49 rfl (by decide) (by decide) (fun hc49_3 => ?_) (fun hc49_3 => ?_)
      · refine own_iloadN X (pc' := 70) d2_69 rfl rfl ?_
        refine own_sipush X (v := (248 : Int32)) (pc' := 73) d2_70 rfl (by decide) ?_
        refine own_iand X (r := (u0 &&& (248 : Int32))) (pc' := 74) d2_73 rfl rfl ?_
        refine own_sipush X (v := (240 : Int32)) (pc' := 77) d2_74 rfl (by decide) ?_
        refine own_icmp_ne X (pct := 96) (pc' := 80) d2_77 rfl (by decide) (by decide) (fun hc77_4 => ?_) (fun hc77_4 => ?_)
        · refine own_iconst X (v := (0 : Int32)) (pc' := 97) d2_96 rfl (by decide) ?_
          subst hΦ
          refine own_retI X d2_97 (by decide) (by decide) ?_ rfl
          rw [B0.1] at hc21_2
          rw [B0.2.1] at hc49_3
          rw [B0.2.2.1] at hc77_4
          rw [Int32.lt_iff_toInt_lt] at hc8_1
          simp only [Int32.reduceToInt] at hc8_1
          show some (Value.int (0 : Int32)) = some (Value.int (own_g 1 u0 0 0 0))
          unfold own_g
          repeat' split
          all_goals first | rfl | omega
        · refine own_iconst X (v := (4 : Int32)) (pc' := 81) d2_80 rfl (by decide) ?_
          refine own_istore X (pc' := 83) (Ls' := #[.val (.ref a), .val (.int i), .val (.int ed), .val (.int u0), .val (.int (4 : Int32)), .unset, .unset, .unset, .unset]) d2_81 rfl rfl ?_
          refine own_iloadN X (pc' := 84) d2_83 rfl rfl ?_
          refine own_bipush X (v := (7 : Int32)) (pc' := 86) d2_84 rfl (by decide) ?_
          refine own_iand X (r := (u0 &&& (7 : Int32))) (pc' := 87) d2_86 rfl rfl ?_
          refine own_istore X (pc' := 89) (Ls' := #[.val (.ref a), .val (.int i), .val (.int ed), .val (.int u0), .val (.int (4 : Int32)), .val (.int (u0 &&& (7 : Int32))), .unset, .unset, .unset]) d2_87 rfl rfl ?_
          refine own_ldc X (pc' := 91) (hw _ (List.mem_of_getElem? (i := 15) rfl)) d2_89 rfl ?_
          refine own_istore X (pc' := 93) (Ls' := #[.val (.ref a), .val (.int i), .val (.int ed), .val (.int u0), .val (.int (4 : Int32)), .val (.int (u0 &&& (7 : Int32))), .val (.int (65536 : Int32)), .unset, .unset]) d2_91 rfl rfl ?_
          refine own_goto X (pc' := 98) d2_93 (by decide) (by decide) ?_
          refine own_iloadN X (pc' := 99) d2_98 rfl rfl ?_
          refine own_iloadN X (pc' := 100) d2_99 rfl rfl ?_
          refine own_isub X (r := (ed - i)) (pc' := 101) d2_100 rfl rfl ?_
          rw [hm]
          refine own_iload X (pc' := 103) d2_101 rfl rfl ?_
          refine own_icmp_ge X (pct := 108) (pc' := 106) d2_103 rfl (by decide) (by decide) (fun hc => absurd hc (by decide)) (fun _ => ?_)
          refine own_iconst X (v := (0 : Int32)) (pc' := 107) d2_106 rfl (by decide) ?_
          subst hΦ
          refine own_retI X d2_107 (by decide) (by decide) ?_ rfl
          rw [B0.1] at hc21_2
          rw [B0.2.1] at hc49_3
          rw [B0.2.2.1] at hc77_4
          rw [Int32.lt_iff_toInt_lt] at hc8_1
          simp only [Int32.reduceToInt] at hc8_1
          show some (Value.int (0 : Int32)) = some (Value.int (own_g 1 u0 0 0 0))
          unfold own_g
          repeat' split
          all_goals first | rfl | omega
      · refine own_iconst X (v := (3 : Int32)) (pc' := 53) d2_52 rfl (by decide) ?_
        refine own_istore X (pc' := 55) (Ls' := #[.val (.ref a), .val (.int i), .val (.int ed), .val (.int u0), .val (.int (3 : Int32)), .unset, .unset, .unset, .unset]) d2_53 rfl rfl ?_
        refine own_iloadN X (pc' := 56) d2_55 rfl rfl ?_
        refine own_bipush X (v := (15 : Int32)) (pc' := 58) d2_56 rfl (by decide) ?_
        refine own_iand X (r := (u0 &&& (15 : Int32))) (pc' := 59) d2_58 rfl rfl ?_
        refine own_istore X (pc' := 61) (Ls' := #[.val (.ref a), .val (.int i), .val (.int ed), .val (.int u0), .val (.int (3 : Int32)), .val (.int (u0 &&& (15 : Int32))), .unset, .unset, .unset]) d2_59 rfl rfl ?_
        refine own_sipush X (v := (2048 : Int32)) (pc' := 64) d2_61 rfl (by decide) ?_
        refine own_istore X (pc' := 66) (Ls' := #[.val (.ref a), .val (.int i), .val (.int ed), .val (.int u0), .val (.int (3 : Int32)), .val (.int (u0 &&& (15 : Int32))), .val (.int (2048 : Int32)), .unset, .unset]) d2_64 rfl rfl ?_
        refine own_goto X (pc' := 98) d2_66 (by decide) (by decide) ?_
        refine own_iloadN X (pc' := 99) d2_98 rfl rfl ?_
        refine own_iloadN X (pc' := 100) d2_99 rfl rfl ?_
        refine own_isub X (r := (ed - i)) (pc' := 101) d2_100 rfl rfl ?_
        rw [hm]
        refine own_iload X (pc' := 103) d2_101 rfl rfl ?_
        refine own_icmp_ge X (pct := 108) (pc' := 106) d2_103 rfl (by decide) (by decide) (fun hc => absurd hc (by decide)) (fun _ => ?_)
        refine own_iconst X (v := (0 : Int32)) (pc' := 107) d2_106 rfl (by decide) ?_
        subst hΦ
        refine own_retI X d2_107 (by decide) (by decide) ?_ rfl
        rw [B0.1] at hc21_2
        rw [B0.2.1] at hc49_3
        rw [Int32.lt_iff_toInt_lt] at hc8_1
        simp only [Int32.reduceToInt] at hc8_1
        show some (Value.int (0 : Int32)) = some (Value.int (own_g 1 u0 0 0 0))
        unfold own_g
        repeat' split
        all_goals first | rfl | omega
    · refine own_iconst X (v := (2 : Int32)) (pc' := 25) d2_24 rfl (by decide) ?_
      refine own_istore X (pc' := 27) (Ls' := #[.val (.ref a), .val (.int i), .val (.int ed), .val (.int u0), .val (.int (2 : Int32)), .unset, .unset, .unset, .unset]) d2_25 rfl rfl ?_
      refine own_iloadN X (pc' := 28) d2_27 rfl rfl ?_
      refine own_bipush X (v := (31 : Int32)) (pc' := 30) d2_28 rfl (by decide) ?_
      refine own_iand X (r := (u0 &&& (31 : Int32))) (pc' := 31) d2_30 rfl rfl ?_
      refine own_istore X (pc' := 33) (Ls' := #[.val (.ref a), .val (.int i), .val (.int ed), .val (.int u0), .val (.int (2 : Int32)), .val (.int (u0 &&& (31 : Int32))), .unset, .unset, .unset]) d2_31 rfl rfl ?_
      refine own_sipush X (v := (128 : Int32)) (pc' := 36) d2_33 rfl (by decide) ?_
      refine own_istore X (pc' := 38) (Ls' := #[.val (.ref a), .val (.int i), .val (.int ed), .val (.int u0), .val (.int (2 : Int32)), .val (.int (u0 &&& (31 : Int32))), .val (.int (128 : Int32)), .unset, .unset]) d2_36 rfl rfl ?_
      refine own_goto X (pc' := 98) d2_38 (by decide) (by decide) ?_
      refine own_iloadN X (pc' := 99) d2_98 rfl rfl ?_
      refine own_iloadN X (pc' := 100) d2_99 rfl rfl ?_
      refine own_isub X (r := (ed - i)) (pc' := 101) d2_100 rfl rfl ?_
      rw [hm]
      refine own_iload X (pc' := 103) d2_101 rfl rfl ?_
      refine own_icmp_ge X (pct := 108) (pc' := 106) d2_103 rfl (by decide) (by decide) (fun hc => absurd hc (by decide)) (fun _ => ?_)
      refine own_iconst X (v := (0 : Int32)) (pc' := 107) d2_106 rfl (by decide) ?_
      subst hΦ
      refine own_retI X d2_107 (by decide) (by decide) ?_ rfl
      rw [B0.1] at hc21_2
      rw [Int32.lt_iff_toInt_lt] at hc8_1
      simp only [Int32.reduceToInt] at hc8_1
      show some (Value.int (0 : Int32)) = some (Value.int (own_g 1 u0 0 0 0))
      unfold own_g
      repeat' split
      all_goals first | rfl | omega
  · refine own_iconst X (v := (1 : Int32)) (pc' := 12) d2_11 rfl (by decide) ?_
    subst hΦ
    refine own_retI X d2_12 (by decide) (by decide) ?_ rfl
    rw [Int32.lt_iff_toInt_lt] at hc8_1
    simp only [Int32.reduceToInt] at hc8_1
    show some (Value.int (1 : Int32)) = some (Value.int (own_g 1 u0 0 0 0))
    unfold own_g
    repeat' split
    all_goals first | rfl | omega
theorem d2_108 : decode method_4_code 108 = .ok (.aload_n 0, 1) := by decide +kernel
theorem d2_109 : decode method_4_code 109 = .ok (.iload_n 1, 1) := by decide +kernel
theorem d2_110 : decode method_4_code 110 = .ok (.iconst 1, 1) := by decide +kernel
theorem d2_111 : decode method_4_code 111 = .ok (.iadd, 1) := by decide +kernel
theorem d2_112 : decode method_4_code 112 = .ok (.iaload, 1) := by decide +kernel
theorem d2_113 : decode method_4_code 113 = .ok (.istore 7, 2) := by decide +kernel
theorem d2_115 : decode method_4_code 115 = .ok (.iload 7, 2) := by decide +kernel
theorem d2_117 : decode method_4_code 117 = .ok (.sipush 192, 3) := by decide +kernel
theorem d2_120 : decode method_4_code 120 = .ok (.iand, 1) := by decide +kernel
theorem d2_121 : decode method_4_code 121 = .ok (.sipush 128, 3) := by decide +kernel
theorem d2_124 : decode method_4_code 124 = .ok (.if_icmp .eq 5, 3) := by decide +kernel
theorem d2_127 : decode method_4_code 127 = .ok (.iconst 0, 1) := by decide +kernel
theorem d2_128 : decode method_4_code 128 = .ok (.ireturn, 1) := by decide +kernel
theorem d2_129 : decode method_4_code 129 = .ok (.iload 5, 2) := by decide +kernel
theorem d2_131 : decode method_4_code 131 = .ok (.bipush 6, 2) := by decide +kernel
theorem d2_133 : decode method_4_code 133 = .ok (.ishl, 1) := by decide +kernel
theorem d2_134 : decode method_4_code 134 = .ok (.iload 7, 2) := by decide +kernel
theorem d2_136 : decode method_4_code 136 = .ok (.bipush 63, 2) := by decide +kernel
theorem d2_138 : decode method_4_code 138 = .ok (.iand, 1) := by decide +kernel
theorem d2_139 : decode method_4_code 139 = .ok (.ior, 1) := by decide +kernel
theorem d2_140 : decode method_4_code 140 = .ok (.istore 5, 2) := by decide +kernel
theorem d2_142 : decode method_4_code 142 = .ok (.iload 4, 2) := by decide +kernel
theorem d2_144 : decode method_4_code 144 = .ok (.iconst 3, 1) := by decide +kernel
theorem d2_145 : decode method_4_code 145 = .ok (.if_icmp .lt 37, 3) := by decide +kernel
theorem d2_182 : decode method_4_code 182 = .ok (.iload 4, 2) := by decide +kernel
theorem d2_184 : decode method_4_code 184 = .ok (.iconst 4, 1) := by decide +kernel
theorem d2_185 : decode method_4_code 185 = .ok (.if_icmp .ne 37, 3) := by decide +kernel
theorem d2_222 : decode method_4_code 222 = .ok (.iload 5, 2) := by decide +kernel
theorem d2_224 : decode method_4_code 224 = .ok (.iload 6, 2) := by decide +kernel
theorem d2_226 : decode method_4_code 226 = .ok (.if_icmp .ge 5, 3) := by decide +kernel
theorem d2_229 : decode method_4_code 229 = .ok (.iconst 0, 1) := by decide +kernel
theorem d2_230 : decode method_4_code 230 = .ok (.ireturn, 1) := by decide +kernel
theorem d2_231 : decode method_4_code 231 = .ok (.iload 5, 2) := by decide +kernel
theorem d2_233 : decode method_4_code 233 = .ok (.ldc 23, 2) := by decide +kernel
theorem d2_235 : decode method_4_code 235 = .ok (.if_icmp .lt 12, 3) := by decide +kernel
theorem d2_238 : decode method_4_code 238 = .ok (.iload 5, 2) := by decide +kernel
theorem d2_240 : decode method_4_code 240 = .ok (.ldc 24, 2) := by decide +kernel
theorem d2_242 : decode method_4_code 242 = .ok (.if_icmp .gt 5, 3) := by decide +kernel
theorem d2_245 : decode method_4_code 245 = .ok (.iconst 0, 1) := by decide +kernel
theorem d2_246 : decode method_4_code 246 = .ok (.ireturn, 1) := by decide +kernel
theorem d2_247 : decode method_4_code 247 = .ok (.iload 5, 2) := by decide +kernel
theorem d2_249 : decode method_4_code 249 = .ok (.ldc 25, 2) := by decide +kernel
theorem d2_251 : decode method_4_code 251 = .ok (.if_icmp .le 5, 3) := by decide +kernel
theorem d2_254 : decode method_4_code 254 = .ok (.iconst 0, 1) := by decide +kernel
theorem d2_255 : decode method_4_code 255 = .ok (.ireturn, 1) := by decide +kernel
theorem d2_256 : decode method_4_code 256 = .ok (.iload 4, 2) := by decide +kernel
theorem d2_258 : decode method_4_code 258 = .ok (.ireturn, 1) := by decide +kernel
theorem pn_rm2_2 : plainFor (⟨"com/example/vegeu/vegeu/model/Utf8IsWellFormedPinLaw", "seq", "([III)I"⟩ : MethodName) = true := plainFor_of_name (by first | (simp [plainName, overriddenIn]; done) | decide +kernel)
theorem ef_rm2_2 (m : MethodId) (x0 : Addr) (x1 : Int32) (x2 : Int32) : entryFrame m #[(.ref x0), (.int x1), (.int x2)] 9 = mkF m 0 #[.val (.ref x0), .val (.int x1), .val (.int x2), .unset, .unset, .unset, .unset, .unset, .unset] [] := by first | (simp [entryFrame, mkF, argsToLocals, Value.category]; done) | rfl
set_option maxRecDepth 65536 in
set_option maxHeartbeats 4000000 in
theorem rm2_2 (l : Launch) (Z : State) (a0 : Array Value) (hw : ∀ d ∈ tables_1, d.before a0 Z = true) (n0 : Nat) (a : Addr) (i : Int32) (ed : Int32) (h0 : Heap) (hn0 : n0 ≤ h0.size) (vs : List Int32) (A : own_A Z h0 a .int vs) (u0 u1 : Int32) (hm : ed - i = (2 : Int32)) (g0 : own_in i vs.length = true) (f0 : vs.getD (i).toNatClampNeg 0 = u0) (g1 : own_in (i + (1 : Int32)) vs.length = true) (f1 : vs.getD ((i + (1 : Int32))).toNatClampNeg 0 = u1) (r0 : 0 ≤ u0.toInt ∧ u0.toInt < 256) (r1 : 0 ≤ u1.toInt ∧ u1.toInt < 256) :
    own_Met l (⟨"com/example/vegeu/vegeu/model/Utf8IsWellFormedPinLaw", "seq", "([III)I"⟩ : MethodName) method_4_code 9 (some .int) ({ frames := 0, cells := 0, slots := 0, locals := 0 } : Room) Z n0 #[(.ref a), (.int i), (.int ed)] h0 (some (.int (own_sl [u0, u1]))) (fun h' => h' = h0) := by
  refine own_met pn_rm2_2 hn0 ?_
  intro p e s m below meth c T X
  refine own_cast (ef_rm2_2 m a i ed) ?_
  generalize hΦ : own_Q n0 below s _ _ _ = Φ
  have B0 := own_b4 u0 r0
  have B1 := own_b4 u1 r1
  refine own_aloadN X (pc' := 1) d2_0 rfl rfl rfl ?_
  refine own_iloadN X (pc' := 2) d2_1 rfl rfl ?_
  refine own_iaload X (v := u0) (pc' := 3) A g0 f0 d2_2 rfl ?_
  refine own_istoreN X (pc' := 4) (Ls' := #[.val (.ref a), .val (.int i), .val (.int ed), .val (.int u0), .unset, .unset, .unset, .unset, .unset]) d2_3 rfl rfl ?_
  refine own_iloadN X (pc' := 5) d2_4 rfl rfl ?_
  refine own_sipush X (v := (128 : Int32)) (pc' := 8) d2_5 rfl (by decide) ?_
  refine own_icmp_ge X (pct := 13) (pc' := 11) d2_8 rfl (by decide) (by decide) (fun hc8_1 => ?_) (fun hc8_1 => ?_)
  · refine own_iloadN X (pc' := 14) d2_13 rfl rfl ?_
    refine own_sipush X (v := (224 : Int32)) (pc' := 17) d2_14 rfl (by decide) ?_
    refine own_iand X (r := (u0 &&& (224 : Int32))) (pc' := 18) d2_17 rfl rfl ?_
    refine own_sipush X (v := (192 : Int32)) (pc' := 21) d2_18 rfl (by decide) ?_
    refine own_icmp_ne X (pct := 41) (pc' := 24) d2_21 rfl (by decide) (by decide) (fun hc21_2 => ?_) (fun hc21_2 => ?_)
    · refine own_iloadN X (pc' := 42) d2_41 rfl rfl ?_
      refine own_sipush X (v := (240 : Int32)) (pc' := 45) d2_42 rfl (by decide) ?_
      refine own_iand X (r := (u0 &&& (240 : Int32))) (pc' := 46) d2_45 rfl rfl ?_
      refine own_sipush X (v := (224 : Int32)) (pc' := 49) d2_46 rfl (by decide) ?_
      refine own_icmp_ne X (pct := 69) (pc' := 52) d2_49 rfl (by decide) (by decide) (fun hc49_3 => ?_) (fun hc49_3 => ?_)
      · refine own_iloadN X (pc' := 70) d2_69 rfl rfl ?_
        refine own_sipush X (v := (248 : Int32)) (pc' := 73) d2_70 rfl (by decide) ?_
        refine own_iand X (r := (u0 &&& (248 : Int32))) (pc' := 74) d2_73 rfl rfl ?_
        refine own_sipush X (v := (240 : Int32)) (pc' := 77) d2_74 rfl (by decide) ?_
        refine own_icmp_ne X (pct := 96) (pc' := 80) d2_77 rfl (by decide) (by decide) (fun hc77_4 => ?_) (fun hc77_4 => ?_)
        · refine own_iconst X (v := (0 : Int32)) (pc' := 97) d2_96 rfl (by decide) ?_
          subst hΦ
          refine own_retI X d2_97 (by decide) (by decide) ?_ rfl
          rw [B0.1] at hc21_2
          rw [B0.2.1] at hc49_3
          rw [B0.2.2.1] at hc77_4
          rw [Int32.lt_iff_toInt_lt] at hc8_1
          simp only [Int32.reduceToInt] at hc8_1
          show some (Value.int (0 : Int32)) = some (Value.int (own_g 2 u0 u1 0 0))
          unfold own_g
          repeat' split
          all_goals first | rfl | omega
        · refine own_iconst X (v := (4 : Int32)) (pc' := 81) d2_80 rfl (by decide) ?_
          refine own_istore X (pc' := 83) (Ls' := #[.val (.ref a), .val (.int i), .val (.int ed), .val (.int u0), .val (.int (4 : Int32)), .unset, .unset, .unset, .unset]) d2_81 rfl rfl ?_
          refine own_iloadN X (pc' := 84) d2_83 rfl rfl ?_
          refine own_bipush X (v := (7 : Int32)) (pc' := 86) d2_84 rfl (by decide) ?_
          refine own_iand X (r := (u0 &&& (7 : Int32))) (pc' := 87) d2_86 rfl rfl ?_
          refine own_istore X (pc' := 89) (Ls' := #[.val (.ref a), .val (.int i), .val (.int ed), .val (.int u0), .val (.int (4 : Int32)), .val (.int (u0 &&& (7 : Int32))), .unset, .unset, .unset]) d2_87 rfl rfl ?_
          refine own_ldc X (pc' := 91) (hw _ (List.mem_of_getElem? (i := 15) rfl)) d2_89 rfl ?_
          refine own_istore X (pc' := 93) (Ls' := #[.val (.ref a), .val (.int i), .val (.int ed), .val (.int u0), .val (.int (4 : Int32)), .val (.int (u0 &&& (7 : Int32))), .val (.int (65536 : Int32)), .unset, .unset]) d2_91 rfl rfl ?_
          refine own_goto X (pc' := 98) d2_93 (by decide) (by decide) ?_
          refine own_iloadN X (pc' := 99) d2_98 rfl rfl ?_
          refine own_iloadN X (pc' := 100) d2_99 rfl rfl ?_
          refine own_isub X (r := (ed - i)) (pc' := 101) d2_100 rfl rfl ?_
          rw [hm]
          refine own_iload X (pc' := 103) d2_101 rfl rfl ?_
          refine own_icmp_ge X (pct := 108) (pc' := 106) d2_103 rfl (by decide) (by decide) (fun hc => absurd hc (by decide)) (fun _ => ?_)
          refine own_iconst X (v := (0 : Int32)) (pc' := 107) d2_106 rfl (by decide) ?_
          subst hΦ
          refine own_retI X d2_107 (by decide) (by decide) ?_ rfl
          rw [B0.1] at hc21_2
          rw [B0.2.1] at hc49_3
          rw [B0.2.2.1] at hc77_4
          rw [Int32.lt_iff_toInt_lt] at hc8_1
          simp only [Int32.reduceToInt] at hc8_1
          show some (Value.int (0 : Int32)) = some (Value.int (own_g 2 u0 u1 0 0))
          unfold own_g
          repeat' split
          all_goals first | rfl | omega
      · refine own_iconst X (v := (3 : Int32)) (pc' := 53) d2_52 rfl (by decide) ?_
        refine own_istore X (pc' := 55) (Ls' := #[.val (.ref a), .val (.int i), .val (.int ed), .val (.int u0), .val (.int (3 : Int32)), .unset, .unset, .unset, .unset]) d2_53 rfl rfl ?_
        refine own_iloadN X (pc' := 56) d2_55 rfl rfl ?_
        refine own_bipush X (v := (15 : Int32)) (pc' := 58) d2_56 rfl (by decide) ?_
        refine own_iand X (r := (u0 &&& (15 : Int32))) (pc' := 59) d2_58 rfl rfl ?_
        refine own_istore X (pc' := 61) (Ls' := #[.val (.ref a), .val (.int i), .val (.int ed), .val (.int u0), .val (.int (3 : Int32)), .val (.int (u0 &&& (15 : Int32))), .unset, .unset, .unset]) d2_59 rfl rfl ?_
        refine own_sipush X (v := (2048 : Int32)) (pc' := 64) d2_61 rfl (by decide) ?_
        refine own_istore X (pc' := 66) (Ls' := #[.val (.ref a), .val (.int i), .val (.int ed), .val (.int u0), .val (.int (3 : Int32)), .val (.int (u0 &&& (15 : Int32))), .val (.int (2048 : Int32)), .unset, .unset]) d2_64 rfl rfl ?_
        refine own_goto X (pc' := 98) d2_66 (by decide) (by decide) ?_
        refine own_iloadN X (pc' := 99) d2_98 rfl rfl ?_
        refine own_iloadN X (pc' := 100) d2_99 rfl rfl ?_
        refine own_isub X (r := (ed - i)) (pc' := 101) d2_100 rfl rfl ?_
        rw [hm]
        refine own_iload X (pc' := 103) d2_101 rfl rfl ?_
        refine own_icmp_ge X (pct := 108) (pc' := 106) d2_103 rfl (by decide) (by decide) (fun hc => absurd hc (by decide)) (fun _ => ?_)
        refine own_iconst X (v := (0 : Int32)) (pc' := 107) d2_106 rfl (by decide) ?_
        subst hΦ
        refine own_retI X d2_107 (by decide) (by decide) ?_ rfl
        rw [B0.1] at hc21_2
        rw [B0.2.1] at hc49_3
        rw [Int32.lt_iff_toInt_lt] at hc8_1
        simp only [Int32.reduceToInt] at hc8_1
        show some (Value.int (0 : Int32)) = some (Value.int (own_g 2 u0 u1 0 0))
        unfold own_g
        repeat' split
        all_goals first | rfl | omega
    · refine own_iconst X (v := (2 : Int32)) (pc' := 25) d2_24 rfl (by decide) ?_
      refine own_istore X (pc' := 27) (Ls' := #[.val (.ref a), .val (.int i), .val (.int ed), .val (.int u0), .val (.int (2 : Int32)), .unset, .unset, .unset, .unset]) d2_25 rfl rfl ?_
      refine own_iloadN X (pc' := 28) d2_27 rfl rfl ?_
      refine own_bipush X (v := (31 : Int32)) (pc' := 30) d2_28 rfl (by decide) ?_
      refine own_iand X (r := (u0 &&& (31 : Int32))) (pc' := 31) d2_30 rfl rfl ?_
      refine own_istore X (pc' := 33) (Ls' := #[.val (.ref a), .val (.int i), .val (.int ed), .val (.int u0), .val (.int (2 : Int32)), .val (.int (u0 &&& (31 : Int32))), .unset, .unset, .unset]) d2_31 rfl rfl ?_
      refine own_sipush X (v := (128 : Int32)) (pc' := 36) d2_33 rfl (by decide) ?_
      refine own_istore X (pc' := 38) (Ls' := #[.val (.ref a), .val (.int i), .val (.int ed), .val (.int u0), .val (.int (2 : Int32)), .val (.int (u0 &&& (31 : Int32))), .val (.int (128 : Int32)), .unset, .unset]) d2_36 rfl rfl ?_
      refine own_goto X (pc' := 98) d2_38 (by decide) (by decide) ?_
      refine own_iloadN X (pc' := 99) d2_98 rfl rfl ?_
      refine own_iloadN X (pc' := 100) d2_99 rfl rfl ?_
      refine own_isub X (r := (ed - i)) (pc' := 101) d2_100 rfl rfl ?_
      rw [hm]
      refine own_iload X (pc' := 103) d2_101 rfl rfl ?_
      refine own_icmp_ge X (pct := 108) (pc' := 106) d2_103 rfl (by decide) (by decide) (fun _ => ?_) (fun hc => absurd hc (by decide))
      refine own_aloadN X (pc' := 109) d2_108 rfl rfl rfl ?_
      refine own_iloadN X (pc' := 110) d2_109 rfl rfl ?_
      refine own_iconst X (v := (1 : Int32)) (pc' := 111) d2_110 rfl (by decide) ?_
      refine own_iadd X (r := (i + (1 : Int32))) (pc' := 112) d2_111 rfl rfl ?_
      refine own_iaload X (v := u1) (pc' := 113) A g1 f1 d2_112 rfl ?_
      refine own_istore X (pc' := 115) (Ls' := #[.val (.ref a), .val (.int i), .val (.int ed), .val (.int u0), .val (.int (2 : Int32)), .val (.int (u0 &&& (31 : Int32))), .val (.int (128 : Int32)), .val (.int u1), .unset]) d2_113 rfl rfl ?_
      refine own_iload X (pc' := 117) d2_115 rfl rfl ?_
      refine own_sipush X (v := (192 : Int32)) (pc' := 120) d2_117 rfl (by decide) ?_
      refine own_iand X (r := (u1 &&& (192 : Int32))) (pc' := 121) d2_120 rfl rfl ?_
      refine own_sipush X (v := (128 : Int32)) (pc' := 124) d2_121 rfl (by decide) ?_
      refine own_icmp_eq X (pct := 129) (pc' := 127) d2_124 rfl (by decide) (by decide) (fun hc124_5 => ?_) (fun hc124_5 => ?_)
      · refine own_iload X (pc' := 131) d2_129 rfl rfl ?_
        refine own_bipush X (v := (6 : Int32)) (pc' := 133) d2_131 rfl (by decide) ?_
        refine own_ishl X (r := ((u0 &&& (31 : Int32)) <<< ((6 : Int32) &&& 31))) (pc' := 134) d2_133 rfl rfl ?_
        refine own_iload X (pc' := 136) d2_134 rfl rfl ?_
        refine own_bipush X (v := (63 : Int32)) (pc' := 138) d2_136 rfl (by decide) ?_
        refine own_iand X (r := (u1 &&& (63 : Int32))) (pc' := 139) d2_138 rfl rfl ?_
        refine own_ior X (r := (((u0 &&& (31 : Int32)) <<< ((6 : Int32) &&& 31)) ||| (u1 &&& (63 : Int32)))) (pc' := 140) d2_139 rfl rfl ?_
        refine own_istore X (pc' := 142) (Ls' := #[.val (.ref a), .val (.int i), .val (.int ed), .val (.int u0), .val (.int (2 : Int32)), .val (.int (((u0 &&& (31 : Int32)) <<< ((6 : Int32) &&& 31)) ||| (u1 &&& (63 : Int32)))), .val (.int (128 : Int32)), .val (.int u1), .unset]) d2_140 rfl rfl ?_
        refine own_iload X (pc' := 144) d2_142 rfl rfl ?_
        refine own_iconst X (v := (3 : Int32)) (pc' := 145) d2_144 rfl (by decide) ?_
        refine own_icmp_lt X (pct := 182) (pc' := 148) d2_145 rfl (by decide) (by decide) (fun _ => ?_) (fun hc => absurd hc (by decide))
        refine own_iload X (pc' := 184) d2_182 rfl rfl ?_
        refine own_iconst X (v := (4 : Int32)) (pc' := 185) d2_184 rfl (by decide) ?_
        refine own_icmp_ne X (pct := 222) (pc' := 188) d2_185 rfl (by decide) (by decide) (fun _ => ?_) (fun hc => absurd hc (by decide))
        refine own_iload X (pc' := 224) d2_222 rfl rfl ?_
        refine own_iload X (pc' := 226) d2_224 rfl rfl ?_
        refine own_icmp_ge X (pct := 231) (pc' := 229) d2_226 rfl (by decide) (by decide) (fun hc226_6 => ?_) (fun hc226_6 => ?_)
        · refine own_iload X (pc' := 233) d2_231 rfl rfl ?_
          refine own_ldc X (pc' := 235) (hw _ (List.mem_of_getElem? (i := 13) rfl)) d2_233 rfl ?_
          refine own_icmp_lt X (pct := 247) (pc' := 238) d2_235 rfl (by decide) (by decide) (fun hc235_7 => ?_) (fun hc235_7 => ?_)
          · refine own_iload X (pc' := 249) d2_247 rfl rfl ?_
            refine own_ldc X (pc' := 251) (hw _ (List.mem_of_getElem? (i := 14) rfl)) d2_249 rfl ?_
            refine own_icmp_le X (pct := 256) (pc' := 254) d2_251 rfl (by decide) (by decide) (fun _ => ?_) (fun hc => absurd hc (by simp only [Int32.lt_iff_toInt_lt, ← Int32.toInt_inj, Int32.reduceToInt] at hc226_6 hc235_7 ⊢; omega))
            refine own_iload X (pc' := 258) d2_256 rfl rfl ?_
            subst hΦ
            refine own_retI X d2_258 (by decide) (by decide) ?_ rfl
            rw [B0.1] at hc21_2
            rw [B1.2.2.2] at hc124_5
            rw [Int32.lt_iff_toInt_lt] at hc8_1 hc226_6 hc235_7
            simp only [Int32.reduceToInt] at hc8_1 hc226_6 hc235_7
            have mm := c_mask u0 31 5 (by decide) (by decide)
            have P1 := own_cp2 (u0 &&& (31 : Int32)) u1 0 (by omega)
            show some (Value.int (2 : Int32)) = some (Value.int (own_g 2 u0 u1 0 0))
            unfold own_g
            repeat' split
            all_goals first | rfl | omega
          · refine own_iload X (pc' := 240) d2_238 rfl rfl ?_
            refine own_ldc X (pc' := 242) (hw _ (List.mem_of_getElem? (i := 16) rfl)) d2_240 rfl ?_
            refine own_icmp_gt X (pct := 247) (pc' := 245) d2_242 rfl (by decide) (by decide) (fun hc242_8 => ?_) (fun hc242_8 => ?_)
            · refine own_iload X (pc' := 249) d2_247 rfl rfl ?_
              refine own_ldc X (pc' := 251) (hw _ (List.mem_of_getElem? (i := 14) rfl)) d2_249 rfl ?_
              refine own_icmp_le X (pct := 256) (pc' := 254) d2_251 rfl (by decide) (by decide) (fun hc251_9 => ?_) (fun hc251_9 => ?_)
              · refine own_iload X (pc' := 258) d2_256 rfl rfl ?_
                subst hΦ
                refine own_retI X d2_258 (by decide) (by decide) ?_ rfl
                rw [B0.1] at hc21_2
                rw [B1.2.2.2] at hc124_5
                rw [Int32.lt_iff_toInt_lt] at hc8_1 hc226_6 hc235_7 hc242_8 hc251_9
                simp only [Int32.reduceToInt] at hc8_1 hc226_6 hc235_7 hc242_8 hc251_9
                have mm := c_mask u0 31 5 (by decide) (by decide)
                have P1 := own_cp2 (u0 &&& (31 : Int32)) u1 0 (by omega)
                show some (Value.int (2 : Int32)) = some (Value.int (own_g 2 u0 u1 0 0))
                unfold own_g
                repeat' split
                all_goals first | rfl | omega
              · refine own_iconst X (v := (0 : Int32)) (pc' := 255) d2_254 rfl (by decide) ?_
                subst hΦ
                refine own_retI X d2_255 (by decide) (by decide) ?_ rfl
                rw [B0.1] at hc21_2
                rw [B1.2.2.2] at hc124_5
                rw [Int32.lt_iff_toInt_lt] at hc8_1 hc226_6 hc235_7 hc242_8 hc251_9
                simp only [Int32.reduceToInt] at hc8_1 hc226_6 hc235_7 hc242_8 hc251_9
                have mm := c_mask u0 31 5 (by decide) (by decide)
                have P1 := own_cp2 (u0 &&& (31 : Int32)) u1 0 (by omega)
                show some (Value.int (0 : Int32)) = some (Value.int (own_g 2 u0 u1 0 0))
                unfold own_g
                repeat' split
                all_goals first | rfl | omega
            · refine own_iconst X (v := (0 : Int32)) (pc' := 246) d2_245 rfl (by decide) ?_
              subst hΦ
              refine own_retI X d2_246 (by decide) (by decide) ?_ rfl
              rw [B0.1] at hc21_2
              rw [B1.2.2.2] at hc124_5
              rw [Int32.lt_iff_toInt_lt] at hc8_1 hc226_6 hc235_7 hc242_8
              simp only [Int32.reduceToInt] at hc8_1 hc226_6 hc235_7 hc242_8
              have mm := c_mask u0 31 5 (by decide) (by decide)
              have P1 := own_cp2 (u0 &&& (31 : Int32)) u1 0 (by omega)
              show some (Value.int (0 : Int32)) = some (Value.int (own_g 2 u0 u1 0 0))
              unfold own_g
              repeat' split
              all_goals first | rfl | omega
        · refine own_iconst X (v := (0 : Int32)) (pc' := 230) d2_229 rfl (by decide) ?_
          subst hΦ
          refine own_retI X d2_230 (by decide) (by decide) ?_ rfl
          rw [B0.1] at hc21_2
          rw [B1.2.2.2] at hc124_5
          rw [Int32.lt_iff_toInt_lt] at hc8_1 hc226_6
          simp only [Int32.reduceToInt] at hc8_1 hc226_6
          have mm := c_mask u0 31 5 (by decide) (by decide)
          have P1 := own_cp2 (u0 &&& (31 : Int32)) u1 0 (by omega)
          show some (Value.int (0 : Int32)) = some (Value.int (own_g 2 u0 u1 0 0))
          unfold own_g
          repeat' split
          all_goals first | rfl | omega
      · refine own_iconst X (v := (0 : Int32)) (pc' := 128) d2_127 rfl (by decide) ?_
        subst hΦ
        refine own_retI X d2_128 (by decide) (by decide) ?_ rfl
        rw [B0.1] at hc21_2
        rw [B1.2.2.2] at hc124_5
        rw [Int32.lt_iff_toInt_lt] at hc8_1
        simp only [Int32.reduceToInt] at hc8_1
        show some (Value.int (0 : Int32)) = some (Value.int (own_g 2 u0 u1 0 0))
        unfold own_g
        repeat' split
        all_goals first | rfl | omega
  · refine own_iconst X (v := (1 : Int32)) (pc' := 12) d2_11 rfl (by decide) ?_
    subst hΦ
    refine own_retI X d2_12 (by decide) (by decide) ?_ rfl
    rw [Int32.lt_iff_toInt_lt] at hc8_1
    simp only [Int32.reduceToInt] at hc8_1
    show some (Value.int (1 : Int32)) = some (Value.int (own_g 2 u0 u1 0 0))
    unfold own_g
    repeat' split
    all_goals first | rfl | omega
theorem d2_148 : decode method_4_code 148 = .ok (.aload_n 0, 1) := by decide +kernel
theorem d2_149 : decode method_4_code 149 = .ok (.iload_n 1, 1) := by decide +kernel
theorem d2_150 : decode method_4_code 150 = .ok (.iconst 2, 1) := by decide +kernel
theorem d2_151 : decode method_4_code 151 = .ok (.iadd, 1) := by decide +kernel
theorem d2_152 : decode method_4_code 152 = .ok (.iaload, 1) := by decide +kernel
theorem d2_153 : decode method_4_code 153 = .ok (.istore 8, 2) := by decide +kernel
theorem d2_155 : decode method_4_code 155 = .ok (.iload 8, 2) := by decide +kernel
theorem d2_157 : decode method_4_code 157 = .ok (.sipush 192, 3) := by decide +kernel
theorem d2_160 : decode method_4_code 160 = .ok (.iand, 1) := by decide +kernel
theorem d2_161 : decode method_4_code 161 = .ok (.sipush 128, 3) := by decide +kernel
theorem d2_164 : decode method_4_code 164 = .ok (.if_icmp .eq 5, 3) := by decide +kernel
theorem d2_167 : decode method_4_code 167 = .ok (.iconst 0, 1) := by decide +kernel
theorem d2_168 : decode method_4_code 168 = .ok (.ireturn, 1) := by decide +kernel
theorem d2_169 : decode method_4_code 169 = .ok (.iload 5, 2) := by decide +kernel
theorem d2_171 : decode method_4_code 171 = .ok (.bipush 6, 2) := by decide +kernel
theorem d2_173 : decode method_4_code 173 = .ok (.ishl, 1) := by decide +kernel
theorem d2_174 : decode method_4_code 174 = .ok (.iload 8, 2) := by decide +kernel
theorem d2_176 : decode method_4_code 176 = .ok (.bipush 63, 2) := by decide +kernel
theorem d2_178 : decode method_4_code 178 = .ok (.iand, 1) := by decide +kernel
theorem d2_179 : decode method_4_code 179 = .ok (.ior, 1) := by decide +kernel
theorem d2_180 : decode method_4_code 180 = .ok (.istore 5, 2) := by decide +kernel
theorem pn_rm2_3 : plainFor (⟨"com/example/vegeu/vegeu/model/Utf8IsWellFormedPinLaw", "seq", "([III)I"⟩ : MethodName) = true := plainFor_of_name (by first | (simp [plainName, overriddenIn]; done) | decide +kernel)
theorem ef_rm2_3 (m : MethodId) (x0 : Addr) (x1 : Int32) (x2 : Int32) : entryFrame m #[(.ref x0), (.int x1), (.int x2)] 9 = mkF m 0 #[.val (.ref x0), .val (.int x1), .val (.int x2), .unset, .unset, .unset, .unset, .unset, .unset] [] := by first | (simp [entryFrame, mkF, argsToLocals, Value.category]; done) | rfl
set_option maxRecDepth 65536 in
set_option maxHeartbeats 4000000 in
theorem rm2_3 (l : Launch) (Z : State) (a0 : Array Value) (hw : ∀ d ∈ tables_1, d.before a0 Z = true) (n0 : Nat) (a : Addr) (i : Int32) (ed : Int32) (h0 : Heap) (hn0 : n0 ≤ h0.size) (vs : List Int32) (A : own_A Z h0 a .int vs) (u0 u1 u2 : Int32) (hm : ed - i = (3 : Int32)) (g0 : own_in i vs.length = true) (f0 : vs.getD (i).toNatClampNeg 0 = u0) (g1 : own_in (i + (1 : Int32)) vs.length = true) (f1 : vs.getD ((i + (1 : Int32))).toNatClampNeg 0 = u1) (g2 : own_in (i + (2 : Int32)) vs.length = true) (f2 : vs.getD ((i + (2 : Int32))).toNatClampNeg 0 = u2) (r0 : 0 ≤ u0.toInt ∧ u0.toInt < 256) (r1 : 0 ≤ u1.toInt ∧ u1.toInt < 256) (r2 : 0 ≤ u2.toInt ∧ u2.toInt < 256) :
    own_Met l (⟨"com/example/vegeu/vegeu/model/Utf8IsWellFormedPinLaw", "seq", "([III)I"⟩ : MethodName) method_4_code 9 (some .int) ({ frames := 0, cells := 0, slots := 0, locals := 0 } : Room) Z n0 #[(.ref a), (.int i), (.int ed)] h0 (some (.int (own_sl [u0, u1, u2]))) (fun h' => h' = h0) := by
  refine own_met pn_rm2_3 hn0 ?_
  intro p e s m below meth c T X
  refine own_cast (ef_rm2_3 m a i ed) ?_
  generalize hΦ : own_Q n0 below s _ _ _ = Φ
  have B0 := own_b4 u0 r0
  have B1 := own_b4 u1 r1
  have B2 := own_b4 u2 r2
  refine own_aloadN X (pc' := 1) d2_0 rfl rfl rfl ?_
  refine own_iloadN X (pc' := 2) d2_1 rfl rfl ?_
  refine own_iaload X (v := u0) (pc' := 3) A g0 f0 d2_2 rfl ?_
  refine own_istoreN X (pc' := 4) (Ls' := #[.val (.ref a), .val (.int i), .val (.int ed), .val (.int u0), .unset, .unset, .unset, .unset, .unset]) d2_3 rfl rfl ?_
  refine own_iloadN X (pc' := 5) d2_4 rfl rfl ?_
  refine own_sipush X (v := (128 : Int32)) (pc' := 8) d2_5 rfl (by decide) ?_
  refine own_icmp_ge X (pct := 13) (pc' := 11) d2_8 rfl (by decide) (by decide) (fun hc8_1 => ?_) (fun hc8_1 => ?_)
  · refine own_iloadN X (pc' := 14) d2_13 rfl rfl ?_
    refine own_sipush X (v := (224 : Int32)) (pc' := 17) d2_14 rfl (by decide) ?_
    refine own_iand X (r := (u0 &&& (224 : Int32))) (pc' := 18) d2_17 rfl rfl ?_
    refine own_sipush X (v := (192 : Int32)) (pc' := 21) d2_18 rfl (by decide) ?_
    refine own_icmp_ne X (pct := 41) (pc' := 24) d2_21 rfl (by decide) (by decide) (fun hc21_2 => ?_) (fun hc21_2 => ?_)
    · refine own_iloadN X (pc' := 42) d2_41 rfl rfl ?_
      refine own_sipush X (v := (240 : Int32)) (pc' := 45) d2_42 rfl (by decide) ?_
      refine own_iand X (r := (u0 &&& (240 : Int32))) (pc' := 46) d2_45 rfl rfl ?_
      refine own_sipush X (v := (224 : Int32)) (pc' := 49) d2_46 rfl (by decide) ?_
      refine own_icmp_ne X (pct := 69) (pc' := 52) d2_49 rfl (by decide) (by decide) (fun hc49_3 => ?_) (fun hc49_3 => ?_)
      · refine own_iloadN X (pc' := 70) d2_69 rfl rfl ?_
        refine own_sipush X (v := (248 : Int32)) (pc' := 73) d2_70 rfl (by decide) ?_
        refine own_iand X (r := (u0 &&& (248 : Int32))) (pc' := 74) d2_73 rfl rfl ?_
        refine own_sipush X (v := (240 : Int32)) (pc' := 77) d2_74 rfl (by decide) ?_
        refine own_icmp_ne X (pct := 96) (pc' := 80) d2_77 rfl (by decide) (by decide) (fun hc77_4 => ?_) (fun hc77_4 => ?_)
        · refine own_iconst X (v := (0 : Int32)) (pc' := 97) d2_96 rfl (by decide) ?_
          subst hΦ
          refine own_retI X d2_97 (by decide) (by decide) ?_ rfl
          rw [B0.1] at hc21_2
          rw [B0.2.1] at hc49_3
          rw [B0.2.2.1] at hc77_4
          rw [Int32.lt_iff_toInt_lt] at hc8_1
          simp only [Int32.reduceToInt] at hc8_1
          show some (Value.int (0 : Int32)) = some (Value.int (own_g 3 u0 u1 u2 0))
          unfold own_g
          repeat' split
          all_goals first | rfl | omega
        · refine own_iconst X (v := (4 : Int32)) (pc' := 81) d2_80 rfl (by decide) ?_
          refine own_istore X (pc' := 83) (Ls' := #[.val (.ref a), .val (.int i), .val (.int ed), .val (.int u0), .val (.int (4 : Int32)), .unset, .unset, .unset, .unset]) d2_81 rfl rfl ?_
          refine own_iloadN X (pc' := 84) d2_83 rfl rfl ?_
          refine own_bipush X (v := (7 : Int32)) (pc' := 86) d2_84 rfl (by decide) ?_
          refine own_iand X (r := (u0 &&& (7 : Int32))) (pc' := 87) d2_86 rfl rfl ?_
          refine own_istore X (pc' := 89) (Ls' := #[.val (.ref a), .val (.int i), .val (.int ed), .val (.int u0), .val (.int (4 : Int32)), .val (.int (u0 &&& (7 : Int32))), .unset, .unset, .unset]) d2_87 rfl rfl ?_
          refine own_ldc X (pc' := 91) (hw _ (List.mem_of_getElem? (i := 15) rfl)) d2_89 rfl ?_
          refine own_istore X (pc' := 93) (Ls' := #[.val (.ref a), .val (.int i), .val (.int ed), .val (.int u0), .val (.int (4 : Int32)), .val (.int (u0 &&& (7 : Int32))), .val (.int (65536 : Int32)), .unset, .unset]) d2_91 rfl rfl ?_
          refine own_goto X (pc' := 98) d2_93 (by decide) (by decide) ?_
          refine own_iloadN X (pc' := 99) d2_98 rfl rfl ?_
          refine own_iloadN X (pc' := 100) d2_99 rfl rfl ?_
          refine own_isub X (r := (ed - i)) (pc' := 101) d2_100 rfl rfl ?_
          rw [hm]
          refine own_iload X (pc' := 103) d2_101 rfl rfl ?_
          refine own_icmp_ge X (pct := 108) (pc' := 106) d2_103 rfl (by decide) (by decide) (fun hc => absurd hc (by decide)) (fun _ => ?_)
          refine own_iconst X (v := (0 : Int32)) (pc' := 107) d2_106 rfl (by decide) ?_
          subst hΦ
          refine own_retI X d2_107 (by decide) (by decide) ?_ rfl
          rw [B0.1] at hc21_2
          rw [B0.2.1] at hc49_3
          rw [B0.2.2.1] at hc77_4
          rw [Int32.lt_iff_toInt_lt] at hc8_1
          simp only [Int32.reduceToInt] at hc8_1
          show some (Value.int (0 : Int32)) = some (Value.int (own_g 3 u0 u1 u2 0))
          unfold own_g
          repeat' split
          all_goals first | rfl | omega
      · refine own_iconst X (v := (3 : Int32)) (pc' := 53) d2_52 rfl (by decide) ?_
        refine own_istore X (pc' := 55) (Ls' := #[.val (.ref a), .val (.int i), .val (.int ed), .val (.int u0), .val (.int (3 : Int32)), .unset, .unset, .unset, .unset]) d2_53 rfl rfl ?_
        refine own_iloadN X (pc' := 56) d2_55 rfl rfl ?_
        refine own_bipush X (v := (15 : Int32)) (pc' := 58) d2_56 rfl (by decide) ?_
        refine own_iand X (r := (u0 &&& (15 : Int32))) (pc' := 59) d2_58 rfl rfl ?_
        refine own_istore X (pc' := 61) (Ls' := #[.val (.ref a), .val (.int i), .val (.int ed), .val (.int u0), .val (.int (3 : Int32)), .val (.int (u0 &&& (15 : Int32))), .unset, .unset, .unset]) d2_59 rfl rfl ?_
        refine own_sipush X (v := (2048 : Int32)) (pc' := 64) d2_61 rfl (by decide) ?_
        refine own_istore X (pc' := 66) (Ls' := #[.val (.ref a), .val (.int i), .val (.int ed), .val (.int u0), .val (.int (3 : Int32)), .val (.int (u0 &&& (15 : Int32))), .val (.int (2048 : Int32)), .unset, .unset]) d2_64 rfl rfl ?_
        refine own_goto X (pc' := 98) d2_66 (by decide) (by decide) ?_
        refine own_iloadN X (pc' := 99) d2_98 rfl rfl ?_
        refine own_iloadN X (pc' := 100) d2_99 rfl rfl ?_
        refine own_isub X (r := (ed - i)) (pc' := 101) d2_100 rfl rfl ?_
        rw [hm]
        refine own_iload X (pc' := 103) d2_101 rfl rfl ?_
        refine own_icmp_ge X (pct := 108) (pc' := 106) d2_103 rfl (by decide) (by decide) (fun _ => ?_) (fun hc => absurd hc (by decide))
        refine own_aloadN X (pc' := 109) d2_108 rfl rfl rfl ?_
        refine own_iloadN X (pc' := 110) d2_109 rfl rfl ?_
        refine own_iconst X (v := (1 : Int32)) (pc' := 111) d2_110 rfl (by decide) ?_
        refine own_iadd X (r := (i + (1 : Int32))) (pc' := 112) d2_111 rfl rfl ?_
        refine own_iaload X (v := u1) (pc' := 113) A g1 f1 d2_112 rfl ?_
        refine own_istore X (pc' := 115) (Ls' := #[.val (.ref a), .val (.int i), .val (.int ed), .val (.int u0), .val (.int (3 : Int32)), .val (.int (u0 &&& (15 : Int32))), .val (.int (2048 : Int32)), .val (.int u1), .unset]) d2_113 rfl rfl ?_
        refine own_iload X (pc' := 117) d2_115 rfl rfl ?_
        refine own_sipush X (v := (192 : Int32)) (pc' := 120) d2_117 rfl (by decide) ?_
        refine own_iand X (r := (u1 &&& (192 : Int32))) (pc' := 121) d2_120 rfl rfl ?_
        refine own_sipush X (v := (128 : Int32)) (pc' := 124) d2_121 rfl (by decide) ?_
        refine own_icmp_eq X (pct := 129) (pc' := 127) d2_124 rfl (by decide) (by decide) (fun hc124_5 => ?_) (fun hc124_5 => ?_)
        · refine own_iload X (pc' := 131) d2_129 rfl rfl ?_
          refine own_bipush X (v := (6 : Int32)) (pc' := 133) d2_131 rfl (by decide) ?_
          refine own_ishl X (r := ((u0 &&& (15 : Int32)) <<< ((6 : Int32) &&& 31))) (pc' := 134) d2_133 rfl rfl ?_
          refine own_iload X (pc' := 136) d2_134 rfl rfl ?_
          refine own_bipush X (v := (63 : Int32)) (pc' := 138) d2_136 rfl (by decide) ?_
          refine own_iand X (r := (u1 &&& (63 : Int32))) (pc' := 139) d2_138 rfl rfl ?_
          refine own_ior X (r := (((u0 &&& (15 : Int32)) <<< ((6 : Int32) &&& 31)) ||| (u1 &&& (63 : Int32)))) (pc' := 140) d2_139 rfl rfl ?_
          refine own_istore X (pc' := 142) (Ls' := #[.val (.ref a), .val (.int i), .val (.int ed), .val (.int u0), .val (.int (3 : Int32)), .val (.int (((u0 &&& (15 : Int32)) <<< ((6 : Int32) &&& 31)) ||| (u1 &&& (63 : Int32)))), .val (.int (2048 : Int32)), .val (.int u1), .unset]) d2_140 rfl rfl ?_
          refine own_iload X (pc' := 144) d2_142 rfl rfl ?_
          refine own_iconst X (v := (3 : Int32)) (pc' := 145) d2_144 rfl (by decide) ?_
          refine own_icmp_lt X (pct := 182) (pc' := 148) d2_145 rfl (by decide) (by decide) (fun hc => absurd hc (by decide)) (fun _ => ?_)
          refine own_aloadN X (pc' := 149) d2_148 rfl rfl rfl ?_
          refine own_iloadN X (pc' := 150) d2_149 rfl rfl ?_
          refine own_iconst X (v := (2 : Int32)) (pc' := 151) d2_150 rfl (by decide) ?_
          refine own_iadd X (r := (i + (2 : Int32))) (pc' := 152) d2_151 rfl rfl ?_
          refine own_iaload X (v := u2) (pc' := 153) A g2 f2 d2_152 rfl ?_
          refine own_istore X (pc' := 155) (Ls' := #[.val (.ref a), .val (.int i), .val (.int ed), .val (.int u0), .val (.int (3 : Int32)), .val (.int (((u0 &&& (15 : Int32)) <<< ((6 : Int32) &&& 31)) ||| (u1 &&& (63 : Int32)))), .val (.int (2048 : Int32)), .val (.int u1), .val (.int u2)]) d2_153 rfl rfl ?_
          refine own_iload X (pc' := 157) d2_155 rfl rfl ?_
          refine own_sipush X (v := (192 : Int32)) (pc' := 160) d2_157 rfl (by decide) ?_
          refine own_iand X (r := (u2 &&& (192 : Int32))) (pc' := 161) d2_160 rfl rfl ?_
          refine own_sipush X (v := (128 : Int32)) (pc' := 164) d2_161 rfl (by decide) ?_
          refine own_icmp_eq X (pct := 169) (pc' := 167) d2_164 rfl (by decide) (by decide) (fun hc164_6 => ?_) (fun hc164_6 => ?_)
          · refine own_iload X (pc' := 171) d2_169 rfl rfl ?_
            refine own_bipush X (v := (6 : Int32)) (pc' := 173) d2_171 rfl (by decide) ?_
            refine own_ishl X (r := ((((u0 &&& (15 : Int32)) <<< ((6 : Int32) &&& 31)) ||| (u1 &&& (63 : Int32))) <<< ((6 : Int32) &&& 31))) (pc' := 174) d2_173 rfl rfl ?_
            refine own_iload X (pc' := 176) d2_174 rfl rfl ?_
            refine own_bipush X (v := (63 : Int32)) (pc' := 178) d2_176 rfl (by decide) ?_
            refine own_iand X (r := (u2 &&& (63 : Int32))) (pc' := 179) d2_178 rfl rfl ?_
            refine own_ior X (r := (((((u0 &&& (15 : Int32)) <<< ((6 : Int32) &&& 31)) ||| (u1 &&& (63 : Int32))) <<< ((6 : Int32) &&& 31)) ||| (u2 &&& (63 : Int32)))) (pc' := 180) d2_179 rfl rfl ?_
            refine own_istore X (pc' := 182) (Ls' := #[.val (.ref a), .val (.int i), .val (.int ed), .val (.int u0), .val (.int (3 : Int32)), .val (.int (((((u0 &&& (15 : Int32)) <<< ((6 : Int32) &&& 31)) ||| (u1 &&& (63 : Int32))) <<< ((6 : Int32) &&& 31)) ||| (u2 &&& (63 : Int32)))), .val (.int (2048 : Int32)), .val (.int u1), .val (.int u2)]) d2_180 rfl rfl ?_
            refine own_iload X (pc' := 184) d2_182 rfl rfl ?_
            refine own_iconst X (v := (4 : Int32)) (pc' := 185) d2_184 rfl (by decide) ?_
            refine own_icmp_ne X (pct := 222) (pc' := 188) d2_185 rfl (by decide) (by decide) (fun _ => ?_) (fun hc => absurd hc (by decide))
            refine own_iload X (pc' := 224) d2_222 rfl rfl ?_
            refine own_iload X (pc' := 226) d2_224 rfl rfl ?_
            refine own_icmp_ge X (pct := 231) (pc' := 229) d2_226 rfl (by decide) (by decide) (fun hc226_7 => ?_) (fun hc226_7 => ?_)
            · refine own_iload X (pc' := 233) d2_231 rfl rfl ?_
              refine own_ldc X (pc' := 235) (hw _ (List.mem_of_getElem? (i := 13) rfl)) d2_233 rfl ?_
              refine own_icmp_lt X (pct := 247) (pc' := 238) d2_235 rfl (by decide) (by decide) (fun hc235_8 => ?_) (fun hc235_8 => ?_)
              · refine own_iload X (pc' := 249) d2_247 rfl rfl ?_
                refine own_ldc X (pc' := 251) (hw _ (List.mem_of_getElem? (i := 14) rfl)) d2_249 rfl ?_
                refine own_icmp_le X (pct := 256) (pc' := 254) d2_251 rfl (by decide) (by decide) (fun _ => ?_) (fun hc => absurd hc (by simp only [Int32.lt_iff_toInt_lt, ← Int32.toInt_inj, Int32.reduceToInt] at hc226_7 hc235_8 ⊢; omega))
                refine own_iload X (pc' := 258) d2_256 rfl rfl ?_
                subst hΦ
                refine own_retI X d2_258 (by decide) (by decide) ?_ rfl
                rw [B0.1] at hc21_2
                rw [B0.2.1] at hc49_3
                rw [B1.2.2.2] at hc124_5
                rw [B2.2.2.2] at hc164_6
                rw [Int32.lt_iff_toInt_lt] at hc8_1 hc226_7 hc235_8
                simp only [Int32.reduceToInt] at hc8_1 hc226_7 hc235_8
                have mm := c_mask u0 15 4 (by decide) (by decide)
                have P1 := own_cp2 (u0 &&& (15 : Int32)) u1 0 (by omega)
                have P2 := own_cp2 (((u0 &&& (15 : Int32)) <<< ((6 : Int32) &&& 31)) ||| (u1 &&& (63 : Int32))) u2 0 (by omega)
                show some (Value.int (3 : Int32)) = some (Value.int (own_g 3 u0 u1 u2 0))
                unfold own_g
                repeat' split
                all_goals first | rfl | omega
              · refine own_iload X (pc' := 240) d2_238 rfl rfl ?_
                refine own_ldc X (pc' := 242) (hw _ (List.mem_of_getElem? (i := 16) rfl)) d2_240 rfl ?_
                refine own_icmp_gt X (pct := 247) (pc' := 245) d2_242 rfl (by decide) (by decide) (fun hc242_9 => ?_) (fun hc242_9 => ?_)
                · refine own_iload X (pc' := 249) d2_247 rfl rfl ?_
                  refine own_ldc X (pc' := 251) (hw _ (List.mem_of_getElem? (i := 14) rfl)) d2_249 rfl ?_
                  refine own_icmp_le X (pct := 256) (pc' := 254) d2_251 rfl (by decide) (by decide) (fun hc251_10 => ?_) (fun hc251_10 => ?_)
                  · refine own_iload X (pc' := 258) d2_256 rfl rfl ?_
                    subst hΦ
                    refine own_retI X d2_258 (by decide) (by decide) ?_ rfl
                    rw [B0.1] at hc21_2
                    rw [B0.2.1] at hc49_3
                    rw [B1.2.2.2] at hc124_5
                    rw [B2.2.2.2] at hc164_6
                    rw [Int32.lt_iff_toInt_lt] at hc8_1 hc226_7 hc235_8 hc242_9 hc251_10
                    simp only [Int32.reduceToInt] at hc8_1 hc226_7 hc235_8 hc242_9 hc251_10
                    have mm := c_mask u0 15 4 (by decide) (by decide)
                    have P1 := own_cp2 (u0 &&& (15 : Int32)) u1 0 (by omega)
                    have P2 := own_cp2 (((u0 &&& (15 : Int32)) <<< ((6 : Int32) &&& 31)) ||| (u1 &&& (63 : Int32))) u2 0 (by omega)
                    show some (Value.int (3 : Int32)) = some (Value.int (own_g 3 u0 u1 u2 0))
                    unfold own_g
                    repeat' split
                    all_goals first | rfl | omega
                  · refine own_iconst X (v := (0 : Int32)) (pc' := 255) d2_254 rfl (by decide) ?_
                    subst hΦ
                    refine own_retI X d2_255 (by decide) (by decide) ?_ rfl
                    rw [B0.1] at hc21_2
                    rw [B0.2.1] at hc49_3
                    rw [B1.2.2.2] at hc124_5
                    rw [B2.2.2.2] at hc164_6
                    rw [Int32.lt_iff_toInt_lt] at hc8_1 hc226_7 hc235_8 hc242_9 hc251_10
                    simp only [Int32.reduceToInt] at hc8_1 hc226_7 hc235_8 hc242_9 hc251_10
                    have mm := c_mask u0 15 4 (by decide) (by decide)
                    have P1 := own_cp2 (u0 &&& (15 : Int32)) u1 0 (by omega)
                    have P2 := own_cp2 (((u0 &&& (15 : Int32)) <<< ((6 : Int32) &&& 31)) ||| (u1 &&& (63 : Int32))) u2 0 (by omega)
                    show some (Value.int (0 : Int32)) = some (Value.int (own_g 3 u0 u1 u2 0))
                    unfold own_g
                    repeat' split
                    all_goals first | rfl | omega
                · refine own_iconst X (v := (0 : Int32)) (pc' := 246) d2_245 rfl (by decide) ?_
                  subst hΦ
                  refine own_retI X d2_246 (by decide) (by decide) ?_ rfl
                  rw [B0.1] at hc21_2
                  rw [B0.2.1] at hc49_3
                  rw [B1.2.2.2] at hc124_5
                  rw [B2.2.2.2] at hc164_6
                  rw [Int32.lt_iff_toInt_lt] at hc8_1 hc226_7 hc235_8 hc242_9
                  simp only [Int32.reduceToInt] at hc8_1 hc226_7 hc235_8 hc242_9
                  have mm := c_mask u0 15 4 (by decide) (by decide)
                  have P1 := own_cp2 (u0 &&& (15 : Int32)) u1 0 (by omega)
                  have P2 := own_cp2 (((u0 &&& (15 : Int32)) <<< ((6 : Int32) &&& 31)) ||| (u1 &&& (63 : Int32))) u2 0 (by omega)
                  show some (Value.int (0 : Int32)) = some (Value.int (own_g 3 u0 u1 u2 0))
                  unfold own_g
                  repeat' split
                  all_goals first | rfl | omega
            · refine own_iconst X (v := (0 : Int32)) (pc' := 230) d2_229 rfl (by decide) ?_
              subst hΦ
              refine own_retI X d2_230 (by decide) (by decide) ?_ rfl
              rw [B0.1] at hc21_2
              rw [B0.2.1] at hc49_3
              rw [B1.2.2.2] at hc124_5
              rw [B2.2.2.2] at hc164_6
              rw [Int32.lt_iff_toInt_lt] at hc8_1 hc226_7
              simp only [Int32.reduceToInt] at hc8_1 hc226_7
              have mm := c_mask u0 15 4 (by decide) (by decide)
              have P1 := own_cp2 (u0 &&& (15 : Int32)) u1 0 (by omega)
              have P2 := own_cp2 (((u0 &&& (15 : Int32)) <<< ((6 : Int32) &&& 31)) ||| (u1 &&& (63 : Int32))) u2 0 (by omega)
              show some (Value.int (0 : Int32)) = some (Value.int (own_g 3 u0 u1 u2 0))
              unfold own_g
              repeat' split
              all_goals first | rfl | omega
          · refine own_iconst X (v := (0 : Int32)) (pc' := 168) d2_167 rfl (by decide) ?_
            subst hΦ
            refine own_retI X d2_168 (by decide) (by decide) ?_ rfl
            rw [B0.1] at hc21_2
            rw [B0.2.1] at hc49_3
            rw [B1.2.2.2] at hc124_5
            rw [B2.2.2.2] at hc164_6
            rw [Int32.lt_iff_toInt_lt] at hc8_1
            simp only [Int32.reduceToInt] at hc8_1
            show some (Value.int (0 : Int32)) = some (Value.int (own_g 3 u0 u1 u2 0))
            unfold own_g
            repeat' split
            all_goals first | rfl | omega
        · refine own_iconst X (v := (0 : Int32)) (pc' := 128) d2_127 rfl (by decide) ?_
          subst hΦ
          refine own_retI X d2_128 (by decide) (by decide) ?_ rfl
          rw [B0.1] at hc21_2
          rw [B0.2.1] at hc49_3
          rw [B1.2.2.2] at hc124_5
          rw [Int32.lt_iff_toInt_lt] at hc8_1
          simp only [Int32.reduceToInt] at hc8_1
          show some (Value.int (0 : Int32)) = some (Value.int (own_g 3 u0 u1 u2 0))
          unfold own_g
          repeat' split
          all_goals first | rfl | omega
    · refine own_iconst X (v := (2 : Int32)) (pc' := 25) d2_24 rfl (by decide) ?_
      refine own_istore X (pc' := 27) (Ls' := #[.val (.ref a), .val (.int i), .val (.int ed), .val (.int u0), .val (.int (2 : Int32)), .unset, .unset, .unset, .unset]) d2_25 rfl rfl ?_
      refine own_iloadN X (pc' := 28) d2_27 rfl rfl ?_
      refine own_bipush X (v := (31 : Int32)) (pc' := 30) d2_28 rfl (by decide) ?_
      refine own_iand X (r := (u0 &&& (31 : Int32))) (pc' := 31) d2_30 rfl rfl ?_
      refine own_istore X (pc' := 33) (Ls' := #[.val (.ref a), .val (.int i), .val (.int ed), .val (.int u0), .val (.int (2 : Int32)), .val (.int (u0 &&& (31 : Int32))), .unset, .unset, .unset]) d2_31 rfl rfl ?_
      refine own_sipush X (v := (128 : Int32)) (pc' := 36) d2_33 rfl (by decide) ?_
      refine own_istore X (pc' := 38) (Ls' := #[.val (.ref a), .val (.int i), .val (.int ed), .val (.int u0), .val (.int (2 : Int32)), .val (.int (u0 &&& (31 : Int32))), .val (.int (128 : Int32)), .unset, .unset]) d2_36 rfl rfl ?_
      refine own_goto X (pc' := 98) d2_38 (by decide) (by decide) ?_
      refine own_iloadN X (pc' := 99) d2_98 rfl rfl ?_
      refine own_iloadN X (pc' := 100) d2_99 rfl rfl ?_
      refine own_isub X (r := (ed - i)) (pc' := 101) d2_100 rfl rfl ?_
      rw [hm]
      refine own_iload X (pc' := 103) d2_101 rfl rfl ?_
      refine own_icmp_ge X (pct := 108) (pc' := 106) d2_103 rfl (by decide) (by decide) (fun _ => ?_) (fun hc => absurd hc (by decide))
      refine own_aloadN X (pc' := 109) d2_108 rfl rfl rfl ?_
      refine own_iloadN X (pc' := 110) d2_109 rfl rfl ?_
      refine own_iconst X (v := (1 : Int32)) (pc' := 111) d2_110 rfl (by decide) ?_
      refine own_iadd X (r := (i + (1 : Int32))) (pc' := 112) d2_111 rfl rfl ?_
      refine own_iaload X (v := u1) (pc' := 113) A g1 f1 d2_112 rfl ?_
      refine own_istore X (pc' := 115) (Ls' := #[.val (.ref a), .val (.int i), .val (.int ed), .val (.int u0), .val (.int (2 : Int32)), .val (.int (u0 &&& (31 : Int32))), .val (.int (128 : Int32)), .val (.int u1), .unset]) d2_113 rfl rfl ?_
      refine own_iload X (pc' := 117) d2_115 rfl rfl ?_
      refine own_sipush X (v := (192 : Int32)) (pc' := 120) d2_117 rfl (by decide) ?_
      refine own_iand X (r := (u1 &&& (192 : Int32))) (pc' := 121) d2_120 rfl rfl ?_
      refine own_sipush X (v := (128 : Int32)) (pc' := 124) d2_121 rfl (by decide) ?_
      refine own_icmp_eq X (pct := 129) (pc' := 127) d2_124 rfl (by decide) (by decide) (fun hc124_11 => ?_) (fun hc124_11 => ?_)
      · refine own_iload X (pc' := 131) d2_129 rfl rfl ?_
        refine own_bipush X (v := (6 : Int32)) (pc' := 133) d2_131 rfl (by decide) ?_
        refine own_ishl X (r := ((u0 &&& (31 : Int32)) <<< ((6 : Int32) &&& 31))) (pc' := 134) d2_133 rfl rfl ?_
        refine own_iload X (pc' := 136) d2_134 rfl rfl ?_
        refine own_bipush X (v := (63 : Int32)) (pc' := 138) d2_136 rfl (by decide) ?_
        refine own_iand X (r := (u1 &&& (63 : Int32))) (pc' := 139) d2_138 rfl rfl ?_
        refine own_ior X (r := (((u0 &&& (31 : Int32)) <<< ((6 : Int32) &&& 31)) ||| (u1 &&& (63 : Int32)))) (pc' := 140) d2_139 rfl rfl ?_
        refine own_istore X (pc' := 142) (Ls' := #[.val (.ref a), .val (.int i), .val (.int ed), .val (.int u0), .val (.int (2 : Int32)), .val (.int (((u0 &&& (31 : Int32)) <<< ((6 : Int32) &&& 31)) ||| (u1 &&& (63 : Int32)))), .val (.int (128 : Int32)), .val (.int u1), .unset]) d2_140 rfl rfl ?_
        refine own_iload X (pc' := 144) d2_142 rfl rfl ?_
        refine own_iconst X (v := (3 : Int32)) (pc' := 145) d2_144 rfl (by decide) ?_
        refine own_icmp_lt X (pct := 182) (pc' := 148) d2_145 rfl (by decide) (by decide) (fun _ => ?_) (fun hc => absurd hc (by decide))
        refine own_iload X (pc' := 184) d2_182 rfl rfl ?_
        refine own_iconst X (v := (4 : Int32)) (pc' := 185) d2_184 rfl (by decide) ?_
        refine own_icmp_ne X (pct := 222) (pc' := 188) d2_185 rfl (by decide) (by decide) (fun _ => ?_) (fun hc => absurd hc (by decide))
        refine own_iload X (pc' := 224) d2_222 rfl rfl ?_
        refine own_iload X (pc' := 226) d2_224 rfl rfl ?_
        refine own_icmp_ge X (pct := 231) (pc' := 229) d2_226 rfl (by decide) (by decide) (fun hc226_12 => ?_) (fun hc226_12 => ?_)
        · refine own_iload X (pc' := 233) d2_231 rfl rfl ?_
          refine own_ldc X (pc' := 235) (hw _ (List.mem_of_getElem? (i := 13) rfl)) d2_233 rfl ?_
          refine own_icmp_lt X (pct := 247) (pc' := 238) d2_235 rfl (by decide) (by decide) (fun hc235_13 => ?_) (fun hc235_13 => ?_)
          · refine own_iload X (pc' := 249) d2_247 rfl rfl ?_
            refine own_ldc X (pc' := 251) (hw _ (List.mem_of_getElem? (i := 14) rfl)) d2_249 rfl ?_
            refine own_icmp_le X (pct := 256) (pc' := 254) d2_251 rfl (by decide) (by decide) (fun _ => ?_) (fun hc => absurd hc (by simp only [Int32.lt_iff_toInt_lt, ← Int32.toInt_inj, Int32.reduceToInt] at hc226_12 hc235_13 ⊢; omega))
            refine own_iload X (pc' := 258) d2_256 rfl rfl ?_
            subst hΦ
            refine own_retI X d2_258 (by decide) (by decide) ?_ rfl
            rw [B0.1] at hc21_2
            rw [B1.2.2.2] at hc124_11
            rw [Int32.lt_iff_toInt_lt] at hc8_1 hc226_12 hc235_13
            simp only [Int32.reduceToInt] at hc8_1 hc226_12 hc235_13
            have mm := c_mask u0 31 5 (by decide) (by decide)
            have P1 := own_cp2 (u0 &&& (31 : Int32)) u1 0 (by omega)
            show some (Value.int (2 : Int32)) = some (Value.int (own_g 3 u0 u1 u2 0))
            unfold own_g
            repeat' split
            all_goals first | rfl | omega
          · refine own_iload X (pc' := 240) d2_238 rfl rfl ?_
            refine own_ldc X (pc' := 242) (hw _ (List.mem_of_getElem? (i := 16) rfl)) d2_240 rfl ?_
            refine own_icmp_gt X (pct := 247) (pc' := 245) d2_242 rfl (by decide) (by decide) (fun hc242_14 => ?_) (fun hc242_14 => ?_)
            · refine own_iload X (pc' := 249) d2_247 rfl rfl ?_
              refine own_ldc X (pc' := 251) (hw _ (List.mem_of_getElem? (i := 14) rfl)) d2_249 rfl ?_
              refine own_icmp_le X (pct := 256) (pc' := 254) d2_251 rfl (by decide) (by decide) (fun hc251_15 => ?_) (fun hc251_15 => ?_)
              · refine own_iload X (pc' := 258) d2_256 rfl rfl ?_
                subst hΦ
                refine own_retI X d2_258 (by decide) (by decide) ?_ rfl
                rw [B0.1] at hc21_2
                rw [B1.2.2.2] at hc124_11
                rw [Int32.lt_iff_toInt_lt] at hc8_1 hc226_12 hc235_13 hc242_14 hc251_15
                simp only [Int32.reduceToInt] at hc8_1 hc226_12 hc235_13 hc242_14 hc251_15
                have mm := c_mask u0 31 5 (by decide) (by decide)
                have P1 := own_cp2 (u0 &&& (31 : Int32)) u1 0 (by omega)
                show some (Value.int (2 : Int32)) = some (Value.int (own_g 3 u0 u1 u2 0))
                unfold own_g
                repeat' split
                all_goals first | rfl | omega
              · refine own_iconst X (v := (0 : Int32)) (pc' := 255) d2_254 rfl (by decide) ?_
                subst hΦ
                refine own_retI X d2_255 (by decide) (by decide) ?_ rfl
                rw [B0.1] at hc21_2
                rw [B1.2.2.2] at hc124_11
                rw [Int32.lt_iff_toInt_lt] at hc8_1 hc226_12 hc235_13 hc242_14 hc251_15
                simp only [Int32.reduceToInt] at hc8_1 hc226_12 hc235_13 hc242_14 hc251_15
                have mm := c_mask u0 31 5 (by decide) (by decide)
                have P1 := own_cp2 (u0 &&& (31 : Int32)) u1 0 (by omega)
                show some (Value.int (0 : Int32)) = some (Value.int (own_g 3 u0 u1 u2 0))
                unfold own_g
                repeat' split
                all_goals first | rfl | omega
            · refine own_iconst X (v := (0 : Int32)) (pc' := 246) d2_245 rfl (by decide) ?_
              subst hΦ
              refine own_retI X d2_246 (by decide) (by decide) ?_ rfl
              rw [B0.1] at hc21_2
              rw [B1.2.2.2] at hc124_11
              rw [Int32.lt_iff_toInt_lt] at hc8_1 hc226_12 hc235_13 hc242_14
              simp only [Int32.reduceToInt] at hc8_1 hc226_12 hc235_13 hc242_14
              have mm := c_mask u0 31 5 (by decide) (by decide)
              have P1 := own_cp2 (u0 &&& (31 : Int32)) u1 0 (by omega)
              show some (Value.int (0 : Int32)) = some (Value.int (own_g 3 u0 u1 u2 0))
              unfold own_g
              repeat' split
              all_goals first | rfl | omega
        · refine own_iconst X (v := (0 : Int32)) (pc' := 230) d2_229 rfl (by decide) ?_
          subst hΦ
          refine own_retI X d2_230 (by decide) (by decide) ?_ rfl
          rw [B0.1] at hc21_2
          rw [B1.2.2.2] at hc124_11
          rw [Int32.lt_iff_toInt_lt] at hc8_1 hc226_12
          simp only [Int32.reduceToInt] at hc8_1 hc226_12
          have mm := c_mask u0 31 5 (by decide) (by decide)
          have P1 := own_cp2 (u0 &&& (31 : Int32)) u1 0 (by omega)
          show some (Value.int (0 : Int32)) = some (Value.int (own_g 3 u0 u1 u2 0))
          unfold own_g
          repeat' split
          all_goals first | rfl | omega
      · refine own_iconst X (v := (0 : Int32)) (pc' := 128) d2_127 rfl (by decide) ?_
        subst hΦ
        refine own_retI X d2_128 (by decide) (by decide) ?_ rfl
        rw [B0.1] at hc21_2
        rw [B1.2.2.2] at hc124_11
        rw [Int32.lt_iff_toInt_lt] at hc8_1
        simp only [Int32.reduceToInt] at hc8_1
        show some (Value.int (0 : Int32)) = some (Value.int (own_g 3 u0 u1 u2 0))
        unfold own_g
        repeat' split
        all_goals first | rfl | omega
  · refine own_iconst X (v := (1 : Int32)) (pc' := 12) d2_11 rfl (by decide) ?_
    subst hΦ
    refine own_retI X d2_12 (by decide) (by decide) ?_ rfl
    rw [Int32.lt_iff_toInt_lt] at hc8_1
    simp only [Int32.reduceToInt] at hc8_1
    show some (Value.int (1 : Int32)) = some (Value.int (own_g 3 u0 u1 u2 0))
    unfold own_g
    repeat' split
    all_goals first | rfl | omega
theorem d2_188 : decode method_4_code 188 = .ok (.aload_n 0, 1) := by decide +kernel
theorem d2_189 : decode method_4_code 189 = .ok (.iload_n 1, 1) := by decide +kernel
theorem d2_190 : decode method_4_code 190 = .ok (.iconst 3, 1) := by decide +kernel
theorem d2_191 : decode method_4_code 191 = .ok (.iadd, 1) := by decide +kernel
theorem d2_192 : decode method_4_code 192 = .ok (.iaload, 1) := by decide +kernel
theorem d2_193 : decode method_4_code 193 = .ok (.istore 8, 2) := by decide +kernel
theorem d2_195 : decode method_4_code 195 = .ok (.iload 8, 2) := by decide +kernel
theorem d2_197 : decode method_4_code 197 = .ok (.sipush 192, 3) := by decide +kernel
theorem d2_200 : decode method_4_code 200 = .ok (.iand, 1) := by decide +kernel
theorem d2_201 : decode method_4_code 201 = .ok (.sipush 128, 3) := by decide +kernel
theorem d2_204 : decode method_4_code 204 = .ok (.if_icmp .eq 5, 3) := by decide +kernel
theorem d2_207 : decode method_4_code 207 = .ok (.iconst 0, 1) := by decide +kernel
theorem d2_208 : decode method_4_code 208 = .ok (.ireturn, 1) := by decide +kernel
theorem d2_209 : decode method_4_code 209 = .ok (.iload 5, 2) := by decide +kernel
theorem d2_211 : decode method_4_code 211 = .ok (.bipush 6, 2) := by decide +kernel
theorem d2_213 : decode method_4_code 213 = .ok (.ishl, 1) := by decide +kernel
theorem d2_214 : decode method_4_code 214 = .ok (.iload 8, 2) := by decide +kernel
theorem d2_216 : decode method_4_code 216 = .ok (.bipush 63, 2) := by decide +kernel
theorem d2_218 : decode method_4_code 218 = .ok (.iand, 1) := by decide +kernel
theorem d2_219 : decode method_4_code 219 = .ok (.ior, 1) := by decide +kernel
theorem d2_220 : decode method_4_code 220 = .ok (.istore 5, 2) := by decide +kernel
theorem pn_rm2_4 : plainFor (⟨"com/example/vegeu/vegeu/model/Utf8IsWellFormedPinLaw", "seq", "([III)I"⟩ : MethodName) = true := plainFor_of_name (by first | (simp [plainName, overriddenIn]; done) | decide +kernel)
theorem ef_rm2_4 (m : MethodId) (x0 : Addr) (x1 : Int32) (x2 : Int32) : entryFrame m #[(.ref x0), (.int x1), (.int x2)] 9 = mkF m 0 #[.val (.ref x0), .val (.int x1), .val (.int x2), .unset, .unset, .unset, .unset, .unset, .unset] [] := by first | (simp [entryFrame, mkF, argsToLocals, Value.category]; done) | rfl
set_option maxRecDepth 65536 in
set_option maxHeartbeats 4000000 in
theorem rm2_4 (l : Launch) (Z : State) (a0 : Array Value) (hw : ∀ d ∈ tables_1, d.before a0 Z = true) (n0 : Nat) (a : Addr) (i : Int32) (ed : Int32) (h0 : Heap) (hn0 : n0 ≤ h0.size) (vs : List Int32) (A : own_A Z h0 a .int vs) (u0 u1 u2 u3 : Int32) (hm : ed - i = (4 : Int32)) (g0 : own_in i vs.length = true) (f0 : vs.getD (i).toNatClampNeg 0 = u0) (g1 : own_in (i + (1 : Int32)) vs.length = true) (f1 : vs.getD ((i + (1 : Int32))).toNatClampNeg 0 = u1) (g2 : own_in (i + (2 : Int32)) vs.length = true) (f2 : vs.getD ((i + (2 : Int32))).toNatClampNeg 0 = u2) (g3 : own_in (i + (3 : Int32)) vs.length = true) (f3 : vs.getD ((i + (3 : Int32))).toNatClampNeg 0 = u3) (r0 : 0 ≤ u0.toInt ∧ u0.toInt < 256) (r1 : 0 ≤ u1.toInt ∧ u1.toInt < 256) (r2 : 0 ≤ u2.toInt ∧ u2.toInt < 256) (r3 : 0 ≤ u3.toInt ∧ u3.toInt < 256) :
    own_Met l (⟨"com/example/vegeu/vegeu/model/Utf8IsWellFormedPinLaw", "seq", "([III)I"⟩ : MethodName) method_4_code 9 (some .int) ({ frames := 0, cells := 0, slots := 0, locals := 0 } : Room) Z n0 #[(.ref a), (.int i), (.int ed)] h0 (some (.int (own_sl [u0, u1, u2, u3]))) (fun h' => h' = h0) := by
  refine own_met pn_rm2_4 hn0 ?_
  intro p e s m below meth c T X
  refine own_cast (ef_rm2_4 m a i ed) ?_
  generalize hΦ : own_Q n0 below s _ _ _ = Φ
  have B0 := own_b4 u0 r0
  have B1 := own_b4 u1 r1
  have B2 := own_b4 u2 r2
  have B3 := own_b4 u3 r3
  refine own_aloadN X (pc' := 1) d2_0 rfl rfl rfl ?_
  refine own_iloadN X (pc' := 2) d2_1 rfl rfl ?_
  refine own_iaload X (v := u0) (pc' := 3) A g0 f0 d2_2 rfl ?_
  refine own_istoreN X (pc' := 4) (Ls' := #[.val (.ref a), .val (.int i), .val (.int ed), .val (.int u0), .unset, .unset, .unset, .unset, .unset]) d2_3 rfl rfl ?_
  refine own_iloadN X (pc' := 5) d2_4 rfl rfl ?_
  refine own_sipush X (v := (128 : Int32)) (pc' := 8) d2_5 rfl (by decide) ?_
  refine own_icmp_ge X (pct := 13) (pc' := 11) d2_8 rfl (by decide) (by decide) (fun hc8_1 => ?_) (fun hc8_1 => ?_)
  · refine own_iloadN X (pc' := 14) d2_13 rfl rfl ?_
    refine own_sipush X (v := (224 : Int32)) (pc' := 17) d2_14 rfl (by decide) ?_
    refine own_iand X (r := (u0 &&& (224 : Int32))) (pc' := 18) d2_17 rfl rfl ?_
    refine own_sipush X (v := (192 : Int32)) (pc' := 21) d2_18 rfl (by decide) ?_
    refine own_icmp_ne X (pct := 41) (pc' := 24) d2_21 rfl (by decide) (by decide) (fun hc21_2 => ?_) (fun hc21_2 => ?_)
    · refine own_iloadN X (pc' := 42) d2_41 rfl rfl ?_
      refine own_sipush X (v := (240 : Int32)) (pc' := 45) d2_42 rfl (by decide) ?_
      refine own_iand X (r := (u0 &&& (240 : Int32))) (pc' := 46) d2_45 rfl rfl ?_
      refine own_sipush X (v := (224 : Int32)) (pc' := 49) d2_46 rfl (by decide) ?_
      refine own_icmp_ne X (pct := 69) (pc' := 52) d2_49 rfl (by decide) (by decide) (fun hc49_3 => ?_) (fun hc49_3 => ?_)
      · refine own_iloadN X (pc' := 70) d2_69 rfl rfl ?_
        refine own_sipush X (v := (248 : Int32)) (pc' := 73) d2_70 rfl (by decide) ?_
        refine own_iand X (r := (u0 &&& (248 : Int32))) (pc' := 74) d2_73 rfl rfl ?_
        refine own_sipush X (v := (240 : Int32)) (pc' := 77) d2_74 rfl (by decide) ?_
        refine own_icmp_ne X (pct := 96) (pc' := 80) d2_77 rfl (by decide) (by decide) (fun hc77_4 => ?_) (fun hc77_4 => ?_)
        · refine own_iconst X (v := (0 : Int32)) (pc' := 97) d2_96 rfl (by decide) ?_
          subst hΦ
          refine own_retI X d2_97 (by decide) (by decide) ?_ rfl
          rw [B0.1] at hc21_2
          rw [B0.2.1] at hc49_3
          rw [B0.2.2.1] at hc77_4
          rw [Int32.lt_iff_toInt_lt] at hc8_1
          simp only [Int32.reduceToInt] at hc8_1
          show some (Value.int (0 : Int32)) = some (Value.int (own_g 4 u0 u1 u2 u3))
          unfold own_g
          repeat' split
          all_goals first | rfl | omega
        · refine own_iconst X (v := (4 : Int32)) (pc' := 81) d2_80 rfl (by decide) ?_
          refine own_istore X (pc' := 83) (Ls' := #[.val (.ref a), .val (.int i), .val (.int ed), .val (.int u0), .val (.int (4 : Int32)), .unset, .unset, .unset, .unset]) d2_81 rfl rfl ?_
          refine own_iloadN X (pc' := 84) d2_83 rfl rfl ?_
          refine own_bipush X (v := (7 : Int32)) (pc' := 86) d2_84 rfl (by decide) ?_
          refine own_iand X (r := (u0 &&& (7 : Int32))) (pc' := 87) d2_86 rfl rfl ?_
          refine own_istore X (pc' := 89) (Ls' := #[.val (.ref a), .val (.int i), .val (.int ed), .val (.int u0), .val (.int (4 : Int32)), .val (.int (u0 &&& (7 : Int32))), .unset, .unset, .unset]) d2_87 rfl rfl ?_
          refine own_ldc X (pc' := 91) (hw _ (List.mem_of_getElem? (i := 15) rfl)) d2_89 rfl ?_
          refine own_istore X (pc' := 93) (Ls' := #[.val (.ref a), .val (.int i), .val (.int ed), .val (.int u0), .val (.int (4 : Int32)), .val (.int (u0 &&& (7 : Int32))), .val (.int (65536 : Int32)), .unset, .unset]) d2_91 rfl rfl ?_
          refine own_goto X (pc' := 98) d2_93 (by decide) (by decide) ?_
          refine own_iloadN X (pc' := 99) d2_98 rfl rfl ?_
          refine own_iloadN X (pc' := 100) d2_99 rfl rfl ?_
          refine own_isub X (r := (ed - i)) (pc' := 101) d2_100 rfl rfl ?_
          rw [hm]
          refine own_iload X (pc' := 103) d2_101 rfl rfl ?_
          refine own_icmp_ge X (pct := 108) (pc' := 106) d2_103 rfl (by decide) (by decide) (fun _ => ?_) (fun hc => absurd hc (by decide))
          refine own_aloadN X (pc' := 109) d2_108 rfl rfl rfl ?_
          refine own_iloadN X (pc' := 110) d2_109 rfl rfl ?_
          refine own_iconst X (v := (1 : Int32)) (pc' := 111) d2_110 rfl (by decide) ?_
          refine own_iadd X (r := (i + (1 : Int32))) (pc' := 112) d2_111 rfl rfl ?_
          refine own_iaload X (v := u1) (pc' := 113) A g1 f1 d2_112 rfl ?_
          refine own_istore X (pc' := 115) (Ls' := #[.val (.ref a), .val (.int i), .val (.int ed), .val (.int u0), .val (.int (4 : Int32)), .val (.int (u0 &&& (7 : Int32))), .val (.int (65536 : Int32)), .val (.int u1), .unset]) d2_113 rfl rfl ?_
          refine own_iload X (pc' := 117) d2_115 rfl rfl ?_
          refine own_sipush X (v := (192 : Int32)) (pc' := 120) d2_117 rfl (by decide) ?_
          refine own_iand X (r := (u1 &&& (192 : Int32))) (pc' := 121) d2_120 rfl rfl ?_
          refine own_sipush X (v := (128 : Int32)) (pc' := 124) d2_121 rfl (by decide) ?_
          refine own_icmp_eq X (pct := 129) (pc' := 127) d2_124 rfl (by decide) (by decide) (fun hc124_5 => ?_) (fun hc124_5 => ?_)
          · refine own_iload X (pc' := 131) d2_129 rfl rfl ?_
            refine own_bipush X (v := (6 : Int32)) (pc' := 133) d2_131 rfl (by decide) ?_
            refine own_ishl X (r := ((u0 &&& (7 : Int32)) <<< ((6 : Int32) &&& 31))) (pc' := 134) d2_133 rfl rfl ?_
            refine own_iload X (pc' := 136) d2_134 rfl rfl ?_
            refine own_bipush X (v := (63 : Int32)) (pc' := 138) d2_136 rfl (by decide) ?_
            refine own_iand X (r := (u1 &&& (63 : Int32))) (pc' := 139) d2_138 rfl rfl ?_
            refine own_ior X (r := (((u0 &&& (7 : Int32)) <<< ((6 : Int32) &&& 31)) ||| (u1 &&& (63 : Int32)))) (pc' := 140) d2_139 rfl rfl ?_
            refine own_istore X (pc' := 142) (Ls' := #[.val (.ref a), .val (.int i), .val (.int ed), .val (.int u0), .val (.int (4 : Int32)), .val (.int (((u0 &&& (7 : Int32)) <<< ((6 : Int32) &&& 31)) ||| (u1 &&& (63 : Int32)))), .val (.int (65536 : Int32)), .val (.int u1), .unset]) d2_140 rfl rfl ?_
            refine own_iload X (pc' := 144) d2_142 rfl rfl ?_
            refine own_iconst X (v := (3 : Int32)) (pc' := 145) d2_144 rfl (by decide) ?_
            refine own_icmp_lt X (pct := 182) (pc' := 148) d2_145 rfl (by decide) (by decide) (fun hc => absurd hc (by decide)) (fun _ => ?_)
            refine own_aloadN X (pc' := 149) d2_148 rfl rfl rfl ?_
            refine own_iloadN X (pc' := 150) d2_149 rfl rfl ?_
            refine own_iconst X (v := (2 : Int32)) (pc' := 151) d2_150 rfl (by decide) ?_
            refine own_iadd X (r := (i + (2 : Int32))) (pc' := 152) d2_151 rfl rfl ?_
            refine own_iaload X (v := u2) (pc' := 153) A g2 f2 d2_152 rfl ?_
            refine own_istore X (pc' := 155) (Ls' := #[.val (.ref a), .val (.int i), .val (.int ed), .val (.int u0), .val (.int (4 : Int32)), .val (.int (((u0 &&& (7 : Int32)) <<< ((6 : Int32) &&& 31)) ||| (u1 &&& (63 : Int32)))), .val (.int (65536 : Int32)), .val (.int u1), .val (.int u2)]) d2_153 rfl rfl ?_
            refine own_iload X (pc' := 157) d2_155 rfl rfl ?_
            refine own_sipush X (v := (192 : Int32)) (pc' := 160) d2_157 rfl (by decide) ?_
            refine own_iand X (r := (u2 &&& (192 : Int32))) (pc' := 161) d2_160 rfl rfl ?_
            refine own_sipush X (v := (128 : Int32)) (pc' := 164) d2_161 rfl (by decide) ?_
            refine own_icmp_eq X (pct := 169) (pc' := 167) d2_164 rfl (by decide) (by decide) (fun hc164_6 => ?_) (fun hc164_6 => ?_)
            · refine own_iload X (pc' := 171) d2_169 rfl rfl ?_
              refine own_bipush X (v := (6 : Int32)) (pc' := 173) d2_171 rfl (by decide) ?_
              refine own_ishl X (r := ((((u0 &&& (7 : Int32)) <<< ((6 : Int32) &&& 31)) ||| (u1 &&& (63 : Int32))) <<< ((6 : Int32) &&& 31))) (pc' := 174) d2_173 rfl rfl ?_
              refine own_iload X (pc' := 176) d2_174 rfl rfl ?_
              refine own_bipush X (v := (63 : Int32)) (pc' := 178) d2_176 rfl (by decide) ?_
              refine own_iand X (r := (u2 &&& (63 : Int32))) (pc' := 179) d2_178 rfl rfl ?_
              refine own_ior X (r := (((((u0 &&& (7 : Int32)) <<< ((6 : Int32) &&& 31)) ||| (u1 &&& (63 : Int32))) <<< ((6 : Int32) &&& 31)) ||| (u2 &&& (63 : Int32)))) (pc' := 180) d2_179 rfl rfl ?_
              refine own_istore X (pc' := 182) (Ls' := #[.val (.ref a), .val (.int i), .val (.int ed), .val (.int u0), .val (.int (4 : Int32)), .val (.int (((((u0 &&& (7 : Int32)) <<< ((6 : Int32) &&& 31)) ||| (u1 &&& (63 : Int32))) <<< ((6 : Int32) &&& 31)) ||| (u2 &&& (63 : Int32)))), .val (.int (65536 : Int32)), .val (.int u1), .val (.int u2)]) d2_180 rfl rfl ?_
              refine own_iload X (pc' := 184) d2_182 rfl rfl ?_
              refine own_iconst X (v := (4 : Int32)) (pc' := 185) d2_184 rfl (by decide) ?_
              refine own_icmp_ne X (pct := 222) (pc' := 188) d2_185 rfl (by decide) (by decide) (fun hc => absurd hc (by decide)) (fun _ => ?_)
              refine own_aloadN X (pc' := 189) d2_188 rfl rfl rfl ?_
              refine own_iloadN X (pc' := 190) d2_189 rfl rfl ?_
              refine own_iconst X (v := (3 : Int32)) (pc' := 191) d2_190 rfl (by decide) ?_
              refine own_iadd X (r := (i + (3 : Int32))) (pc' := 192) d2_191 rfl rfl ?_
              refine own_iaload X (v := u3) (pc' := 193) A g3 f3 d2_192 rfl ?_
              refine own_istore X (pc' := 195) (Ls' := #[.val (.ref a), .val (.int i), .val (.int ed), .val (.int u0), .val (.int (4 : Int32)), .val (.int (((((u0 &&& (7 : Int32)) <<< ((6 : Int32) &&& 31)) ||| (u1 &&& (63 : Int32))) <<< ((6 : Int32) &&& 31)) ||| (u2 &&& (63 : Int32)))), .val (.int (65536 : Int32)), .val (.int u1), .val (.int u3)]) d2_193 rfl rfl ?_
              refine own_iload X (pc' := 197) d2_195 rfl rfl ?_
              refine own_sipush X (v := (192 : Int32)) (pc' := 200) d2_197 rfl (by decide) ?_
              refine own_iand X (r := (u3 &&& (192 : Int32))) (pc' := 201) d2_200 rfl rfl ?_
              refine own_sipush X (v := (128 : Int32)) (pc' := 204) d2_201 rfl (by decide) ?_
              refine own_icmp_eq X (pct := 209) (pc' := 207) d2_204 rfl (by decide) (by decide) (fun hc204_7 => ?_) (fun hc204_7 => ?_)
              · refine own_iload X (pc' := 211) d2_209 rfl rfl ?_
                refine own_bipush X (v := (6 : Int32)) (pc' := 213) d2_211 rfl (by decide) ?_
                refine own_ishl X (r := ((((((u0 &&& (7 : Int32)) <<< ((6 : Int32) &&& 31)) ||| (u1 &&& (63 : Int32))) <<< ((6 : Int32) &&& 31)) ||| (u2 &&& (63 : Int32))) <<< ((6 : Int32) &&& 31))) (pc' := 214) d2_213 rfl rfl ?_
                refine own_iload X (pc' := 216) d2_214 rfl rfl ?_
                refine own_bipush X (v := (63 : Int32)) (pc' := 218) d2_216 rfl (by decide) ?_
                refine own_iand X (r := (u3 &&& (63 : Int32))) (pc' := 219) d2_218 rfl rfl ?_
                refine own_ior X (r := (((((((u0 &&& (7 : Int32)) <<< ((6 : Int32) &&& 31)) ||| (u1 &&& (63 : Int32))) <<< ((6 : Int32) &&& 31)) ||| (u2 &&& (63 : Int32))) <<< ((6 : Int32) &&& 31)) ||| (u3 &&& (63 : Int32)))) (pc' := 220) d2_219 rfl rfl ?_
                refine own_istore X (pc' := 222) (Ls' := #[.val (.ref a), .val (.int i), .val (.int ed), .val (.int u0), .val (.int (4 : Int32)), .val (.int (((((((u0 &&& (7 : Int32)) <<< ((6 : Int32) &&& 31)) ||| (u1 &&& (63 : Int32))) <<< ((6 : Int32) &&& 31)) ||| (u2 &&& (63 : Int32))) <<< ((6 : Int32) &&& 31)) ||| (u3 &&& (63 : Int32)))), .val (.int (65536 : Int32)), .val (.int u1), .val (.int u3)]) d2_220 rfl rfl ?_
                refine own_iload X (pc' := 224) d2_222 rfl rfl ?_
                refine own_iload X (pc' := 226) d2_224 rfl rfl ?_
                refine own_icmp_ge X (pct := 231) (pc' := 229) d2_226 rfl (by decide) (by decide) (fun hc226_8 => ?_) (fun hc226_8 => ?_)
                · refine own_iload X (pc' := 233) d2_231 rfl rfl ?_
                  refine own_ldc X (pc' := 235) (hw _ (List.mem_of_getElem? (i := 13) rfl)) d2_233 rfl ?_
                  refine own_icmp_lt X (pct := 247) (pc' := 238) d2_235 rfl (by decide) (by decide) (fun hc => absurd hc (by simp only [Int32.lt_iff_toInt_lt, ← Int32.toInt_inj, Int32.reduceToInt] at hc226_8 ⊢; omega)) (fun _ => ?_)
                  refine own_iload X (pc' := 240) d2_238 rfl rfl ?_
                  refine own_ldc X (pc' := 242) (hw _ (List.mem_of_getElem? (i := 16) rfl)) d2_240 rfl ?_
                  refine own_icmp_gt X (pct := 247) (pc' := 245) d2_242 rfl (by decide) (by decide) (fun _ => ?_) (fun hc => absurd hc (by simp only [Int32.lt_iff_toInt_lt, ← Int32.toInt_inj, Int32.reduceToInt] at hc226_8 ⊢; omega))
                  refine own_iload X (pc' := 249) d2_247 rfl rfl ?_
                  refine own_ldc X (pc' := 251) (hw _ (List.mem_of_getElem? (i := 14) rfl)) d2_249 rfl ?_
                  refine own_icmp_le X (pct := 256) (pc' := 254) d2_251 rfl (by decide) (by decide) (fun hc251_9 => ?_) (fun hc251_9 => ?_)
                  · refine own_iload X (pc' := 258) d2_256 rfl rfl ?_
                    subst hΦ
                    refine own_retI X d2_258 (by decide) (by decide) ?_ rfl
                    rw [B0.1] at hc21_2
                    rw [B0.2.1] at hc49_3
                    rw [B0.2.2.1] at hc77_4
                    rw [B1.2.2.2] at hc124_5
                    rw [B2.2.2.2] at hc164_6
                    rw [B3.2.2.2] at hc204_7
                    rw [Int32.lt_iff_toInt_lt] at hc8_1 hc226_8 hc251_9
                    simp only [Int32.reduceToInt] at hc8_1 hc226_8 hc251_9
                    have mm := c_mask u0 7 3 (by decide) (by decide)
                    have P1 := own_cp2 (u0 &&& (7 : Int32)) u1 0 (by omega)
                    have P2 := own_cp2 (((u0 &&& (7 : Int32)) <<< ((6 : Int32) &&& 31)) ||| (u1 &&& (63 : Int32))) u2 0 (by omega)
                    have P3 := own_cp2 (((((u0 &&& (7 : Int32)) <<< ((6 : Int32) &&& 31)) ||| (u1 &&& (63 : Int32))) <<< ((6 : Int32) &&& 31)) ||| (u2 &&& (63 : Int32))) u3 0 (by omega)
                    show some (Value.int (4 : Int32)) = some (Value.int (own_g 4 u0 u1 u2 u3))
                    unfold own_g
                    repeat' split
                    all_goals first | rfl | omega
                  · refine own_iconst X (v := (0 : Int32)) (pc' := 255) d2_254 rfl (by decide) ?_
                    subst hΦ
                    refine own_retI X d2_255 (by decide) (by decide) ?_ rfl
                    rw [B0.1] at hc21_2
                    rw [B0.2.1] at hc49_3
                    rw [B0.2.2.1] at hc77_4
                    rw [B1.2.2.2] at hc124_5
                    rw [B2.2.2.2] at hc164_6
                    rw [B3.2.2.2] at hc204_7
                    rw [Int32.lt_iff_toInt_lt] at hc8_1 hc226_8 hc251_9
                    simp only [Int32.reduceToInt] at hc8_1 hc226_8 hc251_9
                    have mm := c_mask u0 7 3 (by decide) (by decide)
                    have P1 := own_cp2 (u0 &&& (7 : Int32)) u1 0 (by omega)
                    have P2 := own_cp2 (((u0 &&& (7 : Int32)) <<< ((6 : Int32) &&& 31)) ||| (u1 &&& (63 : Int32))) u2 0 (by omega)
                    have P3 := own_cp2 (((((u0 &&& (7 : Int32)) <<< ((6 : Int32) &&& 31)) ||| (u1 &&& (63 : Int32))) <<< ((6 : Int32) &&& 31)) ||| (u2 &&& (63 : Int32))) u3 0 (by omega)
                    show some (Value.int (0 : Int32)) = some (Value.int (own_g 4 u0 u1 u2 u3))
                    unfold own_g
                    repeat' split
                    all_goals first | rfl | omega
                · refine own_iconst X (v := (0 : Int32)) (pc' := 230) d2_229 rfl (by decide) ?_
                  subst hΦ
                  refine own_retI X d2_230 (by decide) (by decide) ?_ rfl
                  rw [B0.1] at hc21_2
                  rw [B0.2.1] at hc49_3
                  rw [B0.2.2.1] at hc77_4
                  rw [B1.2.2.2] at hc124_5
                  rw [B2.2.2.2] at hc164_6
                  rw [B3.2.2.2] at hc204_7
                  rw [Int32.lt_iff_toInt_lt] at hc8_1 hc226_8
                  simp only [Int32.reduceToInt] at hc8_1 hc226_8
                  have mm := c_mask u0 7 3 (by decide) (by decide)
                  have P1 := own_cp2 (u0 &&& (7 : Int32)) u1 0 (by omega)
                  have P2 := own_cp2 (((u0 &&& (7 : Int32)) <<< ((6 : Int32) &&& 31)) ||| (u1 &&& (63 : Int32))) u2 0 (by omega)
                  have P3 := own_cp2 (((((u0 &&& (7 : Int32)) <<< ((6 : Int32) &&& 31)) ||| (u1 &&& (63 : Int32))) <<< ((6 : Int32) &&& 31)) ||| (u2 &&& (63 : Int32))) u3 0 (by omega)
                  show some (Value.int (0 : Int32)) = some (Value.int (own_g 4 u0 u1 u2 u3))
                  unfold own_g
                  repeat' split
                  all_goals first | rfl | omega
              · refine own_iconst X (v := (0 : Int32)) (pc' := 208) d2_207 rfl (by decide) ?_
                subst hΦ
                refine own_retI X d2_208 (by decide) (by decide) ?_ rfl
                rw [B0.1] at hc21_2
                rw [B0.2.1] at hc49_3
                rw [B0.2.2.1] at hc77_4
                rw [B1.2.2.2] at hc124_5
                rw [B2.2.2.2] at hc164_6
                rw [B3.2.2.2] at hc204_7
                rw [Int32.lt_iff_toInt_lt] at hc8_1
                simp only [Int32.reduceToInt] at hc8_1
                show some (Value.int (0 : Int32)) = some (Value.int (own_g 4 u0 u1 u2 u3))
                unfold own_g
                repeat' split
                all_goals first | rfl | omega
            · refine own_iconst X (v := (0 : Int32)) (pc' := 168) d2_167 rfl (by decide) ?_
              subst hΦ
              refine own_retI X d2_168 (by decide) (by decide) ?_ rfl
              rw [B0.1] at hc21_2
              rw [B0.2.1] at hc49_3
              rw [B0.2.2.1] at hc77_4
              rw [B1.2.2.2] at hc124_5
              rw [B2.2.2.2] at hc164_6
              rw [Int32.lt_iff_toInt_lt] at hc8_1
              simp only [Int32.reduceToInt] at hc8_1
              show some (Value.int (0 : Int32)) = some (Value.int (own_g 4 u0 u1 u2 u3))
              unfold own_g
              repeat' split
              all_goals first | rfl | omega
          · refine own_iconst X (v := (0 : Int32)) (pc' := 128) d2_127 rfl (by decide) ?_
            subst hΦ
            refine own_retI X d2_128 (by decide) (by decide) ?_ rfl
            rw [B0.1] at hc21_2
            rw [B0.2.1] at hc49_3
            rw [B0.2.2.1] at hc77_4
            rw [B1.2.2.2] at hc124_5
            rw [Int32.lt_iff_toInt_lt] at hc8_1
            simp only [Int32.reduceToInt] at hc8_1
            show some (Value.int (0 : Int32)) = some (Value.int (own_g 4 u0 u1 u2 u3))
            unfold own_g
            repeat' split
            all_goals first | rfl | omega
      · refine own_iconst X (v := (3 : Int32)) (pc' := 53) d2_52 rfl (by decide) ?_
        refine own_istore X (pc' := 55) (Ls' := #[.val (.ref a), .val (.int i), .val (.int ed), .val (.int u0), .val (.int (3 : Int32)), .unset, .unset, .unset, .unset]) d2_53 rfl rfl ?_
        refine own_iloadN X (pc' := 56) d2_55 rfl rfl ?_
        refine own_bipush X (v := (15 : Int32)) (pc' := 58) d2_56 rfl (by decide) ?_
        refine own_iand X (r := (u0 &&& (15 : Int32))) (pc' := 59) d2_58 rfl rfl ?_
        refine own_istore X (pc' := 61) (Ls' := #[.val (.ref a), .val (.int i), .val (.int ed), .val (.int u0), .val (.int (3 : Int32)), .val (.int (u0 &&& (15 : Int32))), .unset, .unset, .unset]) d2_59 rfl rfl ?_
        refine own_sipush X (v := (2048 : Int32)) (pc' := 64) d2_61 rfl (by decide) ?_
        refine own_istore X (pc' := 66) (Ls' := #[.val (.ref a), .val (.int i), .val (.int ed), .val (.int u0), .val (.int (3 : Int32)), .val (.int (u0 &&& (15 : Int32))), .val (.int (2048 : Int32)), .unset, .unset]) d2_64 rfl rfl ?_
        refine own_goto X (pc' := 98) d2_66 (by decide) (by decide) ?_
        refine own_iloadN X (pc' := 99) d2_98 rfl rfl ?_
        refine own_iloadN X (pc' := 100) d2_99 rfl rfl ?_
        refine own_isub X (r := (ed - i)) (pc' := 101) d2_100 rfl rfl ?_
        rw [hm]
        refine own_iload X (pc' := 103) d2_101 rfl rfl ?_
        refine own_icmp_ge X (pct := 108) (pc' := 106) d2_103 rfl (by decide) (by decide) (fun _ => ?_) (fun hc => absurd hc (by decide))
        refine own_aloadN X (pc' := 109) d2_108 rfl rfl rfl ?_
        refine own_iloadN X (pc' := 110) d2_109 rfl rfl ?_
        refine own_iconst X (v := (1 : Int32)) (pc' := 111) d2_110 rfl (by decide) ?_
        refine own_iadd X (r := (i + (1 : Int32))) (pc' := 112) d2_111 rfl rfl ?_
        refine own_iaload X (v := u1) (pc' := 113) A g1 f1 d2_112 rfl ?_
        refine own_istore X (pc' := 115) (Ls' := #[.val (.ref a), .val (.int i), .val (.int ed), .val (.int u0), .val (.int (3 : Int32)), .val (.int (u0 &&& (15 : Int32))), .val (.int (2048 : Int32)), .val (.int u1), .unset]) d2_113 rfl rfl ?_
        refine own_iload X (pc' := 117) d2_115 rfl rfl ?_
        refine own_sipush X (v := (192 : Int32)) (pc' := 120) d2_117 rfl (by decide) ?_
        refine own_iand X (r := (u1 &&& (192 : Int32))) (pc' := 121) d2_120 rfl rfl ?_
        refine own_sipush X (v := (128 : Int32)) (pc' := 124) d2_121 rfl (by decide) ?_
        refine own_icmp_eq X (pct := 129) (pc' := 127) d2_124 rfl (by decide) (by decide) (fun hc124_10 => ?_) (fun hc124_10 => ?_)
        · refine own_iload X (pc' := 131) d2_129 rfl rfl ?_
          refine own_bipush X (v := (6 : Int32)) (pc' := 133) d2_131 rfl (by decide) ?_
          refine own_ishl X (r := ((u0 &&& (15 : Int32)) <<< ((6 : Int32) &&& 31))) (pc' := 134) d2_133 rfl rfl ?_
          refine own_iload X (pc' := 136) d2_134 rfl rfl ?_
          refine own_bipush X (v := (63 : Int32)) (pc' := 138) d2_136 rfl (by decide) ?_
          refine own_iand X (r := (u1 &&& (63 : Int32))) (pc' := 139) d2_138 rfl rfl ?_
          refine own_ior X (r := (((u0 &&& (15 : Int32)) <<< ((6 : Int32) &&& 31)) ||| (u1 &&& (63 : Int32)))) (pc' := 140) d2_139 rfl rfl ?_
          refine own_istore X (pc' := 142) (Ls' := #[.val (.ref a), .val (.int i), .val (.int ed), .val (.int u0), .val (.int (3 : Int32)), .val (.int (((u0 &&& (15 : Int32)) <<< ((6 : Int32) &&& 31)) ||| (u1 &&& (63 : Int32)))), .val (.int (2048 : Int32)), .val (.int u1), .unset]) d2_140 rfl rfl ?_
          refine own_iload X (pc' := 144) d2_142 rfl rfl ?_
          refine own_iconst X (v := (3 : Int32)) (pc' := 145) d2_144 rfl (by decide) ?_
          refine own_icmp_lt X (pct := 182) (pc' := 148) d2_145 rfl (by decide) (by decide) (fun hc => absurd hc (by decide)) (fun _ => ?_)
          refine own_aloadN X (pc' := 149) d2_148 rfl rfl rfl ?_
          refine own_iloadN X (pc' := 150) d2_149 rfl rfl ?_
          refine own_iconst X (v := (2 : Int32)) (pc' := 151) d2_150 rfl (by decide) ?_
          refine own_iadd X (r := (i + (2 : Int32))) (pc' := 152) d2_151 rfl rfl ?_
          refine own_iaload X (v := u2) (pc' := 153) A g2 f2 d2_152 rfl ?_
          refine own_istore X (pc' := 155) (Ls' := #[.val (.ref a), .val (.int i), .val (.int ed), .val (.int u0), .val (.int (3 : Int32)), .val (.int (((u0 &&& (15 : Int32)) <<< ((6 : Int32) &&& 31)) ||| (u1 &&& (63 : Int32)))), .val (.int (2048 : Int32)), .val (.int u1), .val (.int u2)]) d2_153 rfl rfl ?_
          refine own_iload X (pc' := 157) d2_155 rfl rfl ?_
          refine own_sipush X (v := (192 : Int32)) (pc' := 160) d2_157 rfl (by decide) ?_
          refine own_iand X (r := (u2 &&& (192 : Int32))) (pc' := 161) d2_160 rfl rfl ?_
          refine own_sipush X (v := (128 : Int32)) (pc' := 164) d2_161 rfl (by decide) ?_
          refine own_icmp_eq X (pct := 169) (pc' := 167) d2_164 rfl (by decide) (by decide) (fun hc164_11 => ?_) (fun hc164_11 => ?_)
          · refine own_iload X (pc' := 171) d2_169 rfl rfl ?_
            refine own_bipush X (v := (6 : Int32)) (pc' := 173) d2_171 rfl (by decide) ?_
            refine own_ishl X (r := ((((u0 &&& (15 : Int32)) <<< ((6 : Int32) &&& 31)) ||| (u1 &&& (63 : Int32))) <<< ((6 : Int32) &&& 31))) (pc' := 174) d2_173 rfl rfl ?_
            refine own_iload X (pc' := 176) d2_174 rfl rfl ?_
            refine own_bipush X (v := (63 : Int32)) (pc' := 178) d2_176 rfl (by decide) ?_
            refine own_iand X (r := (u2 &&& (63 : Int32))) (pc' := 179) d2_178 rfl rfl ?_
            refine own_ior X (r := (((((u0 &&& (15 : Int32)) <<< ((6 : Int32) &&& 31)) ||| (u1 &&& (63 : Int32))) <<< ((6 : Int32) &&& 31)) ||| (u2 &&& (63 : Int32)))) (pc' := 180) d2_179 rfl rfl ?_
            refine own_istore X (pc' := 182) (Ls' := #[.val (.ref a), .val (.int i), .val (.int ed), .val (.int u0), .val (.int (3 : Int32)), .val (.int (((((u0 &&& (15 : Int32)) <<< ((6 : Int32) &&& 31)) ||| (u1 &&& (63 : Int32))) <<< ((6 : Int32) &&& 31)) ||| (u2 &&& (63 : Int32)))), .val (.int (2048 : Int32)), .val (.int u1), .val (.int u2)]) d2_180 rfl rfl ?_
            refine own_iload X (pc' := 184) d2_182 rfl rfl ?_
            refine own_iconst X (v := (4 : Int32)) (pc' := 185) d2_184 rfl (by decide) ?_
            refine own_icmp_ne X (pct := 222) (pc' := 188) d2_185 rfl (by decide) (by decide) (fun _ => ?_) (fun hc => absurd hc (by decide))
            refine own_iload X (pc' := 224) d2_222 rfl rfl ?_
            refine own_iload X (pc' := 226) d2_224 rfl rfl ?_
            refine own_icmp_ge X (pct := 231) (pc' := 229) d2_226 rfl (by decide) (by decide) (fun hc226_12 => ?_) (fun hc226_12 => ?_)
            · refine own_iload X (pc' := 233) d2_231 rfl rfl ?_
              refine own_ldc X (pc' := 235) (hw _ (List.mem_of_getElem? (i := 13) rfl)) d2_233 rfl ?_
              refine own_icmp_lt X (pct := 247) (pc' := 238) d2_235 rfl (by decide) (by decide) (fun hc235_13 => ?_) (fun hc235_13 => ?_)
              · refine own_iload X (pc' := 249) d2_247 rfl rfl ?_
                refine own_ldc X (pc' := 251) (hw _ (List.mem_of_getElem? (i := 14) rfl)) d2_249 rfl ?_
                refine own_icmp_le X (pct := 256) (pc' := 254) d2_251 rfl (by decide) (by decide) (fun _ => ?_) (fun hc => absurd hc (by simp only [Int32.lt_iff_toInt_lt, ← Int32.toInt_inj, Int32.reduceToInt] at hc226_12 hc235_13 ⊢; omega))
                refine own_iload X (pc' := 258) d2_256 rfl rfl ?_
                subst hΦ
                refine own_retI X d2_258 (by decide) (by decide) ?_ rfl
                rw [B0.1] at hc21_2
                rw [B0.2.1] at hc49_3
                rw [B1.2.2.2] at hc124_10
                rw [B2.2.2.2] at hc164_11
                rw [Int32.lt_iff_toInt_lt] at hc8_1 hc226_12 hc235_13
                simp only [Int32.reduceToInt] at hc8_1 hc226_12 hc235_13
                have mm := c_mask u0 15 4 (by decide) (by decide)
                have P1 := own_cp2 (u0 &&& (15 : Int32)) u1 0 (by omega)
                have P2 := own_cp2 (((u0 &&& (15 : Int32)) <<< ((6 : Int32) &&& 31)) ||| (u1 &&& (63 : Int32))) u2 0 (by omega)
                show some (Value.int (3 : Int32)) = some (Value.int (own_g 4 u0 u1 u2 u3))
                unfold own_g
                repeat' split
                all_goals first | rfl | omega
              · refine own_iload X (pc' := 240) d2_238 rfl rfl ?_
                refine own_ldc X (pc' := 242) (hw _ (List.mem_of_getElem? (i := 16) rfl)) d2_240 rfl ?_
                refine own_icmp_gt X (pct := 247) (pc' := 245) d2_242 rfl (by decide) (by decide) (fun hc242_14 => ?_) (fun hc242_14 => ?_)
                · refine own_iload X (pc' := 249) d2_247 rfl rfl ?_
                  refine own_ldc X (pc' := 251) (hw _ (List.mem_of_getElem? (i := 14) rfl)) d2_249 rfl ?_
                  refine own_icmp_le X (pct := 256) (pc' := 254) d2_251 rfl (by decide) (by decide) (fun hc251_15 => ?_) (fun hc251_15 => ?_)
                  · refine own_iload X (pc' := 258) d2_256 rfl rfl ?_
                    subst hΦ
                    refine own_retI X d2_258 (by decide) (by decide) ?_ rfl
                    rw [B0.1] at hc21_2
                    rw [B0.2.1] at hc49_3
                    rw [B1.2.2.2] at hc124_10
                    rw [B2.2.2.2] at hc164_11
                    rw [Int32.lt_iff_toInt_lt] at hc8_1 hc226_12 hc235_13 hc242_14 hc251_15
                    simp only [Int32.reduceToInt] at hc8_1 hc226_12 hc235_13 hc242_14 hc251_15
                    have mm := c_mask u0 15 4 (by decide) (by decide)
                    have P1 := own_cp2 (u0 &&& (15 : Int32)) u1 0 (by omega)
                    have P2 := own_cp2 (((u0 &&& (15 : Int32)) <<< ((6 : Int32) &&& 31)) ||| (u1 &&& (63 : Int32))) u2 0 (by omega)
                    show some (Value.int (3 : Int32)) = some (Value.int (own_g 4 u0 u1 u2 u3))
                    unfold own_g
                    repeat' split
                    all_goals first | rfl | omega
                  · refine own_iconst X (v := (0 : Int32)) (pc' := 255) d2_254 rfl (by decide) ?_
                    subst hΦ
                    refine own_retI X d2_255 (by decide) (by decide) ?_ rfl
                    rw [B0.1] at hc21_2
                    rw [B0.2.1] at hc49_3
                    rw [B1.2.2.2] at hc124_10
                    rw [B2.2.2.2] at hc164_11
                    rw [Int32.lt_iff_toInt_lt] at hc8_1 hc226_12 hc235_13 hc242_14 hc251_15
                    simp only [Int32.reduceToInt] at hc8_1 hc226_12 hc235_13 hc242_14 hc251_15
                    have mm := c_mask u0 15 4 (by decide) (by decide)
                    have P1 := own_cp2 (u0 &&& (15 : Int32)) u1 0 (by omega)
                    have P2 := own_cp2 (((u0 &&& (15 : Int32)) <<< ((6 : Int32) &&& 31)) ||| (u1 &&& (63 : Int32))) u2 0 (by omega)
                    show some (Value.int (0 : Int32)) = some (Value.int (own_g 4 u0 u1 u2 u3))
                    unfold own_g
                    repeat' split
                    all_goals first | rfl | omega
                · refine own_iconst X (v := (0 : Int32)) (pc' := 246) d2_245 rfl (by decide) ?_
                  subst hΦ
                  refine own_retI X d2_246 (by decide) (by decide) ?_ rfl
                  rw [B0.1] at hc21_2
                  rw [B0.2.1] at hc49_3
                  rw [B1.2.2.2] at hc124_10
                  rw [B2.2.2.2] at hc164_11
                  rw [Int32.lt_iff_toInt_lt] at hc8_1 hc226_12 hc235_13 hc242_14
                  simp only [Int32.reduceToInt] at hc8_1 hc226_12 hc235_13 hc242_14
                  have mm := c_mask u0 15 4 (by decide) (by decide)
                  have P1 := own_cp2 (u0 &&& (15 : Int32)) u1 0 (by omega)
                  have P2 := own_cp2 (((u0 &&& (15 : Int32)) <<< ((6 : Int32) &&& 31)) ||| (u1 &&& (63 : Int32))) u2 0 (by omega)
                  show some (Value.int (0 : Int32)) = some (Value.int (own_g 4 u0 u1 u2 u3))
                  unfold own_g
                  repeat' split
                  all_goals first | rfl | omega
            · refine own_iconst X (v := (0 : Int32)) (pc' := 230) d2_229 rfl (by decide) ?_
              subst hΦ
              refine own_retI X d2_230 (by decide) (by decide) ?_ rfl
              rw [B0.1] at hc21_2
              rw [B0.2.1] at hc49_3
              rw [B1.2.2.2] at hc124_10
              rw [B2.2.2.2] at hc164_11
              rw [Int32.lt_iff_toInt_lt] at hc8_1 hc226_12
              simp only [Int32.reduceToInt] at hc8_1 hc226_12
              have mm := c_mask u0 15 4 (by decide) (by decide)
              have P1 := own_cp2 (u0 &&& (15 : Int32)) u1 0 (by omega)
              have P2 := own_cp2 (((u0 &&& (15 : Int32)) <<< ((6 : Int32) &&& 31)) ||| (u1 &&& (63 : Int32))) u2 0 (by omega)
              show some (Value.int (0 : Int32)) = some (Value.int (own_g 4 u0 u1 u2 u3))
              unfold own_g
              repeat' split
              all_goals first | rfl | omega
          · refine own_iconst X (v := (0 : Int32)) (pc' := 168) d2_167 rfl (by decide) ?_
            subst hΦ
            refine own_retI X d2_168 (by decide) (by decide) ?_ rfl
            rw [B0.1] at hc21_2
            rw [B0.2.1] at hc49_3
            rw [B1.2.2.2] at hc124_10
            rw [B2.2.2.2] at hc164_11
            rw [Int32.lt_iff_toInt_lt] at hc8_1
            simp only [Int32.reduceToInt] at hc8_1
            show some (Value.int (0 : Int32)) = some (Value.int (own_g 4 u0 u1 u2 u3))
            unfold own_g
            repeat' split
            all_goals first | rfl | omega
        · refine own_iconst X (v := (0 : Int32)) (pc' := 128) d2_127 rfl (by decide) ?_
          subst hΦ
          refine own_retI X d2_128 (by decide) (by decide) ?_ rfl
          rw [B0.1] at hc21_2
          rw [B0.2.1] at hc49_3
          rw [B1.2.2.2] at hc124_10
          rw [Int32.lt_iff_toInt_lt] at hc8_1
          simp only [Int32.reduceToInt] at hc8_1
          show some (Value.int (0 : Int32)) = some (Value.int (own_g 4 u0 u1 u2 u3))
          unfold own_g
          repeat' split
          all_goals first | rfl | omega
    · refine own_iconst X (v := (2 : Int32)) (pc' := 25) d2_24 rfl (by decide) ?_
      refine own_istore X (pc' := 27) (Ls' := #[.val (.ref a), .val (.int i), .val (.int ed), .val (.int u0), .val (.int (2 : Int32)), .unset, .unset, .unset, .unset]) d2_25 rfl rfl ?_
      refine own_iloadN X (pc' := 28) d2_27 rfl rfl ?_
      refine own_bipush X (v := (31 : Int32)) (pc' := 30) d2_28 rfl (by decide) ?_
      refine own_iand X (r := (u0 &&& (31 : Int32))) (pc' := 31) d2_30 rfl rfl ?_
      refine own_istore X (pc' := 33) (Ls' := #[.val (.ref a), .val (.int i), .val (.int ed), .val (.int u0), .val (.int (2 : Int32)), .val (.int (u0 &&& (31 : Int32))), .unset, .unset, .unset]) d2_31 rfl rfl ?_
      refine own_sipush X (v := (128 : Int32)) (pc' := 36) d2_33 rfl (by decide) ?_
      refine own_istore X (pc' := 38) (Ls' := #[.val (.ref a), .val (.int i), .val (.int ed), .val (.int u0), .val (.int (2 : Int32)), .val (.int (u0 &&& (31 : Int32))), .val (.int (128 : Int32)), .unset, .unset]) d2_36 rfl rfl ?_
      refine own_goto X (pc' := 98) d2_38 (by decide) (by decide) ?_
      refine own_iloadN X (pc' := 99) d2_98 rfl rfl ?_
      refine own_iloadN X (pc' := 100) d2_99 rfl rfl ?_
      refine own_isub X (r := (ed - i)) (pc' := 101) d2_100 rfl rfl ?_
      rw [hm]
      refine own_iload X (pc' := 103) d2_101 rfl rfl ?_
      refine own_icmp_ge X (pct := 108) (pc' := 106) d2_103 rfl (by decide) (by decide) (fun _ => ?_) (fun hc => absurd hc (by decide))
      refine own_aloadN X (pc' := 109) d2_108 rfl rfl rfl ?_
      refine own_iloadN X (pc' := 110) d2_109 rfl rfl ?_
      refine own_iconst X (v := (1 : Int32)) (pc' := 111) d2_110 rfl (by decide) ?_
      refine own_iadd X (r := (i + (1 : Int32))) (pc' := 112) d2_111 rfl rfl ?_
      refine own_iaload X (v := u1) (pc' := 113) A g1 f1 d2_112 rfl ?_
      refine own_istore X (pc' := 115) (Ls' := #[.val (.ref a), .val (.int i), .val (.int ed), .val (.int u0), .val (.int (2 : Int32)), .val (.int (u0 &&& (31 : Int32))), .val (.int (128 : Int32)), .val (.int u1), .unset]) d2_113 rfl rfl ?_
      refine own_iload X (pc' := 117) d2_115 rfl rfl ?_
      refine own_sipush X (v := (192 : Int32)) (pc' := 120) d2_117 rfl (by decide) ?_
      refine own_iand X (r := (u1 &&& (192 : Int32))) (pc' := 121) d2_120 rfl rfl ?_
      refine own_sipush X (v := (128 : Int32)) (pc' := 124) d2_121 rfl (by decide) ?_
      refine own_icmp_eq X (pct := 129) (pc' := 127) d2_124 rfl (by decide) (by decide) (fun hc124_16 => ?_) (fun hc124_16 => ?_)
      · refine own_iload X (pc' := 131) d2_129 rfl rfl ?_
        refine own_bipush X (v := (6 : Int32)) (pc' := 133) d2_131 rfl (by decide) ?_
        refine own_ishl X (r := ((u0 &&& (31 : Int32)) <<< ((6 : Int32) &&& 31))) (pc' := 134) d2_133 rfl rfl ?_
        refine own_iload X (pc' := 136) d2_134 rfl rfl ?_
        refine own_bipush X (v := (63 : Int32)) (pc' := 138) d2_136 rfl (by decide) ?_
        refine own_iand X (r := (u1 &&& (63 : Int32))) (pc' := 139) d2_138 rfl rfl ?_
        refine own_ior X (r := (((u0 &&& (31 : Int32)) <<< ((6 : Int32) &&& 31)) ||| (u1 &&& (63 : Int32)))) (pc' := 140) d2_139 rfl rfl ?_
        refine own_istore X (pc' := 142) (Ls' := #[.val (.ref a), .val (.int i), .val (.int ed), .val (.int u0), .val (.int (2 : Int32)), .val (.int (((u0 &&& (31 : Int32)) <<< ((6 : Int32) &&& 31)) ||| (u1 &&& (63 : Int32)))), .val (.int (128 : Int32)), .val (.int u1), .unset]) d2_140 rfl rfl ?_
        refine own_iload X (pc' := 144) d2_142 rfl rfl ?_
        refine own_iconst X (v := (3 : Int32)) (pc' := 145) d2_144 rfl (by decide) ?_
        refine own_icmp_lt X (pct := 182) (pc' := 148) d2_145 rfl (by decide) (by decide) (fun _ => ?_) (fun hc => absurd hc (by decide))
        refine own_iload X (pc' := 184) d2_182 rfl rfl ?_
        refine own_iconst X (v := (4 : Int32)) (pc' := 185) d2_184 rfl (by decide) ?_
        refine own_icmp_ne X (pct := 222) (pc' := 188) d2_185 rfl (by decide) (by decide) (fun _ => ?_) (fun hc => absurd hc (by decide))
        refine own_iload X (pc' := 224) d2_222 rfl rfl ?_
        refine own_iload X (pc' := 226) d2_224 rfl rfl ?_
        refine own_icmp_ge X (pct := 231) (pc' := 229) d2_226 rfl (by decide) (by decide) (fun hc226_17 => ?_) (fun hc226_17 => ?_)
        · refine own_iload X (pc' := 233) d2_231 rfl rfl ?_
          refine own_ldc X (pc' := 235) (hw _ (List.mem_of_getElem? (i := 13) rfl)) d2_233 rfl ?_
          refine own_icmp_lt X (pct := 247) (pc' := 238) d2_235 rfl (by decide) (by decide) (fun hc235_18 => ?_) (fun hc235_18 => ?_)
          · refine own_iload X (pc' := 249) d2_247 rfl rfl ?_
            refine own_ldc X (pc' := 251) (hw _ (List.mem_of_getElem? (i := 14) rfl)) d2_249 rfl ?_
            refine own_icmp_le X (pct := 256) (pc' := 254) d2_251 rfl (by decide) (by decide) (fun _ => ?_) (fun hc => absurd hc (by simp only [Int32.lt_iff_toInt_lt, ← Int32.toInt_inj, Int32.reduceToInt] at hc226_17 hc235_18 ⊢; omega))
            refine own_iload X (pc' := 258) d2_256 rfl rfl ?_
            subst hΦ
            refine own_retI X d2_258 (by decide) (by decide) ?_ rfl
            rw [B0.1] at hc21_2
            rw [B1.2.2.2] at hc124_16
            rw [Int32.lt_iff_toInt_lt] at hc8_1 hc226_17 hc235_18
            simp only [Int32.reduceToInt] at hc8_1 hc226_17 hc235_18
            have mm := c_mask u0 31 5 (by decide) (by decide)
            have P1 := own_cp2 (u0 &&& (31 : Int32)) u1 0 (by omega)
            show some (Value.int (2 : Int32)) = some (Value.int (own_g 4 u0 u1 u2 u3))
            unfold own_g
            repeat' split
            all_goals first | rfl | omega
          · refine own_iload X (pc' := 240) d2_238 rfl rfl ?_
            refine own_ldc X (pc' := 242) (hw _ (List.mem_of_getElem? (i := 16) rfl)) d2_240 rfl ?_
            refine own_icmp_gt X (pct := 247) (pc' := 245) d2_242 rfl (by decide) (by decide) (fun hc242_19 => ?_) (fun hc242_19 => ?_)
            · refine own_iload X (pc' := 249) d2_247 rfl rfl ?_
              refine own_ldc X (pc' := 251) (hw _ (List.mem_of_getElem? (i := 14) rfl)) d2_249 rfl ?_
              refine own_icmp_le X (pct := 256) (pc' := 254) d2_251 rfl (by decide) (by decide) (fun hc251_20 => ?_) (fun hc251_20 => ?_)
              · refine own_iload X (pc' := 258) d2_256 rfl rfl ?_
                subst hΦ
                refine own_retI X d2_258 (by decide) (by decide) ?_ rfl
                rw [B0.1] at hc21_2
                rw [B1.2.2.2] at hc124_16
                rw [Int32.lt_iff_toInt_lt] at hc8_1 hc226_17 hc235_18 hc242_19 hc251_20
                simp only [Int32.reduceToInt] at hc8_1 hc226_17 hc235_18 hc242_19 hc251_20
                have mm := c_mask u0 31 5 (by decide) (by decide)
                have P1 := own_cp2 (u0 &&& (31 : Int32)) u1 0 (by omega)
                show some (Value.int (2 : Int32)) = some (Value.int (own_g 4 u0 u1 u2 u3))
                unfold own_g
                repeat' split
                all_goals first | rfl | omega
              · refine own_iconst X (v := (0 : Int32)) (pc' := 255) d2_254 rfl (by decide) ?_
                subst hΦ
                refine own_retI X d2_255 (by decide) (by decide) ?_ rfl
                rw [B0.1] at hc21_2
                rw [B1.2.2.2] at hc124_16
                rw [Int32.lt_iff_toInt_lt] at hc8_1 hc226_17 hc235_18 hc242_19 hc251_20
                simp only [Int32.reduceToInt] at hc8_1 hc226_17 hc235_18 hc242_19 hc251_20
                have mm := c_mask u0 31 5 (by decide) (by decide)
                have P1 := own_cp2 (u0 &&& (31 : Int32)) u1 0 (by omega)
                show some (Value.int (0 : Int32)) = some (Value.int (own_g 4 u0 u1 u2 u3))
                unfold own_g
                repeat' split
                all_goals first | rfl | omega
            · refine own_iconst X (v := (0 : Int32)) (pc' := 246) d2_245 rfl (by decide) ?_
              subst hΦ
              refine own_retI X d2_246 (by decide) (by decide) ?_ rfl
              rw [B0.1] at hc21_2
              rw [B1.2.2.2] at hc124_16
              rw [Int32.lt_iff_toInt_lt] at hc8_1 hc226_17 hc235_18 hc242_19
              simp only [Int32.reduceToInt] at hc8_1 hc226_17 hc235_18 hc242_19
              have mm := c_mask u0 31 5 (by decide) (by decide)
              have P1 := own_cp2 (u0 &&& (31 : Int32)) u1 0 (by omega)
              show some (Value.int (0 : Int32)) = some (Value.int (own_g 4 u0 u1 u2 u3))
              unfold own_g
              repeat' split
              all_goals first | rfl | omega
        · refine own_iconst X (v := (0 : Int32)) (pc' := 230) d2_229 rfl (by decide) ?_
          subst hΦ
          refine own_retI X d2_230 (by decide) (by decide) ?_ rfl
          rw [B0.1] at hc21_2
          rw [B1.2.2.2] at hc124_16
          rw [Int32.lt_iff_toInt_lt] at hc8_1 hc226_17
          simp only [Int32.reduceToInt] at hc8_1 hc226_17
          have mm := c_mask u0 31 5 (by decide) (by decide)
          have P1 := own_cp2 (u0 &&& (31 : Int32)) u1 0 (by omega)
          show some (Value.int (0 : Int32)) = some (Value.int (own_g 4 u0 u1 u2 u3))
          unfold own_g
          repeat' split
          all_goals first | rfl | omega
      · refine own_iconst X (v := (0 : Int32)) (pc' := 128) d2_127 rfl (by decide) ?_
        subst hΦ
        refine own_retI X d2_128 (by decide) (by decide) ?_ rfl
        rw [B0.1] at hc21_2
        rw [B1.2.2.2] at hc124_16
        rw [Int32.lt_iff_toInt_lt] at hc8_1
        simp only [Int32.reduceToInt] at hc8_1
        show some (Value.int (0 : Int32)) = some (Value.int (own_g 4 u0 u1 u2 u3))
        unfold own_g
        repeat' split
        all_goals first | rfl | omega
  · refine own_iconst X (v := (1 : Int32)) (pc' := 12) d2_11 rfl (by decide) ?_
    subst hΦ
    refine own_retI X d2_12 (by decide) (by decide) ?_ rfl
    rw [Int32.lt_iff_toInt_lt] at hc8_1
    simp only [Int32.reduceToInt] at hc8_1
    show some (Value.int (1 : Int32)) = some (Value.int (own_g 4 u0 u1 u2 u3))
    unfold own_g
    repeat' split
    all_goals first | rfl | omega
theorem d1_0 : decode method_3_code 0 = .ok (.iload_n 1, 1) := by decide +kernel
theorem d1_1 : decode method_3_code 1 = .ok (.ifCond .lt 8, 3) := by decide +kernel
theorem d1_9 : decode method_3_code 9 = .ok (.iload_n 1, 1) := by decide +kernel
theorem d1_10 : decode method_3_code 10 = .ok (.ireturn, 1) := by decide +kernel
theorem pn_rm1_A : plainFor (⟨"com/example/vegeu/vegeu/model/Utf8IsWellFormedPinLaw", "next", "([III)I"⟩ : MethodName) = true := plainFor_of_name (by first | (simp [plainName, overriddenIn]; done) | decide +kernel)
theorem ef_rm1_A (m : MethodId) (x0 : Addr) (x1 : Int32) (x2 : Int32) : entryFrame m #[(.ref x0), (.int x1), (.int x2)] 4 = mkF m 0 #[.val (.ref x0), .val (.int x1), .val (.int x2), .unset] [] := by first | (simp [entryFrame, mkF, argsToLocals, Value.category]; done) | rfl
set_option maxRecDepth 65536 in
set_option maxHeartbeats 4000000 in
theorem rm1_A (l : Launch) (Z : State) (a0 : Array Value) (hw : ∀ d ∈ tables_1, d.before a0 Z = true) (n0 : Nat) (a : Addr) (i : Int32) (ed : Int32) (h0 : Heap) (hn0 : n0 ≤ h0.size) (h1 : i < 0) :
    own_Met l (⟨"com/example/vegeu/vegeu/model/Utf8IsWellFormedPinLaw", "next", "([III)I"⟩ : MethodName) method_3_code 4 (some .int) ({ frames := 1, cells := 0, slots := 0, locals := 20 } : Room) Z n0 #[(.ref a), (.int i), (.int ed)] h0 (some (.int i)) (fun h' => h' = h0) := by
  refine own_met pn_rm1_A hn0 ?_
  intro p e s m below meth c T X
  refine own_cast (ef_rm1_A m a i ed) ?_
  generalize hΦ : own_Q n0 below s _ _ _ = Φ
  refine own_iloadN X (pc' := 1) d1_0 rfl rfl ?_
  refine own_if_lt X (pct := 9) (pc' := 4) d1_1 rfl (by decide) (by decide) (fun _ => ?_) (fun hc => absurd hc (fun q => q h1))
  refine own_iloadN X (pc' := 10) d1_9 rfl rfl ?_
  subst hΦ
  exact own_retI X d1_10 (by decide) (by decide) rfl rfl
theorem d1_4 : decode method_3_code 4 = .ok (.iload_n 1, 1) := by decide +kernel
theorem d1_5 : decode method_3_code 5 = .ok (.iload_n 2, 1) := by decide +kernel
theorem d1_6 : decode method_3_code 6 = .ok (.if_icmp .lt 5, 3) := by decide +kernel
theorem pn_rm1_B : plainFor (⟨"com/example/vegeu/vegeu/model/Utf8IsWellFormedPinLaw", "next", "([III)I"⟩ : MethodName) = true := plainFor_of_name (by first | (simp [plainName, overriddenIn]; done) | decide +kernel)
theorem ef_rm1_B (m : MethodId) (x0 : Addr) (x1 : Int32) (x2 : Int32) : entryFrame m #[(.ref x0), (.int x1), (.int x2)] 4 = mkF m 0 #[.val (.ref x0), .val (.int x1), .val (.int x2), .unset] [] := by first | (simp [entryFrame, mkF, argsToLocals, Value.category]; done) | rfl
set_option maxRecDepth 65536 in
set_option maxHeartbeats 4000000 in
theorem rm1_B (l : Launch) (Z : State) (a0 : Array Value) (hw : ∀ d ∈ tables_1, d.before a0 Z = true) (n0 : Nat) (a : Addr) (i : Int32) (ed : Int32) (h0 : Heap) (hn0 : n0 ≤ h0.size) (h1 : ¬ i < 0) (h2 : ¬ i < ed) :
    own_Met l (⟨"com/example/vegeu/vegeu/model/Utf8IsWellFormedPinLaw", "next", "([III)I"⟩ : MethodName) method_3_code 4 (some .int) ({ frames := 1, cells := 0, slots := 0, locals := 20 } : Room) Z n0 #[(.ref a), (.int i), (.int ed)] h0 (some (.int i)) (fun h' => h' = h0) := by
  refine own_met pn_rm1_B hn0 ?_
  intro p e s m below meth c T X
  refine own_cast (ef_rm1_B m a i ed) ?_
  generalize hΦ : own_Q n0 below s _ _ _ = Φ
  refine own_iloadN X (pc' := 1) d1_0 rfl rfl ?_
  refine own_if_lt X (pct := 9) (pc' := 4) d1_1 rfl (by decide) (by decide) (fun hc => absurd hc h1) (fun _ => ?_)
  refine own_iloadN X (pc' := 5) d1_4 rfl rfl ?_
  refine own_iloadN X (pc' := 6) d1_5 rfl rfl ?_
  refine own_icmp_lt X (pct := 11) (pc' := 9) d1_6 rfl (by decide) (by decide) (fun hc => absurd hc h2) (fun _ => ?_)
  refine own_iloadN X (pc' := 10) d1_9 rfl rfl ?_
  subst hΦ
  exact own_retI X d1_10 (by decide) (by decide) rfl rfl
theorem d1_11 : decode method_3_code 11 = .ok (.aload_n 0, 1) := by decide +kernel
theorem d1_12 : decode method_3_code 12 = .ok (.iload_n 1, 1) := by decide +kernel
theorem d1_13 : decode method_3_code 13 = .ok (.iload_n 2, 1) := by decide +kernel
theorem d1_14 : decode method_3_code 14 = .ok (.invokestatic 19, 3) := by decide +kernel
theorem d1_17 : decode method_3_code 17 = .ok (.istore_n 3, 1) := by decide +kernel
theorem d1_18 : decode method_3_code 18 = .ok (.iload_n 3, 1) := by decide +kernel
theorem d1_19 : decode method_3_code 19 = .ok (.ifCond .ne 7, 3) := by decide +kernel
theorem d1_22 : decode method_3_code 22 = .ok (.iconst (-1), 1) := by decide +kernel
theorem d1_23 : decode method_3_code 23 = .ok (.goto 6, 3) := by decide +kernel
theorem d1_26 : decode method_3_code 26 = .ok (.iload_n 1, 1) := by decide +kernel
theorem d1_27 : decode method_3_code 27 = .ok (.iload_n 3, 1) := by decide +kernel
theorem d1_28 : decode method_3_code 28 = .ok (.iadd, 1) := by decide +kernel
theorem d1_29 : decode method_3_code 29 = .ok (.ireturn, 1) := by decide +kernel
theorem pd_0 : parseMethodDescriptor "([III)I" = some ⟨[(.array .int), .int, .int], some .int⟩ := by decide +kernel
theorem pn_rm1_1 : plainFor (⟨"com/example/vegeu/vegeu/model/Utf8IsWellFormedPinLaw", "next", "([III)I"⟩ : MethodName) = true := plainFor_of_name (by first | (simp [plainName, overriddenIn]; done) | decide +kernel)
theorem ef_rm1_1 (m : MethodId) (x0 : Addr) (x1 : Int32) (x2 : Int32) : entryFrame m #[(.ref x0), (.int x1), (.int x2)] 4 = mkF m 0 #[.val (.ref x0), .val (.int x1), .val (.int x2), .unset] [] := by first | (simp [entryFrame, mkF, argsToLocals, Value.category]; done) | rfl
set_option maxRecDepth 65536 in
set_option maxHeartbeats 4000000 in
theorem rm1_1 (l : Launch) (Z : State) (a0 : Array Value) (hw : ∀ d ∈ tables_1, d.before a0 Z = true) (n0 : Nat) (a : Addr) (i : Int32) (ed : Int32) (h0 : Heap) (hn0 : n0 ≤ h0.size) (vs : List Int32) (A : own_A Z h0 a .int vs) (u0 : Int32) (h1 : ¬ i < 0) (h2 : i < ed) (hm : ed - i = (1 : Int32)) (g0 : own_in i vs.length = true) (f0 : vs.getD (i).toNatClampNeg 0 = u0) (r0 : 0 ≤ u0.toInt ∧ u0.toInt < 256) :
    own_Met l (⟨"com/example/vegeu/vegeu/model/Utf8IsWellFormedPinLaw", "next", "([III)I"⟩ : MethodName) method_3_code 4 (some .int) ({ frames := 1, cells := 0, slots := 0, locals := 20 } : Room) Z n0 #[(.ref a), (.int i), (.int ed)] h0 (some (.int (own_nv i [u0]))) (fun h' => h' = h0) := by
  refine own_met pn_rm1_1 hn0 ?_
  intro p e s m below meth c T X
  refine own_cast (ef_rm1_1 m a i ed) ?_
  generalize hΦ : own_Q n0 below s _ _ _ = Φ
  refine own_iloadN X (pc' := 1) d1_0 rfl rfl ?_
  refine own_if_lt X (pct := 9) (pc' := 4) d1_1 rfl (by decide) (by decide) (fun hc => absurd hc h1) (fun _ => ?_)
  refine own_iloadN X (pc' := 5) d1_4 rfl rfl ?_
  refine own_iloadN X (pc' := 6) d1_5 rfl rfl ?_
  refine own_icmp_lt X (pct := 11) (pc' := 9) d1_6 rfl (by decide) (by decide) (fun _ => ?_) (fun hc => absurd hc (fun q => q h2))
  refine own_aloadN X (pc' := 12) d1_11 rfl rfl rfl ?_
  refine own_iloadN X (pc' := 13) d1_12 rfl rfl ?_
  refine own_iloadN X (pc' := 14) d1_13 rfl rfl ?_
  refine own_callS X (W := 0) (argsL := [(.ref a), (.int i), (.int ed)]) (rest := []) (S' := [(.int (own_sl [u0]))]) (pc' := 17) (rm2_1 l Z a0 hw n0 a i ed h0 X.size vs A u0 hm g0 f0 r0) (hw _ (List.mem_of_getElem? (i := 6) rfl)) (hw _ (List.mem_of_getElem? (i := 7) rfl)) (hw _ (List.mem_of_getElem? (i := 4) rfl)) (hw _ (List.mem_of_getElem? (i := 8) rfl)) (by decide) (by decide) (by decide) rfl rfl (by decide) (by decide) (lenOf pd_0 rfl) rfl (by first | decide | exact Nat.le_of_eq rfl) rfl d1_14 rfl rfl ?_
  intro T1 h1 X1 qq1
  rw [show h1 = h0 from qq1] at X1
  refine own_istoreN X1 (pc' := 18) (Ls' := #[.val (.ref a), .val (.int i), .val (.int ed), .val (.int (own_sl [u0]))]) d1_17 rfl rfl ?_
  refine own_iloadN X1 (pc' := 19) d1_18 rfl rfl ?_
  refine own_if_ne X1 (pct := 26) (pc' := 22) d1_19 rfl (by decide) (by decide) (fun hc19_2 => ?_) (fun hc19_2 => ?_)
  · refine own_iloadN X1 (pc' := 27) d1_26 rfl rfl ?_
    refine own_iloadN X1 (pc' := 28) d1_27 rfl rfl ?_
    refine own_iadd X1 (r := (i + (own_sl [u0]))) (pc' := 29) d1_28 rfl rfl ?_
    subst hΦ
    exact own_retI X1 d1_29 (by decide) (by decide) (by rw [own_nv, if_neg hc19_2]) rfl
  · refine own_iconst X1 (v := (-1 : Int32)) (pc' := 23) d1_22 rfl (by decide) ?_
    refine own_goto X1 (pc' := 29) d1_23 (by decide) (by decide) ?_
    subst hΦ
    exact own_retI X1 d1_29 (by decide) (by decide) (by rw [own_nv, if_pos hc19_2]) rfl
theorem pn_rm1_2 : plainFor (⟨"com/example/vegeu/vegeu/model/Utf8IsWellFormedPinLaw", "next", "([III)I"⟩ : MethodName) = true := plainFor_of_name (by first | (simp [plainName, overriddenIn]; done) | decide +kernel)
theorem ef_rm1_2 (m : MethodId) (x0 : Addr) (x1 : Int32) (x2 : Int32) : entryFrame m #[(.ref x0), (.int x1), (.int x2)] 4 = mkF m 0 #[.val (.ref x0), .val (.int x1), .val (.int x2), .unset] [] := by first | (simp [entryFrame, mkF, argsToLocals, Value.category]; done) | rfl
set_option maxRecDepth 65536 in
set_option maxHeartbeats 4000000 in
theorem rm1_2 (l : Launch) (Z : State) (a0 : Array Value) (hw : ∀ d ∈ tables_1, d.before a0 Z = true) (n0 : Nat) (a : Addr) (i : Int32) (ed : Int32) (h0 : Heap) (hn0 : n0 ≤ h0.size) (vs : List Int32) (A : own_A Z h0 a .int vs) (u0 u1 : Int32) (h1 : ¬ i < 0) (h2 : i < ed) (hm : ed - i = (2 : Int32)) (g0 : own_in i vs.length = true) (f0 : vs.getD (i).toNatClampNeg 0 = u0) (g1 : own_in (i + (1 : Int32)) vs.length = true) (f1 : vs.getD ((i + (1 : Int32))).toNatClampNeg 0 = u1) (r0 : 0 ≤ u0.toInt ∧ u0.toInt < 256) (r1 : 0 ≤ u1.toInt ∧ u1.toInt < 256) :
    own_Met l (⟨"com/example/vegeu/vegeu/model/Utf8IsWellFormedPinLaw", "next", "([III)I"⟩ : MethodName) method_3_code 4 (some .int) ({ frames := 1, cells := 0, slots := 0, locals := 20 } : Room) Z n0 #[(.ref a), (.int i), (.int ed)] h0 (some (.int (own_nv i [u0, u1]))) (fun h' => h' = h0) := by
  refine own_met pn_rm1_2 hn0 ?_
  intro p e s m below meth c T X
  refine own_cast (ef_rm1_2 m a i ed) ?_
  generalize hΦ : own_Q n0 below s _ _ _ = Φ
  refine own_iloadN X (pc' := 1) d1_0 rfl rfl ?_
  refine own_if_lt X (pct := 9) (pc' := 4) d1_1 rfl (by decide) (by decide) (fun hc => absurd hc h1) (fun _ => ?_)
  refine own_iloadN X (pc' := 5) d1_4 rfl rfl ?_
  refine own_iloadN X (pc' := 6) d1_5 rfl rfl ?_
  refine own_icmp_lt X (pct := 11) (pc' := 9) d1_6 rfl (by decide) (by decide) (fun _ => ?_) (fun hc => absurd hc (fun q => q h2))
  refine own_aloadN X (pc' := 12) d1_11 rfl rfl rfl ?_
  refine own_iloadN X (pc' := 13) d1_12 rfl rfl ?_
  refine own_iloadN X (pc' := 14) d1_13 rfl rfl ?_
  refine own_callS X (W := 0) (argsL := [(.ref a), (.int i), (.int ed)]) (rest := []) (S' := [(.int (own_sl [u0, u1]))]) (pc' := 17) (rm2_2 l Z a0 hw n0 a i ed h0 X.size vs A u0 u1 hm g0 f0 g1 f1 r0 r1) (hw _ (List.mem_of_getElem? (i := 6) rfl)) (hw _ (List.mem_of_getElem? (i := 7) rfl)) (hw _ (List.mem_of_getElem? (i := 4) rfl)) (hw _ (List.mem_of_getElem? (i := 8) rfl)) (by decide) (by decide) (by decide) rfl rfl (by decide) (by decide) (lenOf pd_0 rfl) rfl (by first | decide | exact Nat.le_of_eq rfl) rfl d1_14 rfl rfl ?_
  intro T1 h1 X1 qq1
  rw [show h1 = h0 from qq1] at X1
  refine own_istoreN X1 (pc' := 18) (Ls' := #[.val (.ref a), .val (.int i), .val (.int ed), .val (.int (own_sl [u0, u1]))]) d1_17 rfl rfl ?_
  refine own_iloadN X1 (pc' := 19) d1_18 rfl rfl ?_
  refine own_if_ne X1 (pct := 26) (pc' := 22) d1_19 rfl (by decide) (by decide) (fun hc19_2 => ?_) (fun hc19_2 => ?_)
  · refine own_iloadN X1 (pc' := 27) d1_26 rfl rfl ?_
    refine own_iloadN X1 (pc' := 28) d1_27 rfl rfl ?_
    refine own_iadd X1 (r := (i + (own_sl [u0, u1]))) (pc' := 29) d1_28 rfl rfl ?_
    subst hΦ
    exact own_retI X1 d1_29 (by decide) (by decide) (by rw [own_nv, if_neg hc19_2]) rfl
  · refine own_iconst X1 (v := (-1 : Int32)) (pc' := 23) d1_22 rfl (by decide) ?_
    refine own_goto X1 (pc' := 29) d1_23 (by decide) (by decide) ?_
    subst hΦ
    exact own_retI X1 d1_29 (by decide) (by decide) (by rw [own_nv, if_pos hc19_2]) rfl
theorem pn_rm1_3 : plainFor (⟨"com/example/vegeu/vegeu/model/Utf8IsWellFormedPinLaw", "next", "([III)I"⟩ : MethodName) = true := plainFor_of_name (by first | (simp [plainName, overriddenIn]; done) | decide +kernel)
theorem ef_rm1_3 (m : MethodId) (x0 : Addr) (x1 : Int32) (x2 : Int32) : entryFrame m #[(.ref x0), (.int x1), (.int x2)] 4 = mkF m 0 #[.val (.ref x0), .val (.int x1), .val (.int x2), .unset] [] := by first | (simp [entryFrame, mkF, argsToLocals, Value.category]; done) | rfl
set_option maxRecDepth 65536 in
set_option maxHeartbeats 4000000 in
theorem rm1_3 (l : Launch) (Z : State) (a0 : Array Value) (hw : ∀ d ∈ tables_1, d.before a0 Z = true) (n0 : Nat) (a : Addr) (i : Int32) (ed : Int32) (h0 : Heap) (hn0 : n0 ≤ h0.size) (vs : List Int32) (A : own_A Z h0 a .int vs) (u0 u1 u2 : Int32) (h1 : ¬ i < 0) (h2 : i < ed) (hm : ed - i = (3 : Int32)) (g0 : own_in i vs.length = true) (f0 : vs.getD (i).toNatClampNeg 0 = u0) (g1 : own_in (i + (1 : Int32)) vs.length = true) (f1 : vs.getD ((i + (1 : Int32))).toNatClampNeg 0 = u1) (g2 : own_in (i + (2 : Int32)) vs.length = true) (f2 : vs.getD ((i + (2 : Int32))).toNatClampNeg 0 = u2) (r0 : 0 ≤ u0.toInt ∧ u0.toInt < 256) (r1 : 0 ≤ u1.toInt ∧ u1.toInt < 256) (r2 : 0 ≤ u2.toInt ∧ u2.toInt < 256) :
    own_Met l (⟨"com/example/vegeu/vegeu/model/Utf8IsWellFormedPinLaw", "next", "([III)I"⟩ : MethodName) method_3_code 4 (some .int) ({ frames := 1, cells := 0, slots := 0, locals := 20 } : Room) Z n0 #[(.ref a), (.int i), (.int ed)] h0 (some (.int (own_nv i [u0, u1, u2]))) (fun h' => h' = h0) := by
  refine own_met pn_rm1_3 hn0 ?_
  intro p e s m below meth c T X
  refine own_cast (ef_rm1_3 m a i ed) ?_
  generalize hΦ : own_Q n0 below s _ _ _ = Φ
  refine own_iloadN X (pc' := 1) d1_0 rfl rfl ?_
  refine own_if_lt X (pct := 9) (pc' := 4) d1_1 rfl (by decide) (by decide) (fun hc => absurd hc h1) (fun _ => ?_)
  refine own_iloadN X (pc' := 5) d1_4 rfl rfl ?_
  refine own_iloadN X (pc' := 6) d1_5 rfl rfl ?_
  refine own_icmp_lt X (pct := 11) (pc' := 9) d1_6 rfl (by decide) (by decide) (fun _ => ?_) (fun hc => absurd hc (fun q => q h2))
  refine own_aloadN X (pc' := 12) d1_11 rfl rfl rfl ?_
  refine own_iloadN X (pc' := 13) d1_12 rfl rfl ?_
  refine own_iloadN X (pc' := 14) d1_13 rfl rfl ?_
  refine own_callS X (W := 0) (argsL := [(.ref a), (.int i), (.int ed)]) (rest := []) (S' := [(.int (own_sl [u0, u1, u2]))]) (pc' := 17) (rm2_3 l Z a0 hw n0 a i ed h0 X.size vs A u0 u1 u2 hm g0 f0 g1 f1 g2 f2 r0 r1 r2) (hw _ (List.mem_of_getElem? (i := 6) rfl)) (hw _ (List.mem_of_getElem? (i := 7) rfl)) (hw _ (List.mem_of_getElem? (i := 4) rfl)) (hw _ (List.mem_of_getElem? (i := 8) rfl)) (by decide) (by decide) (by decide) rfl rfl (by decide) (by decide) (lenOf pd_0 rfl) rfl (by first | decide | exact Nat.le_of_eq rfl) rfl d1_14 rfl rfl ?_
  intro T1 h1 X1 qq1
  rw [show h1 = h0 from qq1] at X1
  refine own_istoreN X1 (pc' := 18) (Ls' := #[.val (.ref a), .val (.int i), .val (.int ed), .val (.int (own_sl [u0, u1, u2]))]) d1_17 rfl rfl ?_
  refine own_iloadN X1 (pc' := 19) d1_18 rfl rfl ?_
  refine own_if_ne X1 (pct := 26) (pc' := 22) d1_19 rfl (by decide) (by decide) (fun hc19_2 => ?_) (fun hc19_2 => ?_)
  · refine own_iloadN X1 (pc' := 27) d1_26 rfl rfl ?_
    refine own_iloadN X1 (pc' := 28) d1_27 rfl rfl ?_
    refine own_iadd X1 (r := (i + (own_sl [u0, u1, u2]))) (pc' := 29) d1_28 rfl rfl ?_
    subst hΦ
    exact own_retI X1 d1_29 (by decide) (by decide) (by rw [own_nv, if_neg hc19_2]) rfl
  · refine own_iconst X1 (v := (-1 : Int32)) (pc' := 23) d1_22 rfl (by decide) ?_
    refine own_goto X1 (pc' := 29) d1_23 (by decide) (by decide) ?_
    subst hΦ
    exact own_retI X1 d1_29 (by decide) (by decide) (by rw [own_nv, if_pos hc19_2]) rfl
theorem pn_rm1_4 : plainFor (⟨"com/example/vegeu/vegeu/model/Utf8IsWellFormedPinLaw", "next", "([III)I"⟩ : MethodName) = true := plainFor_of_name (by first | (simp [plainName, overriddenIn]; done) | decide +kernel)
theorem ef_rm1_4 (m : MethodId) (x0 : Addr) (x1 : Int32) (x2 : Int32) : entryFrame m #[(.ref x0), (.int x1), (.int x2)] 4 = mkF m 0 #[.val (.ref x0), .val (.int x1), .val (.int x2), .unset] [] := by first | (simp [entryFrame, mkF, argsToLocals, Value.category]; done) | rfl
set_option maxRecDepth 65536 in
set_option maxHeartbeats 4000000 in
theorem rm1_4 (l : Launch) (Z : State) (a0 : Array Value) (hw : ∀ d ∈ tables_1, d.before a0 Z = true) (n0 : Nat) (a : Addr) (i : Int32) (ed : Int32) (h0 : Heap) (hn0 : n0 ≤ h0.size) (vs : List Int32) (A : own_A Z h0 a .int vs) (u0 u1 u2 u3 : Int32) (h1 : ¬ i < 0) (h2 : i < ed) (hm : ed - i = (4 : Int32)) (g0 : own_in i vs.length = true) (f0 : vs.getD (i).toNatClampNeg 0 = u0) (g1 : own_in (i + (1 : Int32)) vs.length = true) (f1 : vs.getD ((i + (1 : Int32))).toNatClampNeg 0 = u1) (g2 : own_in (i + (2 : Int32)) vs.length = true) (f2 : vs.getD ((i + (2 : Int32))).toNatClampNeg 0 = u2) (g3 : own_in (i + (3 : Int32)) vs.length = true) (f3 : vs.getD ((i + (3 : Int32))).toNatClampNeg 0 = u3) (r0 : 0 ≤ u0.toInt ∧ u0.toInt < 256) (r1 : 0 ≤ u1.toInt ∧ u1.toInt < 256) (r2 : 0 ≤ u2.toInt ∧ u2.toInt < 256) (r3 : 0 ≤ u3.toInt ∧ u3.toInt < 256) :
    own_Met l (⟨"com/example/vegeu/vegeu/model/Utf8IsWellFormedPinLaw", "next", "([III)I"⟩ : MethodName) method_3_code 4 (some .int) ({ frames := 1, cells := 0, slots := 0, locals := 20 } : Room) Z n0 #[(.ref a), (.int i), (.int ed)] h0 (some (.int (own_nv i [u0, u1, u2, u3]))) (fun h' => h' = h0) := by
  refine own_met pn_rm1_4 hn0 ?_
  intro p e s m below meth c T X
  refine own_cast (ef_rm1_4 m a i ed) ?_
  generalize hΦ : own_Q n0 below s _ _ _ = Φ
  refine own_iloadN X (pc' := 1) d1_0 rfl rfl ?_
  refine own_if_lt X (pct := 9) (pc' := 4) d1_1 rfl (by decide) (by decide) (fun hc => absurd hc h1) (fun _ => ?_)
  refine own_iloadN X (pc' := 5) d1_4 rfl rfl ?_
  refine own_iloadN X (pc' := 6) d1_5 rfl rfl ?_
  refine own_icmp_lt X (pct := 11) (pc' := 9) d1_6 rfl (by decide) (by decide) (fun _ => ?_) (fun hc => absurd hc (fun q => q h2))
  refine own_aloadN X (pc' := 12) d1_11 rfl rfl rfl ?_
  refine own_iloadN X (pc' := 13) d1_12 rfl rfl ?_
  refine own_iloadN X (pc' := 14) d1_13 rfl rfl ?_
  refine own_callS X (W := 0) (argsL := [(.ref a), (.int i), (.int ed)]) (rest := []) (S' := [(.int (own_sl [u0, u1, u2, u3]))]) (pc' := 17) (rm2_4 l Z a0 hw n0 a i ed h0 X.size vs A u0 u1 u2 u3 hm g0 f0 g1 f1 g2 f2 g3 f3 r0 r1 r2 r3) (hw _ (List.mem_of_getElem? (i := 6) rfl)) (hw _ (List.mem_of_getElem? (i := 7) rfl)) (hw _ (List.mem_of_getElem? (i := 4) rfl)) (hw _ (List.mem_of_getElem? (i := 8) rfl)) (by decide) (by decide) (by decide) rfl rfl (by decide) (by decide) (lenOf pd_0 rfl) rfl (by first | decide | exact Nat.le_of_eq rfl) rfl d1_14 rfl rfl ?_
  intro T1 h1 X1 qq1
  rw [show h1 = h0 from qq1] at X1
  refine own_istoreN X1 (pc' := 18) (Ls' := #[.val (.ref a), .val (.int i), .val (.int ed), .val (.int (own_sl [u0, u1, u2, u3]))]) d1_17 rfl rfl ?_
  refine own_iloadN X1 (pc' := 19) d1_18 rfl rfl ?_
  refine own_if_ne X1 (pct := 26) (pc' := 22) d1_19 rfl (by decide) (by decide) (fun hc19_2 => ?_) (fun hc19_2 => ?_)
  · refine own_iloadN X1 (pc' := 27) d1_26 rfl rfl ?_
    refine own_iloadN X1 (pc' := 28) d1_27 rfl rfl ?_
    refine own_iadd X1 (r := (i + (own_sl [u0, u1, u2, u3]))) (pc' := 29) d1_28 rfl rfl ?_
    subst hΦ
    exact own_retI X1 d1_29 (by decide) (by decide) (by rw [own_nv, if_neg hc19_2]) rfl
  · refine own_iconst X1 (v := (-1 : Int32)) (pc' := 23) d1_22 rfl (by decide) ?_
    refine own_goto X1 (pc' := 29) d1_23 (by decide) (by decide) ?_
    subst hΦ
    exact own_retI X1 d1_29 (by decide) (by decide) (by rw [own_nv, if_pos hc19_2]) rfl
theorem d3_2 : decode prog_75_method_6_code 2 = .ok (.iload_n 3, 1) := by decide +kernel
theorem d3_3 : decode prog_75_method_6_code 3 = .ok (.iload_n 2, 1) := by decide +kernel
theorem d3_4 : decode prog_75_method_6_code 4 = .ok (.if_icmp .ge 257, 3) := by decide +kernel
theorem d3_261 : decode prog_75_method_6_code 261 = .ok (.iconst 1, 1) := by decide +kernel
theorem d3_262 : decode prog_75_method_6_code 262 = .ok (.ireturn, 1) := by decide +kernel
set_option maxRecDepth 65536 in
set_option maxHeartbeats 8000000 in
theorem wf_0 (l : Launch) (Z : State) (n0 : Nat) {p : Program} {e : Env} {s : State} {m : MethodId} {args : Array Value} {below : List Frame} {meth : Method} {c : Code} {T : State} {h0 : Heap} {a : Addr} {vs : List Int32} (X : own_S Z n0 prog_75_method_6_code (⟨"com/example/vegeu/vegeu/model/Utf8", "isWellFormed", "([BII)Z"⟩ : MethodName) 10 (some .boolean) p l e ({ frames := 0, cells := 0, slots := 0, locals := 0 } : Room) s m args below meth c T 0 0 h0) (A : own_A Z h0 a .byte vs) (fr to j : Int32) (f : Nat) (s4 s5 s6 s7 s8 s9 : Slot) (hs4 : One s4) (hs5 : One s5) (hs6 : One s6) (hs7 : One s7) (hs8 : One s8) (hs9 : One s9)
    (ht : 0 ≤ j.toInt ∧ j.toInt + 0 ≤ 5 ∧ to.toInt = j.toInt + 0) (H : ∀ (t : Nat) (i : Int32), t < 0 → i.toInt = j.toInt + t → own_in i vs.length = true ∧ vs.getD i.toNatClampNeg 0 = [].getD t 0)  :
    own_G p e below (own_Q n0 below s ({ frames := 0, cells := 0, slots := 0, locals := 0 } : Room) (some (.int (own_w (f + 0) []))) (fun h' => h' = h0)) T (mkF m 2 #[.val (.ref a), .val (.int fr), .val (.int to), .val (.int j), s4, s5, s6, s7, s8, s9] []) := by
  have hto := ht
  have hmj : to - j = (0 : Int32) := by
    apply Int32.toInt_inj.mp
    have e := c_isub to j
    have r := rng32 (to - j)
    simp only [Int32.reduceToInt]
    omega
  have hge : ¬ j < to := by rw [Int32.lt_iff_toInt_lt]; omega
  generalize hΦ : own_Q n0 below s _ _ _ = Φ
  refine own_iloadN X (pc' := 3) d3_2 rfl rfl ?_
  refine own_iloadN X (pc' := 4) d3_3 rfl rfl ?_
  refine own_icmp_ge X (pct := 261) (pc' := 7) d3_4 rfl (by decide) (by decide) (fun _ => ?_) (fun hc => absurd hc hge)
  refine own_iconst X (v := (1 : Int32)) (pc' := 262) d3_261 rfl (by decide) ?_
  subst hΦ
  exact own_retZ X d3_262 (by decide) (by decide) (by decide) (by rw [own_wn]) rfl
theorem d3_7 : decode prog_75_method_6_code 7 = .ok (.aload_n 0, 1) := by decide +kernel
theorem d3_8 : decode prog_75_method_6_code 8 = .ok (.iload_n 3, 1) := by decide +kernel
theorem d3_9 : decode prog_75_method_6_code 9 = .ok (.baload, 1) := by decide +kernel
theorem d3_10 : decode prog_75_method_6_code 10 = .ok (.ifCond .lt 9, 3) := by decide +kernel
theorem d3_13 : decode prog_75_method_6_code 13 = .ok (.iinc 3 1, 3) := by decide +kernel
theorem d3_16 : decode prog_75_method_6_code 16 = .ok (.goto (-14), 3) := by decide +kernel
theorem d3_19 : decode prog_75_method_6_code 19 = .ok (.aload_n 0, 1) := by decide +kernel
theorem d3_20 : decode prog_75_method_6_code 20 = .ok (.iload_n 3, 1) := by decide +kernel
theorem d3_21 : decode prog_75_method_6_code 21 = .ok (.baload, 1) := by decide +kernel
theorem d3_22 : decode prog_75_method_6_code 22 = .ok (.sipush 255, 3) := by decide +kernel
theorem d3_25 : decode prog_75_method_6_code 25 = .ok (.iand, 1) := by decide +kernel
theorem d3_26 : decode prog_75_method_6_code 26 = .ok (.istore 4, 2) := by decide +kernel
theorem d3_28 : decode prog_75_method_6_code 28 = .ok (.sipush 128, 3) := by decide +kernel
theorem d3_31 : decode prog_75_method_6_code 31 = .ok (.istore 6, 2) := by decide +kernel
theorem d3_33 : decode prog_75_method_6_code 33 = .ok (.sipush 191, 3) := by decide +kernel
theorem d3_36 : decode prog_75_method_6_code 36 = .ok (.istore 7, 2) := by decide +kernel
theorem d3_38 : decode prog_75_method_6_code 38 = .ok (.iload 4, 2) := by decide +kernel
theorem d3_40 : decode prog_75_method_6_code 40 = .ok (.sipush 194, 3) := by decide +kernel
theorem d3_43 : decode prog_75_method_6_code 43 = .ok (.if_icmp .lt 17, 3) := by decide +kernel
theorem d3_46 : decode prog_75_method_6_code 46 = .ok (.iload 4, 2) := by decide +kernel
theorem d3_48 : decode prog_75_method_6_code 48 = .ok (.sipush 223, 3) := by decide +kernel
theorem d3_51 : decode prog_75_method_6_code 51 = .ok (.if_icmp .gt 9, 3) := by decide +kernel
theorem d3_54 : decode prog_75_method_6_code 54 = .ok (.iconst 2, 1) := by decide +kernel
theorem d3_55 : decode prog_75_method_6_code 55 = .ok (.istore 5, 2) := by decide +kernel
theorem d3_57 : decode prog_75_method_6_code 57 = .ok (.goto 125, 3) := by decide +kernel
theorem d3_60 : decode prog_75_method_6_code 60 = .ok (.iload 4, 2) := by decide +kernel
theorem d3_62 : decode prog_75_method_6_code 62 = .ok (.sipush 224, 3) := by decide +kernel
theorem d3_65 : decode prog_75_method_6_code 65 = .ok (.if_icmp .lt 55, 3) := by decide +kernel
theorem d3_68 : decode prog_75_method_6_code 68 = .ok (.iload 4, 2) := by decide +kernel
theorem d3_70 : decode prog_75_method_6_code 70 = .ok (.sipush 239, 3) := by decide +kernel
theorem d3_73 : decode prog_75_method_6_code 73 = .ok (.if_icmp .gt 47, 3) := by decide +kernel
theorem d3_76 : decode prog_75_method_6_code 76 = .ok (.iconst 3, 1) := by decide +kernel
theorem d3_77 : decode prog_75_method_6_code 77 = .ok (.istore 5, 2) := by decide +kernel
theorem d3_79 : decode prog_75_method_6_code 79 = .ok (.iload 4, 2) := by decide +kernel
theorem d3_81 : decode prog_75_method_6_code 81 = .ok (.sipush 224, 3) := by decide +kernel
theorem d3_84 : decode prog_75_method_6_code 84 = .ok (.if_icmp .ne 9, 3) := by decide +kernel
theorem d3_87 : decode prog_75_method_6_code 87 = .ok (.sipush 160, 3) := by decide +kernel
theorem d3_90 : decode prog_75_method_6_code 90 = .ok (.goto 6, 3) := by decide +kernel
theorem d3_93 : decode prog_75_method_6_code 93 = .ok (.sipush 128, 3) := by decide +kernel
theorem d3_96 : decode prog_75_method_6_code 96 = .ok (.istore 6, 2) := by decide +kernel
theorem d3_98 : decode prog_75_method_6_code 98 = .ok (.iload 4, 2) := by decide +kernel
theorem d3_100 : decode prog_75_method_6_code 100 = .ok (.sipush 237, 3) := by decide +kernel
theorem d3_103 : decode prog_75_method_6_code 103 = .ok (.if_icmp .ne 9, 3) := by decide +kernel
theorem d3_106 : decode prog_75_method_6_code 106 = .ok (.sipush 159, 3) := by decide +kernel
theorem d3_109 : decode prog_75_method_6_code 109 = .ok (.goto 6, 3) := by decide +kernel
theorem d3_112 : decode prog_75_method_6_code 112 = .ok (.sipush 191, 3) := by decide +kernel
theorem d3_115 : decode prog_75_method_6_code 115 = .ok (.istore 7, 2) := by decide +kernel
theorem d3_117 : decode prog_75_method_6_code 117 = .ok (.goto 65, 3) := by decide +kernel
theorem d3_120 : decode prog_75_method_6_code 120 = .ok (.iload 4, 2) := by decide +kernel
theorem d3_122 : decode prog_75_method_6_code 122 = .ok (.sipush 240, 3) := by decide +kernel
theorem d3_125 : decode prog_75_method_6_code 125 = .ok (.if_icmp .lt 55, 3) := by decide +kernel
theorem d3_128 : decode prog_75_method_6_code 128 = .ok (.iload 4, 2) := by decide +kernel
theorem d3_130 : decode prog_75_method_6_code 130 = .ok (.sipush 244, 3) := by decide +kernel
theorem d3_133 : decode prog_75_method_6_code 133 = .ok (.if_icmp .gt 47, 3) := by decide +kernel
theorem d3_136 : decode prog_75_method_6_code 136 = .ok (.iconst 4, 1) := by decide +kernel
theorem d3_137 : decode prog_75_method_6_code 137 = .ok (.istore 5, 2) := by decide +kernel
theorem d3_139 : decode prog_75_method_6_code 139 = .ok (.iload 4, 2) := by decide +kernel
theorem d3_141 : decode prog_75_method_6_code 141 = .ok (.sipush 240, 3) := by decide +kernel
theorem d3_144 : decode prog_75_method_6_code 144 = .ok (.if_icmp .ne 9, 3) := by decide +kernel
theorem d3_147 : decode prog_75_method_6_code 147 = .ok (.sipush 144, 3) := by decide +kernel
theorem d3_150 : decode prog_75_method_6_code 150 = .ok (.goto 6, 3) := by decide +kernel
theorem d3_153 : decode prog_75_method_6_code 153 = .ok (.sipush 128, 3) := by decide +kernel
theorem d3_156 : decode prog_75_method_6_code 156 = .ok (.istore 6, 2) := by decide +kernel
theorem d3_158 : decode prog_75_method_6_code 158 = .ok (.iload 4, 2) := by decide +kernel
theorem d3_160 : decode prog_75_method_6_code 160 = .ok (.sipush 244, 3) := by decide +kernel
theorem d3_163 : decode prog_75_method_6_code 163 = .ok (.if_icmp .ne 9, 3) := by decide +kernel
theorem d3_166 : decode prog_75_method_6_code 166 = .ok (.sipush 143, 3) := by decide +kernel
theorem d3_169 : decode prog_75_method_6_code 169 = .ok (.goto 6, 3) := by decide +kernel
theorem d3_172 : decode prog_75_method_6_code 172 = .ok (.sipush 191, 3) := by decide +kernel
theorem d3_175 : decode prog_75_method_6_code 175 = .ok (.istore 7, 2) := by decide +kernel
theorem d3_177 : decode prog_75_method_6_code 177 = .ok (.goto 5, 3) := by decide +kernel
theorem d3_180 : decode prog_75_method_6_code 180 = .ok (.iconst 0, 1) := by decide +kernel
theorem d3_181 : decode prog_75_method_6_code 181 = .ok (.ireturn, 1) := by decide +kernel
theorem d3_182 : decode prog_75_method_6_code 182 = .ok (.iload_n 2, 1) := by decide +kernel
theorem d3_183 : decode prog_75_method_6_code 183 = .ok (.iload_n 3, 1) := by decide +kernel
theorem d3_184 : decode prog_75_method_6_code 184 = .ok (.isub, 1) := by decide +kernel
theorem d3_185 : decode prog_75_method_6_code 185 = .ok (.iload 5, 2) := by decide +kernel
theorem d3_187 : decode prog_75_method_6_code 187 = .ok (.if_icmp .ge 5, 3) := by decide +kernel
theorem d3_190 : decode prog_75_method_6_code 190 = .ok (.iconst 0, 1) := by decide +kernel
theorem d3_191 : decode prog_75_method_6_code 191 = .ok (.ireturn, 1) := by decide +kernel
set_option maxRecDepth 65536 in
set_option maxHeartbeats 8000000 in
theorem wf_1 (l : Launch) (Z : State) (n0 : Nat) {p : Program} {e : Env} {s : State} {m : MethodId} {args : Array Value} {below : List Frame} {meth : Method} {c : Code} {T : State} {h0 : Heap} {a : Addr} {vs : List Int32} (X : own_S Z n0 prog_75_method_6_code (⟨"com/example/vegeu/vegeu/model/Utf8", "isWellFormed", "([BII)Z"⟩ : MethodName) 10 (some .boolean) p l e ({ frames := 0, cells := 0, slots := 0, locals := 0 } : Room) s m args below meth c T 0 0 h0) (A : own_A Z h0 a .byte vs) (fr to j : Int32) (c0 : Int32) (f : Nat) (s4 s5 s6 s7 s8 s9 : Slot) (hs4 : One s4) (hs5 : One s5) (hs6 : One s6) (hs7 : One s7) (hs8 : One s8) (hs9 : One s9)
    (ht : 0 ≤ j.toInt ∧ j.toInt + 1 ≤ 5 ∧ to.toInt = j.toInt + 1) (H : ∀ (t : Nat) (i : Int32), t < 1 → i.toInt = j.toInt + t → own_in i vs.length = true ∧ vs.getD i.toNatClampNeg 0 = [c0].getD t 0) (b0 : -128 ≤ c0.toInt ∧ c0.toInt < 128) :
    own_G p e below (own_Q n0 below s ({ frames := 0, cells := 0, slots := 0, locals := 0 } : Room) (some (.int (own_w (f + 1) [(c0 &&& (255 : Int32))]))) (fun h' => h' = h0)) T (mkF m 2 #[.val (.ref a), .val (.int fr), .val (.int to), .val (.int j), s4, s5, s6, s7, s8, s9] []) := by
  have hto := ht
  have hmj : to - j = (1 : Int32) := by
    apply Int32.toInt_inj.mp
    have e := c_isub to j
    have r := rng32 (to - j)
    simp only [Int32.reduceToInt]
    omega
  have hlt : j < to := by rw [Int32.lt_iff_toInt_lt]; omega
  have G0 := H 0 j (by decide) (by omega)
  have m0 := c_mask c0 255 8 (by decide) (by decide)
  have k0 := own_c192 c0 b0
  generalize hΦ : own_Q n0 below s _ _ _ = Φ
  refine own_iloadN X (pc' := 3) d3_2 rfl rfl ?_
  refine own_iloadN X (pc' := 4) d3_3 rfl rfl ?_
  refine own_icmp_ge X (pct := 261) (pc' := 7) d3_4 rfl (by decide) (by decide) (fun hc => absurd hc (fun q => q hlt)) (fun _ => ?_)
  refine own_aloadN X (pc' := 8) d3_7 rfl rfl rfl ?_
  refine own_iloadN X (pc' := 9) d3_8 rfl rfl ?_
  refine own_baload X (v := c0) (pc' := 10) A G0.1 G0.2 d3_9 rfl ?_
  refine own_if_lt X (pct := 19) (pc' := 13) d3_10 rfl (by decide) (by decide) (fun hc10_1 => ?_) (fun hc10_1 => ?_)
  · refine own_aloadN X (pc' := 20) d3_19 rfl rfl rfl ?_
    refine own_iloadN X (pc' := 21) d3_20 rfl rfl ?_
    refine own_baload X (v := c0) (pc' := 22) A G0.1 G0.2 d3_21 rfl ?_
    refine own_sipush X (v := (255 : Int32)) (pc' := 25) d3_22 rfl (by decide) ?_
    refine own_iand X (r := (c0 &&& (255 : Int32))) (pc' := 26) d3_25 rfl rfl ?_
    refine own_istore X (pc' := 28) (Ls' := #[.val (.ref a), .val (.int fr), .val (.int to), .val (.int j), .val (.int (c0 &&& (255 : Int32))), s5, s6, s7, s8, s9]) d3_26 rfl (XS.store1 (o := s4) rfl hs4 rfl) ?_
    refine own_sipush X (v := (128 : Int32)) (pc' := 31) d3_28 rfl (by decide) ?_
    refine own_istore X (pc' := 33) (Ls' := #[.val (.ref a), .val (.int fr), .val (.int to), .val (.int j), .val (.int (c0 &&& (255 : Int32))), s5, .val (.int (128 : Int32)), s7, s8, s9]) d3_31 rfl (XS.store1 (o := s6) rfl hs6 rfl) ?_
    refine own_sipush X (v := (191 : Int32)) (pc' := 36) d3_33 rfl (by decide) ?_
    refine own_istore X (pc' := 38) (Ls' := #[.val (.ref a), .val (.int fr), .val (.int to), .val (.int j), .val (.int (c0 &&& (255 : Int32))), s5, .val (.int (128 : Int32)), .val (.int (191 : Int32)), s8, s9]) d3_36 rfl (XS.store1 (o := s7) rfl hs7 rfl) ?_
    refine own_iload X (pc' := 40) d3_38 rfl rfl ?_
    refine own_sipush X (v := (194 : Int32)) (pc' := 43) d3_40 rfl (by decide) ?_
    refine own_icmp_lt X (pct := 60) (pc' := 46) d3_43 rfl (by decide) (by decide) (fun hc43_2 => ?_) (fun hc43_2 => ?_)
    · refine own_iload X (pc' := 62) d3_60 rfl rfl ?_
      refine own_sipush X (v := (224 : Int32)) (pc' := 65) d3_62 rfl (by decide) ?_
      refine own_icmp_lt X (pct := 120) (pc' := 68) d3_65 rfl (by decide) (by decide) (fun _ => ?_) (fun hc => absurd hc (by simp only [Int32.lt_iff_toInt_lt, ← Int32.toInt_inj, Int32.reduceToInt] at hc43_2 ⊢; omega))
      refine own_iload X (pc' := 122) d3_120 rfl rfl ?_
      refine own_sipush X (v := (240 : Int32)) (pc' := 125) d3_122 rfl (by decide) ?_
      refine own_icmp_lt X (pct := 180) (pc' := 128) d3_125 rfl (by decide) (by decide) (fun _ => ?_) (fun hc => absurd hc (by simp only [Int32.lt_iff_toInt_lt, ← Int32.toInt_inj, Int32.reduceToInt] at hc43_2 ⊢; omega))
      refine own_iconst X (v := (0 : Int32)) (pc' := 181) d3_180 rfl (by decide) ?_
      subst hΦ
      refine own_retZ X d3_181 (by decide) (by decide) (by decide) ?_ rfl
      have q : own_sl [(c0 &&& (255 : Int32))] = 0 := by
        rw [Int32.lt_iff_toInt_lt] at hc10_1
        rw [Int32.lt_iff_toInt_lt] at hc43_2
        simp only [Int32.reduceToInt] at hc10_1 hc43_2
        show own_g 1 (c0 &&& (255 : Int32)) 0 0 0 = 0
        unfold own_g
        repeat' split
        all_goals first | rfl | omega
      rw [own_w0 q]
    · refine own_iload X (pc' := 48) d3_46 rfl rfl ?_
      refine own_sipush X (v := (223 : Int32)) (pc' := 51) d3_48 rfl (by decide) ?_
      refine own_icmp_gt X (pct := 60) (pc' := 54) d3_51 rfl (by decide) (by decide) (fun hc51_3 => ?_) (fun hc51_3 => ?_)
      · refine own_iload X (pc' := 62) d3_60 rfl rfl ?_
        refine own_sipush X (v := (224 : Int32)) (pc' := 65) d3_62 rfl (by decide) ?_
        refine own_icmp_lt X (pct := 120) (pc' := 68) d3_65 rfl (by decide) (by decide) (fun hc => absurd hc (by simp only [Int32.lt_iff_toInt_lt, ← Int32.toInt_inj, Int32.reduceToInt] at hc43_2 hc51_3 ⊢; omega)) (fun _ => ?_)
        refine own_iload X (pc' := 70) d3_68 rfl rfl ?_
        refine own_sipush X (v := (239 : Int32)) (pc' := 73) d3_70 rfl (by decide) ?_
        refine own_icmp_gt X (pct := 120) (pc' := 76) d3_73 rfl (by decide) (by decide) (fun hc73_4 => ?_) (fun hc73_4 => ?_)
        · refine own_iload X (pc' := 122) d3_120 rfl rfl ?_
          refine own_sipush X (v := (240 : Int32)) (pc' := 125) d3_122 rfl (by decide) ?_
          refine own_icmp_lt X (pct := 180) (pc' := 128) d3_125 rfl (by decide) (by decide) (fun hc => absurd hc (by simp only [Int32.lt_iff_toInt_lt, ← Int32.toInt_inj, Int32.reduceToInt] at hc43_2 hc51_3 hc73_4 ⊢; omega)) (fun _ => ?_)
          refine own_iload X (pc' := 130) d3_128 rfl rfl ?_
          refine own_sipush X (v := (244 : Int32)) (pc' := 133) d3_130 rfl (by decide) ?_
          refine own_icmp_gt X (pct := 180) (pc' := 136) d3_133 rfl (by decide) (by decide) (fun hc133_5 => ?_) (fun hc133_5 => ?_)
          · refine own_iconst X (v := (0 : Int32)) (pc' := 181) d3_180 rfl (by decide) ?_
            subst hΦ
            refine own_retZ X d3_181 (by decide) (by decide) (by decide) ?_ rfl
            have q : own_sl [(c0 &&& (255 : Int32))] = 0 := by
              rw [Int32.lt_iff_toInt_lt] at hc10_1
              rw [Int32.lt_iff_toInt_lt] at hc43_2
              rw [Int32.lt_iff_toInt_lt] at hc51_3
              rw [Int32.lt_iff_toInt_lt] at hc73_4
              rw [Int32.lt_iff_toInt_lt] at hc133_5
              simp only [Int32.reduceToInt] at hc10_1 hc43_2 hc51_3 hc73_4 hc133_5
              show own_g 1 (c0 &&& (255 : Int32)) 0 0 0 = 0
              unfold own_g
              repeat' split
              all_goals first | rfl | omega
            rw [own_w0 q]
          · refine own_iconst X (v := (4 : Int32)) (pc' := 137) d3_136 rfl (by decide) ?_
            refine own_istore X (pc' := 139) (Ls' := #[.val (.ref a), .val (.int fr), .val (.int to), .val (.int j), .val (.int (c0 &&& (255 : Int32))), .val (.int (4 : Int32)), .val (.int (128 : Int32)), .val (.int (191 : Int32)), s8, s9]) d3_137 rfl (XS.store1 (o := s5) rfl hs5 rfl) ?_
            refine own_iload X (pc' := 141) d3_139 rfl rfl ?_
            refine own_sipush X (v := (240 : Int32)) (pc' := 144) d3_141 rfl (by decide) ?_
            refine own_icmp_ne X (pct := 153) (pc' := 147) d3_144 rfl (by decide) (by decide) (fun hc144_6 => ?_) (fun hc144_6 => ?_)
            · refine own_sipush X (v := (128 : Int32)) (pc' := 156) d3_153 rfl (by decide) ?_
              refine own_istore X (pc' := 158) (Ls' := #[.val (.ref a), .val (.int fr), .val (.int to), .val (.int j), .val (.int (c0 &&& (255 : Int32))), .val (.int (4 : Int32)), .val (.int (128 : Int32)), .val (.int (191 : Int32)), s8, s9]) d3_156 rfl rfl ?_
              refine own_iload X (pc' := 160) d3_158 rfl rfl ?_
              refine own_sipush X (v := (244 : Int32)) (pc' := 163) d3_160 rfl (by decide) ?_
              refine own_icmp_ne X (pct := 172) (pc' := 166) d3_163 rfl (by decide) (by decide) (fun hc163_7 => ?_) (fun hc163_7 => ?_)
              · refine own_sipush X (v := (191 : Int32)) (pc' := 175) d3_172 rfl (by decide) ?_
                refine own_istore X (pc' := 177) (Ls' := #[.val (.ref a), .val (.int fr), .val (.int to), .val (.int j), .val (.int (c0 &&& (255 : Int32))), .val (.int (4 : Int32)), .val (.int (128 : Int32)), .val (.int (191 : Int32)), s8, s9]) d3_175 rfl rfl ?_
                refine own_goto X (pc' := 182) d3_177 (by decide) (by decide) ?_
                refine own_iloadN X (pc' := 183) d3_182 rfl rfl ?_
                refine own_iloadN X (pc' := 184) d3_183 rfl rfl ?_
                refine own_isub X (r := (to - j)) (pc' := 185) d3_184 rfl rfl ?_
                rw [hmj]
                refine own_iload X (pc' := 187) d3_185 rfl rfl ?_
                refine own_icmp_ge X (pct := 192) (pc' := 190) d3_187 rfl (by decide) (by decide) (fun hc => absurd hc (by decide)) (fun _ => ?_)
                refine own_iconst X (v := (0 : Int32)) (pc' := 191) d3_190 rfl (by decide) ?_
                subst hΦ
                refine own_retZ X d3_191 (by decide) (by decide) (by decide) ?_ rfl
                have q : own_sl [(c0 &&& (255 : Int32))] = 0 := by
                  rw [Int32.lt_iff_toInt_lt] at hc10_1
                  rw [Int32.lt_iff_toInt_lt] at hc43_2
                  rw [Int32.lt_iff_toInt_lt] at hc51_3
                  rw [Int32.lt_iff_toInt_lt] at hc73_4
                  rw [Int32.lt_iff_toInt_lt] at hc133_5
                  rw [← Int32.toInt_inj] at hc144_6
                  rw [← Int32.toInt_inj] at hc163_7
                  simp only [Int32.reduceToInt] at hc10_1 hc43_2 hc51_3 hc73_4 hc133_5 hc144_6 hc163_7
                  show own_g 1 (c0 &&& (255 : Int32)) 0 0 0 = 0
                  unfold own_g
                  repeat' split
                  all_goals first | rfl | omega
                rw [own_w0 q]
              · refine own_sipush X (v := (143 : Int32)) (pc' := 169) d3_166 rfl (by decide) ?_
                refine own_goto X (pc' := 175) d3_169 (by decide) (by decide) ?_
                refine own_istore X (pc' := 177) (Ls' := #[.val (.ref a), .val (.int fr), .val (.int to), .val (.int j), .val (.int (c0 &&& (255 : Int32))), .val (.int (4 : Int32)), .val (.int (128 : Int32)), .val (.int (143 : Int32)), s8, s9]) d3_175 rfl rfl ?_
                refine own_goto X (pc' := 182) d3_177 (by decide) (by decide) ?_
                refine own_iloadN X (pc' := 183) d3_182 rfl rfl ?_
                refine own_iloadN X (pc' := 184) d3_183 rfl rfl ?_
                refine own_isub X (r := (to - j)) (pc' := 185) d3_184 rfl rfl ?_
                rw [hmj]
                refine own_iload X (pc' := 187) d3_185 rfl rfl ?_
                refine own_icmp_ge X (pct := 192) (pc' := 190) d3_187 rfl (by decide) (by decide) (fun hc => absurd hc (by decide)) (fun _ => ?_)
                refine own_iconst X (v := (0 : Int32)) (pc' := 191) d3_190 rfl (by decide) ?_
                subst hΦ
                refine own_retZ X d3_191 (by decide) (by decide) (by decide) ?_ rfl
                have q : own_sl [(c0 &&& (255 : Int32))] = 0 := by
                  rw [Int32.lt_iff_toInt_lt] at hc10_1
                  rw [Int32.lt_iff_toInt_lt] at hc43_2
                  rw [Int32.lt_iff_toInt_lt] at hc51_3
                  rw [Int32.lt_iff_toInt_lt] at hc73_4
                  rw [Int32.lt_iff_toInt_lt] at hc133_5
                  rw [← Int32.toInt_inj] at hc144_6
                  rw [← Int32.toInt_inj] at hc163_7
                  simp only [Int32.reduceToInt] at hc10_1 hc43_2 hc51_3 hc73_4 hc133_5 hc144_6 hc163_7
                  show own_g 1 (c0 &&& (255 : Int32)) 0 0 0 = 0
                  unfold own_g
                  repeat' split
                  all_goals first | rfl | omega
                rw [own_w0 q]
            · refine own_sipush X (v := (144 : Int32)) (pc' := 150) d3_147 rfl (by decide) ?_
              refine own_goto X (pc' := 156) d3_150 (by decide) (by decide) ?_
              refine own_istore X (pc' := 158) (Ls' := #[.val (.ref a), .val (.int fr), .val (.int to), .val (.int j), .val (.int (c0 &&& (255 : Int32))), .val (.int (4 : Int32)), .val (.int (144 : Int32)), .val (.int (191 : Int32)), s8, s9]) d3_156 rfl rfl ?_
              refine own_iload X (pc' := 160) d3_158 rfl rfl ?_
              refine own_sipush X (v := (244 : Int32)) (pc' := 163) d3_160 rfl (by decide) ?_
              refine own_icmp_ne X (pct := 172) (pc' := 166) d3_163 rfl (by decide) (by decide) (fun _ => ?_) (fun hc => absurd hc (by simp only [Int32.lt_iff_toInt_lt, ← Int32.toInt_inj, Int32.reduceToInt] at hc43_2 hc51_3 hc73_4 hc133_5 hc144_6 ⊢; omega))
              refine own_sipush X (v := (191 : Int32)) (pc' := 175) d3_172 rfl (by decide) ?_
              refine own_istore X (pc' := 177) (Ls' := #[.val (.ref a), .val (.int fr), .val (.int to), .val (.int j), .val (.int (c0 &&& (255 : Int32))), .val (.int (4 : Int32)), .val (.int (144 : Int32)), .val (.int (191 : Int32)), s8, s9]) d3_175 rfl rfl ?_
              refine own_goto X (pc' := 182) d3_177 (by decide) (by decide) ?_
              refine own_iloadN X (pc' := 183) d3_182 rfl rfl ?_
              refine own_iloadN X (pc' := 184) d3_183 rfl rfl ?_
              refine own_isub X (r := (to - j)) (pc' := 185) d3_184 rfl rfl ?_
              rw [hmj]
              refine own_iload X (pc' := 187) d3_185 rfl rfl ?_
              refine own_icmp_ge X (pct := 192) (pc' := 190) d3_187 rfl (by decide) (by decide) (fun hc => absurd hc (by decide)) (fun _ => ?_)
              refine own_iconst X (v := (0 : Int32)) (pc' := 191) d3_190 rfl (by decide) ?_
              subst hΦ
              refine own_retZ X d3_191 (by decide) (by decide) (by decide) ?_ rfl
              have q : own_sl [(c0 &&& (255 : Int32))] = 0 := by
                rw [Int32.lt_iff_toInt_lt] at hc10_1
                rw [Int32.lt_iff_toInt_lt] at hc43_2
                rw [Int32.lt_iff_toInt_lt] at hc51_3
                rw [Int32.lt_iff_toInt_lt] at hc73_4
                rw [Int32.lt_iff_toInt_lt] at hc133_5
                rw [← Int32.toInt_inj] at hc144_6
                simp only [Int32.reduceToInt] at hc10_1 hc43_2 hc51_3 hc73_4 hc133_5 hc144_6
                show own_g 1 (c0 &&& (255 : Int32)) 0 0 0 = 0
                unfold own_g
                repeat' split
                all_goals first | rfl | omega
              rw [own_w0 q]
        · refine own_iconst X (v := (3 : Int32)) (pc' := 77) d3_76 rfl (by decide) ?_
          refine own_istore X (pc' := 79) (Ls' := #[.val (.ref a), .val (.int fr), .val (.int to), .val (.int j), .val (.int (c0 &&& (255 : Int32))), .val (.int (3 : Int32)), .val (.int (128 : Int32)), .val (.int (191 : Int32)), s8, s9]) d3_77 rfl (XS.store1 (o := s5) rfl hs5 rfl) ?_
          refine own_iload X (pc' := 81) d3_79 rfl rfl ?_
          refine own_sipush X (v := (224 : Int32)) (pc' := 84) d3_81 rfl (by decide) ?_
          refine own_icmp_ne X (pct := 93) (pc' := 87) d3_84 rfl (by decide) (by decide) (fun hc84_8 => ?_) (fun hc84_8 => ?_)
          · refine own_sipush X (v := (128 : Int32)) (pc' := 96) d3_93 rfl (by decide) ?_
            refine own_istore X (pc' := 98) (Ls' := #[.val (.ref a), .val (.int fr), .val (.int to), .val (.int j), .val (.int (c0 &&& (255 : Int32))), .val (.int (3 : Int32)), .val (.int (128 : Int32)), .val (.int (191 : Int32)), s8, s9]) d3_96 rfl rfl ?_
            refine own_iload X (pc' := 100) d3_98 rfl rfl ?_
            refine own_sipush X (v := (237 : Int32)) (pc' := 103) d3_100 rfl (by decide) ?_
            refine own_icmp_ne X (pct := 112) (pc' := 106) d3_103 rfl (by decide) (by decide) (fun hc103_9 => ?_) (fun hc103_9 => ?_)
            · refine own_sipush X (v := (191 : Int32)) (pc' := 115) d3_112 rfl (by decide) ?_
              refine own_istore X (pc' := 117) (Ls' := #[.val (.ref a), .val (.int fr), .val (.int to), .val (.int j), .val (.int (c0 &&& (255 : Int32))), .val (.int (3 : Int32)), .val (.int (128 : Int32)), .val (.int (191 : Int32)), s8, s9]) d3_115 rfl rfl ?_
              refine own_goto X (pc' := 182) d3_117 (by decide) (by decide) ?_
              refine own_iloadN X (pc' := 183) d3_182 rfl rfl ?_
              refine own_iloadN X (pc' := 184) d3_183 rfl rfl ?_
              refine own_isub X (r := (to - j)) (pc' := 185) d3_184 rfl rfl ?_
              rw [hmj]
              refine own_iload X (pc' := 187) d3_185 rfl rfl ?_
              refine own_icmp_ge X (pct := 192) (pc' := 190) d3_187 rfl (by decide) (by decide) (fun hc => absurd hc (by decide)) (fun _ => ?_)
              refine own_iconst X (v := (0 : Int32)) (pc' := 191) d3_190 rfl (by decide) ?_
              subst hΦ
              refine own_retZ X d3_191 (by decide) (by decide) (by decide) ?_ rfl
              have q : own_sl [(c0 &&& (255 : Int32))] = 0 := by
                rw [Int32.lt_iff_toInt_lt] at hc10_1
                rw [Int32.lt_iff_toInt_lt] at hc43_2
                rw [Int32.lt_iff_toInt_lt] at hc51_3
                rw [Int32.lt_iff_toInt_lt] at hc73_4
                rw [← Int32.toInt_inj] at hc84_8
                rw [← Int32.toInt_inj] at hc103_9
                simp only [Int32.reduceToInt] at hc10_1 hc43_2 hc51_3 hc73_4 hc84_8 hc103_9
                show own_g 1 (c0 &&& (255 : Int32)) 0 0 0 = 0
                unfold own_g
                repeat' split
                all_goals first | rfl | omega
              rw [own_w0 q]
            · refine own_sipush X (v := (159 : Int32)) (pc' := 109) d3_106 rfl (by decide) ?_
              refine own_goto X (pc' := 115) d3_109 (by decide) (by decide) ?_
              refine own_istore X (pc' := 117) (Ls' := #[.val (.ref a), .val (.int fr), .val (.int to), .val (.int j), .val (.int (c0 &&& (255 : Int32))), .val (.int (3 : Int32)), .val (.int (128 : Int32)), .val (.int (159 : Int32)), s8, s9]) d3_115 rfl rfl ?_
              refine own_goto X (pc' := 182) d3_117 (by decide) (by decide) ?_
              refine own_iloadN X (pc' := 183) d3_182 rfl rfl ?_
              refine own_iloadN X (pc' := 184) d3_183 rfl rfl ?_
              refine own_isub X (r := (to - j)) (pc' := 185) d3_184 rfl rfl ?_
              rw [hmj]
              refine own_iload X (pc' := 187) d3_185 rfl rfl ?_
              refine own_icmp_ge X (pct := 192) (pc' := 190) d3_187 rfl (by decide) (by decide) (fun hc => absurd hc (by decide)) (fun _ => ?_)
              refine own_iconst X (v := (0 : Int32)) (pc' := 191) d3_190 rfl (by decide) ?_
              subst hΦ
              refine own_retZ X d3_191 (by decide) (by decide) (by decide) ?_ rfl
              have q : own_sl [(c0 &&& (255 : Int32))] = 0 := by
                rw [Int32.lt_iff_toInt_lt] at hc10_1
                rw [Int32.lt_iff_toInt_lt] at hc43_2
                rw [Int32.lt_iff_toInt_lt] at hc51_3
                rw [Int32.lt_iff_toInt_lt] at hc73_4
                rw [← Int32.toInt_inj] at hc84_8
                rw [← Int32.toInt_inj] at hc103_9
                simp only [Int32.reduceToInt] at hc10_1 hc43_2 hc51_3 hc73_4 hc84_8 hc103_9
                show own_g 1 (c0 &&& (255 : Int32)) 0 0 0 = 0
                unfold own_g
                repeat' split
                all_goals first | rfl | omega
              rw [own_w0 q]
          · refine own_sipush X (v := (160 : Int32)) (pc' := 90) d3_87 rfl (by decide) ?_
            refine own_goto X (pc' := 96) d3_90 (by decide) (by decide) ?_
            refine own_istore X (pc' := 98) (Ls' := #[.val (.ref a), .val (.int fr), .val (.int to), .val (.int j), .val (.int (c0 &&& (255 : Int32))), .val (.int (3 : Int32)), .val (.int (160 : Int32)), .val (.int (191 : Int32)), s8, s9]) d3_96 rfl rfl ?_
            refine own_iload X (pc' := 100) d3_98 rfl rfl ?_
            refine own_sipush X (v := (237 : Int32)) (pc' := 103) d3_100 rfl (by decide) ?_
            refine own_icmp_ne X (pct := 112) (pc' := 106) d3_103 rfl (by decide) (by decide) (fun _ => ?_) (fun hc => absurd hc (by simp only [Int32.lt_iff_toInt_lt, ← Int32.toInt_inj, Int32.reduceToInt] at hc43_2 hc51_3 hc73_4 hc84_8 ⊢; omega))
            refine own_sipush X (v := (191 : Int32)) (pc' := 115) d3_112 rfl (by decide) ?_
            refine own_istore X (pc' := 117) (Ls' := #[.val (.ref a), .val (.int fr), .val (.int to), .val (.int j), .val (.int (c0 &&& (255 : Int32))), .val (.int (3 : Int32)), .val (.int (160 : Int32)), .val (.int (191 : Int32)), s8, s9]) d3_115 rfl rfl ?_
            refine own_goto X (pc' := 182) d3_117 (by decide) (by decide) ?_
            refine own_iloadN X (pc' := 183) d3_182 rfl rfl ?_
            refine own_iloadN X (pc' := 184) d3_183 rfl rfl ?_
            refine own_isub X (r := (to - j)) (pc' := 185) d3_184 rfl rfl ?_
            rw [hmj]
            refine own_iload X (pc' := 187) d3_185 rfl rfl ?_
            refine own_icmp_ge X (pct := 192) (pc' := 190) d3_187 rfl (by decide) (by decide) (fun hc => absurd hc (by decide)) (fun _ => ?_)
            refine own_iconst X (v := (0 : Int32)) (pc' := 191) d3_190 rfl (by decide) ?_
            subst hΦ
            refine own_retZ X d3_191 (by decide) (by decide) (by decide) ?_ rfl
            have q : own_sl [(c0 &&& (255 : Int32))] = 0 := by
              rw [Int32.lt_iff_toInt_lt] at hc10_1
              rw [Int32.lt_iff_toInt_lt] at hc43_2
              rw [Int32.lt_iff_toInt_lt] at hc51_3
              rw [Int32.lt_iff_toInt_lt] at hc73_4
              rw [← Int32.toInt_inj] at hc84_8
              simp only [Int32.reduceToInt] at hc10_1 hc43_2 hc51_3 hc73_4 hc84_8
              show own_g 1 (c0 &&& (255 : Int32)) 0 0 0 = 0
              unfold own_g
              repeat' split
              all_goals first | rfl | omega
            rw [own_w0 q]
      · refine own_iconst X (v := (2 : Int32)) (pc' := 55) d3_54 rfl (by decide) ?_
        refine own_istore X (pc' := 57) (Ls' := #[.val (.ref a), .val (.int fr), .val (.int to), .val (.int j), .val (.int (c0 &&& (255 : Int32))), .val (.int (2 : Int32)), .val (.int (128 : Int32)), .val (.int (191 : Int32)), s8, s9]) d3_55 rfl (XS.store1 (o := s5) rfl hs5 rfl) ?_
        refine own_goto X (pc' := 182) d3_57 (by decide) (by decide) ?_
        refine own_iloadN X (pc' := 183) d3_182 rfl rfl ?_
        refine own_iloadN X (pc' := 184) d3_183 rfl rfl ?_
        refine own_isub X (r := (to - j)) (pc' := 185) d3_184 rfl rfl ?_
        rw [hmj]
        refine own_iload X (pc' := 187) d3_185 rfl rfl ?_
        refine own_icmp_ge X (pct := 192) (pc' := 190) d3_187 rfl (by decide) (by decide) (fun hc => absurd hc (by decide)) (fun _ => ?_)
        refine own_iconst X (v := (0 : Int32)) (pc' := 191) d3_190 rfl (by decide) ?_
        subst hΦ
        refine own_retZ X d3_191 (by decide) (by decide) (by decide) ?_ rfl
        have q : own_sl [(c0 &&& (255 : Int32))] = 0 := by
          rw [Int32.lt_iff_toInt_lt] at hc10_1
          rw [Int32.lt_iff_toInt_lt] at hc43_2
          rw [Int32.lt_iff_toInt_lt] at hc51_3
          simp only [Int32.reduceToInt] at hc10_1 hc43_2 hc51_3
          show own_g 1 (c0 &&& (255 : Int32)) 0 0 0 = 0
          unfold own_g
          repeat' split
          all_goals first | rfl | omega
        rw [own_w0 q]
  · refine own_iinc X (pc' := 16) (Ls' := #[.val (.ref a), .val (.int fr), .val (.int to), .val (.int (j + (1 : Int32))), s4, s5, s6, s7, s8, s9]) (w := (j + (1 : Int32))) d3_13 rfl rfl rfl rfl ?_
    refine own_goto X (pc' := 2) d3_16 (by decide) (by decide) ?_
    have q : own_sl [(c0 &&& (255 : Int32))] = 1 := by
      rw [Int32.lt_iff_toInt_lt] at hc10_1
      simp only [Int32.reduceToInt] at hc10_1
      show own_g 1 (c0 &&& (255 : Int32)) 0 0 0 = 1
      unfold own_g
      repeat' split
      all_goals first | rfl | omega
    subst hΦ
    rw [show own_w (f + 1) [(c0 &&& (255 : Int32))] = own_w (f + 0 + 0) [] from own_wc q (by decide) rfl]
    exact wf_0 l Z n0 X A fr to (j + (1 : Int32))  (f + 0) (s4) (s5) (s6) (s7) (s8) (s9) hs4 hs5 hs6 hs7 hs8 hs9 (by rw [own_ad j 1 (by omega) (by decide)]; simp only [Int32.reduceToInt]; omega) (fun t i ht hi => by rw [own_ad j 1 (by omega) (by decide)] at hi; simp only [Int32.reduceToInt] at hi; exact H (t + 1) i (by omega) (by omega)) 
theorem d3_192 : decode prog_75_method_6_code 192 = .ok (.aload_n 0, 1) := by decide +kernel
theorem d3_193 : decode prog_75_method_6_code 193 = .ok (.iload_n 3, 1) := by decide +kernel
theorem d3_194 : decode prog_75_method_6_code 194 = .ok (.iconst 1, 1) := by decide +kernel
theorem d3_195 : decode prog_75_method_6_code 195 = .ok (.iadd, 1) := by decide +kernel
theorem d3_196 : decode prog_75_method_6_code 196 = .ok (.baload, 1) := by decide +kernel
theorem d3_197 : decode prog_75_method_6_code 197 = .ok (.sipush 255, 3) := by decide +kernel
theorem d3_200 : decode prog_75_method_6_code 200 = .ok (.iand, 1) := by decide +kernel
theorem d3_201 : decode prog_75_method_6_code 201 = .ok (.istore 8, 2) := by decide +kernel
theorem d3_203 : decode prog_75_method_6_code 203 = .ok (.iload 8, 2) := by decide +kernel
theorem d3_205 : decode prog_75_method_6_code 205 = .ok (.iload 6, 2) := by decide +kernel
theorem d3_207 : decode prog_75_method_6_code 207 = .ok (.if_icmp .lt 10, 3) := by decide +kernel
theorem d3_210 : decode prog_75_method_6_code 210 = .ok (.iload 8, 2) := by decide +kernel
theorem d3_212 : decode prog_75_method_6_code 212 = .ok (.iload 7, 2) := by decide +kernel
theorem d3_214 : decode prog_75_method_6_code 214 = .ok (.if_icmp .le 5, 3) := by decide +kernel
theorem d3_217 : decode prog_75_method_6_code 217 = .ok (.iconst 0, 1) := by decide +kernel
theorem d3_218 : decode prog_75_method_6_code 218 = .ok (.ireturn, 1) := by decide +kernel
theorem d3_219 : decode prog_75_method_6_code 219 = .ok (.iconst 2, 1) := by decide +kernel
theorem d3_220 : decode prog_75_method_6_code 220 = .ok (.istore 9, 2) := by decide +kernel
theorem d3_222 : decode prog_75_method_6_code 222 = .ok (.iload 9, 2) := by decide +kernel
theorem d3_224 : decode prog_75_method_6_code 224 = .ok (.iload 5, 2) := by decide +kernel
theorem d3_226 : decode prog_75_method_6_code 226 = .ok (.if_icmp .ge 27, 3) := by decide +kernel
theorem d3_253 : decode prog_75_method_6_code 253 = .ok (.iload_n 3, 1) := by decide +kernel
theorem d3_254 : decode prog_75_method_6_code 254 = .ok (.iload 5, 2) := by decide +kernel
theorem d3_256 : decode prog_75_method_6_code 256 = .ok (.iadd, 1) := by decide +kernel
theorem d3_257 : decode prog_75_method_6_code 257 = .ok (.istore_n 3, 1) := by decide +kernel
theorem d3_258 : decode prog_75_method_6_code 258 = .ok (.goto (-256), 3) := by decide +kernel
set_option maxRecDepth 65536 in
set_option maxHeartbeats 8000000 in
theorem wf_2 (l : Launch) (Z : State) (n0 : Nat) {p : Program} {e : Env} {s : State} {m : MethodId} {args : Array Value} {below : List Frame} {meth : Method} {c : Code} {T : State} {h0 : Heap} {a : Addr} {vs : List Int32} (X : own_S Z n0 prog_75_method_6_code (⟨"com/example/vegeu/vegeu/model/Utf8", "isWellFormed", "([BII)Z"⟩ : MethodName) 10 (some .boolean) p l e ({ frames := 0, cells := 0, slots := 0, locals := 0 } : Room) s m args below meth c T 0 0 h0) (A : own_A Z h0 a .byte vs) (fr to j : Int32) (c0 c1 : Int32) (f : Nat) (s4 s5 s6 s7 s8 s9 : Slot) (hs4 : One s4) (hs5 : One s5) (hs6 : One s6) (hs7 : One s7) (hs8 : One s8) (hs9 : One s9)
    (ht : 0 ≤ j.toInt ∧ j.toInt + 2 ≤ 5 ∧ to.toInt = j.toInt + 2) (H : ∀ (t : Nat) (i : Int32), t < 2 → i.toInt = j.toInt + t → own_in i vs.length = true ∧ vs.getD i.toNatClampNeg 0 = [c0, c1].getD t 0) (b0 : -128 ≤ c0.toInt ∧ c0.toInt < 128) (b1 : -128 ≤ c1.toInt ∧ c1.toInt < 128) :
    own_G p e below (own_Q n0 below s ({ frames := 0, cells := 0, slots := 0, locals := 0 } : Room) (some (.int (own_w (f + 2) [(c0 &&& (255 : Int32)), (c1 &&& (255 : Int32))]))) (fun h' => h' = h0)) T (mkF m 2 #[.val (.ref a), .val (.int fr), .val (.int to), .val (.int j), s4, s5, s6, s7, s8, s9] []) := by
  have hto := ht
  have hmj : to - j = (2 : Int32) := by
    apply Int32.toInt_inj.mp
    have e := c_isub to j
    have r := rng32 (to - j)
    simp only [Int32.reduceToInt]
    omega
  have hlt : j < to := by rw [Int32.lt_iff_toInt_lt]; omega
  have G0 := H 0 j (by decide) (by omega)
  have m0 := c_mask c0 255 8 (by decide) (by decide)
  have k0 := own_c192 c0 b0
  have G1 := H 1 (j + (1 : Int32)) (by decide) (by rw [own_ad j 1 (by omega) (by decide)]; rfl)
  have m1 := c_mask c1 255 8 (by decide) (by decide)
  have k1 := own_c192 c1 b1
  generalize hΦ : own_Q n0 below s _ _ _ = Φ
  refine own_iloadN X (pc' := 3) d3_2 rfl rfl ?_
  refine own_iloadN X (pc' := 4) d3_3 rfl rfl ?_
  refine own_icmp_ge X (pct := 261) (pc' := 7) d3_4 rfl (by decide) (by decide) (fun hc => absurd hc (fun q => q hlt)) (fun _ => ?_)
  refine own_aloadN X (pc' := 8) d3_7 rfl rfl rfl ?_
  refine own_iloadN X (pc' := 9) d3_8 rfl rfl ?_
  refine own_baload X (v := c0) (pc' := 10) A G0.1 G0.2 d3_9 rfl ?_
  refine own_if_lt X (pct := 19) (pc' := 13) d3_10 rfl (by decide) (by decide) (fun hc10_1 => ?_) (fun hc10_1 => ?_)
  · refine own_aloadN X (pc' := 20) d3_19 rfl rfl rfl ?_
    refine own_iloadN X (pc' := 21) d3_20 rfl rfl ?_
    refine own_baload X (v := c0) (pc' := 22) A G0.1 G0.2 d3_21 rfl ?_
    refine own_sipush X (v := (255 : Int32)) (pc' := 25) d3_22 rfl (by decide) ?_
    refine own_iand X (r := (c0 &&& (255 : Int32))) (pc' := 26) d3_25 rfl rfl ?_
    refine own_istore X (pc' := 28) (Ls' := #[.val (.ref a), .val (.int fr), .val (.int to), .val (.int j), .val (.int (c0 &&& (255 : Int32))), s5, s6, s7, s8, s9]) d3_26 rfl (XS.store1 (o := s4) rfl hs4 rfl) ?_
    refine own_sipush X (v := (128 : Int32)) (pc' := 31) d3_28 rfl (by decide) ?_
    refine own_istore X (pc' := 33) (Ls' := #[.val (.ref a), .val (.int fr), .val (.int to), .val (.int j), .val (.int (c0 &&& (255 : Int32))), s5, .val (.int (128 : Int32)), s7, s8, s9]) d3_31 rfl (XS.store1 (o := s6) rfl hs6 rfl) ?_
    refine own_sipush X (v := (191 : Int32)) (pc' := 36) d3_33 rfl (by decide) ?_
    refine own_istore X (pc' := 38) (Ls' := #[.val (.ref a), .val (.int fr), .val (.int to), .val (.int j), .val (.int (c0 &&& (255 : Int32))), s5, .val (.int (128 : Int32)), .val (.int (191 : Int32)), s8, s9]) d3_36 rfl (XS.store1 (o := s7) rfl hs7 rfl) ?_
    refine own_iload X (pc' := 40) d3_38 rfl rfl ?_
    refine own_sipush X (v := (194 : Int32)) (pc' := 43) d3_40 rfl (by decide) ?_
    refine own_icmp_lt X (pct := 60) (pc' := 46) d3_43 rfl (by decide) (by decide) (fun hc43_2 => ?_) (fun hc43_2 => ?_)
    · refine own_iload X (pc' := 62) d3_60 rfl rfl ?_
      refine own_sipush X (v := (224 : Int32)) (pc' := 65) d3_62 rfl (by decide) ?_
      refine own_icmp_lt X (pct := 120) (pc' := 68) d3_65 rfl (by decide) (by decide) (fun _ => ?_) (fun hc => absurd hc (by simp only [Int32.lt_iff_toInt_lt, ← Int32.toInt_inj, Int32.reduceToInt] at hc43_2 ⊢; omega))
      refine own_iload X (pc' := 122) d3_120 rfl rfl ?_
      refine own_sipush X (v := (240 : Int32)) (pc' := 125) d3_122 rfl (by decide) ?_
      refine own_icmp_lt X (pct := 180) (pc' := 128) d3_125 rfl (by decide) (by decide) (fun _ => ?_) (fun hc => absurd hc (by simp only [Int32.lt_iff_toInt_lt, ← Int32.toInt_inj, Int32.reduceToInt] at hc43_2 ⊢; omega))
      refine own_iconst X (v := (0 : Int32)) (pc' := 181) d3_180 rfl (by decide) ?_
      subst hΦ
      refine own_retZ X d3_181 (by decide) (by decide) (by decide) ?_ rfl
      have q : own_sl [(c0 &&& (255 : Int32)), (c1 &&& (255 : Int32))] = 0 := by
        rw [Int32.lt_iff_toInt_lt] at hc10_1
        rw [Int32.lt_iff_toInt_lt] at hc43_2
        simp only [Int32.reduceToInt] at hc10_1 hc43_2
        show own_g 2 (c0 &&& (255 : Int32)) (c1 &&& (255 : Int32)) 0 0 = 0
        unfold own_g
        repeat' split
        all_goals first | rfl | omega
      rw [own_w0 q]
    · refine own_iload X (pc' := 48) d3_46 rfl rfl ?_
      refine own_sipush X (v := (223 : Int32)) (pc' := 51) d3_48 rfl (by decide) ?_
      refine own_icmp_gt X (pct := 60) (pc' := 54) d3_51 rfl (by decide) (by decide) (fun hc51_3 => ?_) (fun hc51_3 => ?_)
      · refine own_iload X (pc' := 62) d3_60 rfl rfl ?_
        refine own_sipush X (v := (224 : Int32)) (pc' := 65) d3_62 rfl (by decide) ?_
        refine own_icmp_lt X (pct := 120) (pc' := 68) d3_65 rfl (by decide) (by decide) (fun hc => absurd hc (by simp only [Int32.lt_iff_toInt_lt, ← Int32.toInt_inj, Int32.reduceToInt] at hc43_2 hc51_3 ⊢; omega)) (fun _ => ?_)
        refine own_iload X (pc' := 70) d3_68 rfl rfl ?_
        refine own_sipush X (v := (239 : Int32)) (pc' := 73) d3_70 rfl (by decide) ?_
        refine own_icmp_gt X (pct := 120) (pc' := 76) d3_73 rfl (by decide) (by decide) (fun hc73_4 => ?_) (fun hc73_4 => ?_)
        · refine own_iload X (pc' := 122) d3_120 rfl rfl ?_
          refine own_sipush X (v := (240 : Int32)) (pc' := 125) d3_122 rfl (by decide) ?_
          refine own_icmp_lt X (pct := 180) (pc' := 128) d3_125 rfl (by decide) (by decide) (fun hc => absurd hc (by simp only [Int32.lt_iff_toInt_lt, ← Int32.toInt_inj, Int32.reduceToInt] at hc43_2 hc51_3 hc73_4 ⊢; omega)) (fun _ => ?_)
          refine own_iload X (pc' := 130) d3_128 rfl rfl ?_
          refine own_sipush X (v := (244 : Int32)) (pc' := 133) d3_130 rfl (by decide) ?_
          refine own_icmp_gt X (pct := 180) (pc' := 136) d3_133 rfl (by decide) (by decide) (fun hc133_5 => ?_) (fun hc133_5 => ?_)
          · refine own_iconst X (v := (0 : Int32)) (pc' := 181) d3_180 rfl (by decide) ?_
            subst hΦ
            refine own_retZ X d3_181 (by decide) (by decide) (by decide) ?_ rfl
            have q : own_sl [(c0 &&& (255 : Int32)), (c1 &&& (255 : Int32))] = 0 := by
              rw [Int32.lt_iff_toInt_lt] at hc10_1
              rw [Int32.lt_iff_toInt_lt] at hc43_2
              rw [Int32.lt_iff_toInt_lt] at hc51_3
              rw [Int32.lt_iff_toInt_lt] at hc73_4
              rw [Int32.lt_iff_toInt_lt] at hc133_5
              simp only [Int32.reduceToInt] at hc10_1 hc43_2 hc51_3 hc73_4 hc133_5
              show own_g 2 (c0 &&& (255 : Int32)) (c1 &&& (255 : Int32)) 0 0 = 0
              unfold own_g
              repeat' split
              all_goals first | rfl | omega
            rw [own_w0 q]
          · refine own_iconst X (v := (4 : Int32)) (pc' := 137) d3_136 rfl (by decide) ?_
            refine own_istore X (pc' := 139) (Ls' := #[.val (.ref a), .val (.int fr), .val (.int to), .val (.int j), .val (.int (c0 &&& (255 : Int32))), .val (.int (4 : Int32)), .val (.int (128 : Int32)), .val (.int (191 : Int32)), s8, s9]) d3_137 rfl (XS.store1 (o := s5) rfl hs5 rfl) ?_
            refine own_iload X (pc' := 141) d3_139 rfl rfl ?_
            refine own_sipush X (v := (240 : Int32)) (pc' := 144) d3_141 rfl (by decide) ?_
            refine own_icmp_ne X (pct := 153) (pc' := 147) d3_144 rfl (by decide) (by decide) (fun hc144_6 => ?_) (fun hc144_6 => ?_)
            · refine own_sipush X (v := (128 : Int32)) (pc' := 156) d3_153 rfl (by decide) ?_
              refine own_istore X (pc' := 158) (Ls' := #[.val (.ref a), .val (.int fr), .val (.int to), .val (.int j), .val (.int (c0 &&& (255 : Int32))), .val (.int (4 : Int32)), .val (.int (128 : Int32)), .val (.int (191 : Int32)), s8, s9]) d3_156 rfl rfl ?_
              refine own_iload X (pc' := 160) d3_158 rfl rfl ?_
              refine own_sipush X (v := (244 : Int32)) (pc' := 163) d3_160 rfl (by decide) ?_
              refine own_icmp_ne X (pct := 172) (pc' := 166) d3_163 rfl (by decide) (by decide) (fun hc163_7 => ?_) (fun hc163_7 => ?_)
              · refine own_sipush X (v := (191 : Int32)) (pc' := 175) d3_172 rfl (by decide) ?_
                refine own_istore X (pc' := 177) (Ls' := #[.val (.ref a), .val (.int fr), .val (.int to), .val (.int j), .val (.int (c0 &&& (255 : Int32))), .val (.int (4 : Int32)), .val (.int (128 : Int32)), .val (.int (191 : Int32)), s8, s9]) d3_175 rfl rfl ?_
                refine own_goto X (pc' := 182) d3_177 (by decide) (by decide) ?_
                refine own_iloadN X (pc' := 183) d3_182 rfl rfl ?_
                refine own_iloadN X (pc' := 184) d3_183 rfl rfl ?_
                refine own_isub X (r := (to - j)) (pc' := 185) d3_184 rfl rfl ?_
                rw [hmj]
                refine own_iload X (pc' := 187) d3_185 rfl rfl ?_
                refine own_icmp_ge X (pct := 192) (pc' := 190) d3_187 rfl (by decide) (by decide) (fun hc => absurd hc (by decide)) (fun _ => ?_)
                refine own_iconst X (v := (0 : Int32)) (pc' := 191) d3_190 rfl (by decide) ?_
                subst hΦ
                refine own_retZ X d3_191 (by decide) (by decide) (by decide) ?_ rfl
                have q : own_sl [(c0 &&& (255 : Int32)), (c1 &&& (255 : Int32))] = 0 := by
                  rw [Int32.lt_iff_toInt_lt] at hc10_1
                  rw [Int32.lt_iff_toInt_lt] at hc43_2
                  rw [Int32.lt_iff_toInt_lt] at hc51_3
                  rw [Int32.lt_iff_toInt_lt] at hc73_4
                  rw [Int32.lt_iff_toInt_lt] at hc133_5
                  rw [← Int32.toInt_inj] at hc144_6
                  rw [← Int32.toInt_inj] at hc163_7
                  simp only [Int32.reduceToInt] at hc10_1 hc43_2 hc51_3 hc73_4 hc133_5 hc144_6 hc163_7
                  show own_g 2 (c0 &&& (255 : Int32)) (c1 &&& (255 : Int32)) 0 0 = 0
                  unfold own_g
                  repeat' split
                  all_goals first | rfl | omega
                rw [own_w0 q]
              · refine own_sipush X (v := (143 : Int32)) (pc' := 169) d3_166 rfl (by decide) ?_
                refine own_goto X (pc' := 175) d3_169 (by decide) (by decide) ?_
                refine own_istore X (pc' := 177) (Ls' := #[.val (.ref a), .val (.int fr), .val (.int to), .val (.int j), .val (.int (c0 &&& (255 : Int32))), .val (.int (4 : Int32)), .val (.int (128 : Int32)), .val (.int (143 : Int32)), s8, s9]) d3_175 rfl rfl ?_
                refine own_goto X (pc' := 182) d3_177 (by decide) (by decide) ?_
                refine own_iloadN X (pc' := 183) d3_182 rfl rfl ?_
                refine own_iloadN X (pc' := 184) d3_183 rfl rfl ?_
                refine own_isub X (r := (to - j)) (pc' := 185) d3_184 rfl rfl ?_
                rw [hmj]
                refine own_iload X (pc' := 187) d3_185 rfl rfl ?_
                refine own_icmp_ge X (pct := 192) (pc' := 190) d3_187 rfl (by decide) (by decide) (fun hc => absurd hc (by decide)) (fun _ => ?_)
                refine own_iconst X (v := (0 : Int32)) (pc' := 191) d3_190 rfl (by decide) ?_
                subst hΦ
                refine own_retZ X d3_191 (by decide) (by decide) (by decide) ?_ rfl
                have q : own_sl [(c0 &&& (255 : Int32)), (c1 &&& (255 : Int32))] = 0 := by
                  rw [Int32.lt_iff_toInt_lt] at hc10_1
                  rw [Int32.lt_iff_toInt_lt] at hc43_2
                  rw [Int32.lt_iff_toInt_lt] at hc51_3
                  rw [Int32.lt_iff_toInt_lt] at hc73_4
                  rw [Int32.lt_iff_toInt_lt] at hc133_5
                  rw [← Int32.toInt_inj] at hc144_6
                  rw [← Int32.toInt_inj] at hc163_7
                  simp only [Int32.reduceToInt] at hc10_1 hc43_2 hc51_3 hc73_4 hc133_5 hc144_6 hc163_7
                  show own_g 2 (c0 &&& (255 : Int32)) (c1 &&& (255 : Int32)) 0 0 = 0
                  unfold own_g
                  repeat' split
                  all_goals first | rfl | omega
                rw [own_w0 q]
            · refine own_sipush X (v := (144 : Int32)) (pc' := 150) d3_147 rfl (by decide) ?_
              refine own_goto X (pc' := 156) d3_150 (by decide) (by decide) ?_
              refine own_istore X (pc' := 158) (Ls' := #[.val (.ref a), .val (.int fr), .val (.int to), .val (.int j), .val (.int (c0 &&& (255 : Int32))), .val (.int (4 : Int32)), .val (.int (144 : Int32)), .val (.int (191 : Int32)), s8, s9]) d3_156 rfl rfl ?_
              refine own_iload X (pc' := 160) d3_158 rfl rfl ?_
              refine own_sipush X (v := (244 : Int32)) (pc' := 163) d3_160 rfl (by decide) ?_
              refine own_icmp_ne X (pct := 172) (pc' := 166) d3_163 rfl (by decide) (by decide) (fun _ => ?_) (fun hc => absurd hc (by simp only [Int32.lt_iff_toInt_lt, ← Int32.toInt_inj, Int32.reduceToInt] at hc43_2 hc51_3 hc73_4 hc133_5 hc144_6 ⊢; omega))
              refine own_sipush X (v := (191 : Int32)) (pc' := 175) d3_172 rfl (by decide) ?_
              refine own_istore X (pc' := 177) (Ls' := #[.val (.ref a), .val (.int fr), .val (.int to), .val (.int j), .val (.int (c0 &&& (255 : Int32))), .val (.int (4 : Int32)), .val (.int (144 : Int32)), .val (.int (191 : Int32)), s8, s9]) d3_175 rfl rfl ?_
              refine own_goto X (pc' := 182) d3_177 (by decide) (by decide) ?_
              refine own_iloadN X (pc' := 183) d3_182 rfl rfl ?_
              refine own_iloadN X (pc' := 184) d3_183 rfl rfl ?_
              refine own_isub X (r := (to - j)) (pc' := 185) d3_184 rfl rfl ?_
              rw [hmj]
              refine own_iload X (pc' := 187) d3_185 rfl rfl ?_
              refine own_icmp_ge X (pct := 192) (pc' := 190) d3_187 rfl (by decide) (by decide) (fun hc => absurd hc (by decide)) (fun _ => ?_)
              refine own_iconst X (v := (0 : Int32)) (pc' := 191) d3_190 rfl (by decide) ?_
              subst hΦ
              refine own_retZ X d3_191 (by decide) (by decide) (by decide) ?_ rfl
              have q : own_sl [(c0 &&& (255 : Int32)), (c1 &&& (255 : Int32))] = 0 := by
                rw [Int32.lt_iff_toInt_lt] at hc10_1
                rw [Int32.lt_iff_toInt_lt] at hc43_2
                rw [Int32.lt_iff_toInt_lt] at hc51_3
                rw [Int32.lt_iff_toInt_lt] at hc73_4
                rw [Int32.lt_iff_toInt_lt] at hc133_5
                rw [← Int32.toInt_inj] at hc144_6
                simp only [Int32.reduceToInt] at hc10_1 hc43_2 hc51_3 hc73_4 hc133_5 hc144_6
                show own_g 2 (c0 &&& (255 : Int32)) (c1 &&& (255 : Int32)) 0 0 = 0
                unfold own_g
                repeat' split
                all_goals first | rfl | omega
              rw [own_w0 q]
        · refine own_iconst X (v := (3 : Int32)) (pc' := 77) d3_76 rfl (by decide) ?_
          refine own_istore X (pc' := 79) (Ls' := #[.val (.ref a), .val (.int fr), .val (.int to), .val (.int j), .val (.int (c0 &&& (255 : Int32))), .val (.int (3 : Int32)), .val (.int (128 : Int32)), .val (.int (191 : Int32)), s8, s9]) d3_77 rfl (XS.store1 (o := s5) rfl hs5 rfl) ?_
          refine own_iload X (pc' := 81) d3_79 rfl rfl ?_
          refine own_sipush X (v := (224 : Int32)) (pc' := 84) d3_81 rfl (by decide) ?_
          refine own_icmp_ne X (pct := 93) (pc' := 87) d3_84 rfl (by decide) (by decide) (fun hc84_8 => ?_) (fun hc84_8 => ?_)
          · refine own_sipush X (v := (128 : Int32)) (pc' := 96) d3_93 rfl (by decide) ?_
            refine own_istore X (pc' := 98) (Ls' := #[.val (.ref a), .val (.int fr), .val (.int to), .val (.int j), .val (.int (c0 &&& (255 : Int32))), .val (.int (3 : Int32)), .val (.int (128 : Int32)), .val (.int (191 : Int32)), s8, s9]) d3_96 rfl rfl ?_
            refine own_iload X (pc' := 100) d3_98 rfl rfl ?_
            refine own_sipush X (v := (237 : Int32)) (pc' := 103) d3_100 rfl (by decide) ?_
            refine own_icmp_ne X (pct := 112) (pc' := 106) d3_103 rfl (by decide) (by decide) (fun hc103_9 => ?_) (fun hc103_9 => ?_)
            · refine own_sipush X (v := (191 : Int32)) (pc' := 115) d3_112 rfl (by decide) ?_
              refine own_istore X (pc' := 117) (Ls' := #[.val (.ref a), .val (.int fr), .val (.int to), .val (.int j), .val (.int (c0 &&& (255 : Int32))), .val (.int (3 : Int32)), .val (.int (128 : Int32)), .val (.int (191 : Int32)), s8, s9]) d3_115 rfl rfl ?_
              refine own_goto X (pc' := 182) d3_117 (by decide) (by decide) ?_
              refine own_iloadN X (pc' := 183) d3_182 rfl rfl ?_
              refine own_iloadN X (pc' := 184) d3_183 rfl rfl ?_
              refine own_isub X (r := (to - j)) (pc' := 185) d3_184 rfl rfl ?_
              rw [hmj]
              refine own_iload X (pc' := 187) d3_185 rfl rfl ?_
              refine own_icmp_ge X (pct := 192) (pc' := 190) d3_187 rfl (by decide) (by decide) (fun hc => absurd hc (by decide)) (fun _ => ?_)
              refine own_iconst X (v := (0 : Int32)) (pc' := 191) d3_190 rfl (by decide) ?_
              subst hΦ
              refine own_retZ X d3_191 (by decide) (by decide) (by decide) ?_ rfl
              have q : own_sl [(c0 &&& (255 : Int32)), (c1 &&& (255 : Int32))] = 0 := by
                rw [Int32.lt_iff_toInt_lt] at hc10_1
                rw [Int32.lt_iff_toInt_lt] at hc43_2
                rw [Int32.lt_iff_toInt_lt] at hc51_3
                rw [Int32.lt_iff_toInt_lt] at hc73_4
                rw [← Int32.toInt_inj] at hc84_8
                rw [← Int32.toInt_inj] at hc103_9
                simp only [Int32.reduceToInt] at hc10_1 hc43_2 hc51_3 hc73_4 hc84_8 hc103_9
                show own_g 2 (c0 &&& (255 : Int32)) (c1 &&& (255 : Int32)) 0 0 = 0
                unfold own_g
                repeat' split
                all_goals first | rfl | omega
              rw [own_w0 q]
            · refine own_sipush X (v := (159 : Int32)) (pc' := 109) d3_106 rfl (by decide) ?_
              refine own_goto X (pc' := 115) d3_109 (by decide) (by decide) ?_
              refine own_istore X (pc' := 117) (Ls' := #[.val (.ref a), .val (.int fr), .val (.int to), .val (.int j), .val (.int (c0 &&& (255 : Int32))), .val (.int (3 : Int32)), .val (.int (128 : Int32)), .val (.int (159 : Int32)), s8, s9]) d3_115 rfl rfl ?_
              refine own_goto X (pc' := 182) d3_117 (by decide) (by decide) ?_
              refine own_iloadN X (pc' := 183) d3_182 rfl rfl ?_
              refine own_iloadN X (pc' := 184) d3_183 rfl rfl ?_
              refine own_isub X (r := (to - j)) (pc' := 185) d3_184 rfl rfl ?_
              rw [hmj]
              refine own_iload X (pc' := 187) d3_185 rfl rfl ?_
              refine own_icmp_ge X (pct := 192) (pc' := 190) d3_187 rfl (by decide) (by decide) (fun hc => absurd hc (by decide)) (fun _ => ?_)
              refine own_iconst X (v := (0 : Int32)) (pc' := 191) d3_190 rfl (by decide) ?_
              subst hΦ
              refine own_retZ X d3_191 (by decide) (by decide) (by decide) ?_ rfl
              have q : own_sl [(c0 &&& (255 : Int32)), (c1 &&& (255 : Int32))] = 0 := by
                rw [Int32.lt_iff_toInt_lt] at hc10_1
                rw [Int32.lt_iff_toInt_lt] at hc43_2
                rw [Int32.lt_iff_toInt_lt] at hc51_3
                rw [Int32.lt_iff_toInt_lt] at hc73_4
                rw [← Int32.toInt_inj] at hc84_8
                rw [← Int32.toInt_inj] at hc103_9
                simp only [Int32.reduceToInt] at hc10_1 hc43_2 hc51_3 hc73_4 hc84_8 hc103_9
                show own_g 2 (c0 &&& (255 : Int32)) (c1 &&& (255 : Int32)) 0 0 = 0
                unfold own_g
                repeat' split
                all_goals first | rfl | omega
              rw [own_w0 q]
          · refine own_sipush X (v := (160 : Int32)) (pc' := 90) d3_87 rfl (by decide) ?_
            refine own_goto X (pc' := 96) d3_90 (by decide) (by decide) ?_
            refine own_istore X (pc' := 98) (Ls' := #[.val (.ref a), .val (.int fr), .val (.int to), .val (.int j), .val (.int (c0 &&& (255 : Int32))), .val (.int (3 : Int32)), .val (.int (160 : Int32)), .val (.int (191 : Int32)), s8, s9]) d3_96 rfl rfl ?_
            refine own_iload X (pc' := 100) d3_98 rfl rfl ?_
            refine own_sipush X (v := (237 : Int32)) (pc' := 103) d3_100 rfl (by decide) ?_
            refine own_icmp_ne X (pct := 112) (pc' := 106) d3_103 rfl (by decide) (by decide) (fun _ => ?_) (fun hc => absurd hc (by simp only [Int32.lt_iff_toInt_lt, ← Int32.toInt_inj, Int32.reduceToInt] at hc43_2 hc51_3 hc73_4 hc84_8 ⊢; omega))
            refine own_sipush X (v := (191 : Int32)) (pc' := 115) d3_112 rfl (by decide) ?_
            refine own_istore X (pc' := 117) (Ls' := #[.val (.ref a), .val (.int fr), .val (.int to), .val (.int j), .val (.int (c0 &&& (255 : Int32))), .val (.int (3 : Int32)), .val (.int (160 : Int32)), .val (.int (191 : Int32)), s8, s9]) d3_115 rfl rfl ?_
            refine own_goto X (pc' := 182) d3_117 (by decide) (by decide) ?_
            refine own_iloadN X (pc' := 183) d3_182 rfl rfl ?_
            refine own_iloadN X (pc' := 184) d3_183 rfl rfl ?_
            refine own_isub X (r := (to - j)) (pc' := 185) d3_184 rfl rfl ?_
            rw [hmj]
            refine own_iload X (pc' := 187) d3_185 rfl rfl ?_
            refine own_icmp_ge X (pct := 192) (pc' := 190) d3_187 rfl (by decide) (by decide) (fun hc => absurd hc (by decide)) (fun _ => ?_)
            refine own_iconst X (v := (0 : Int32)) (pc' := 191) d3_190 rfl (by decide) ?_
            subst hΦ
            refine own_retZ X d3_191 (by decide) (by decide) (by decide) ?_ rfl
            have q : own_sl [(c0 &&& (255 : Int32)), (c1 &&& (255 : Int32))] = 0 := by
              rw [Int32.lt_iff_toInt_lt] at hc10_1
              rw [Int32.lt_iff_toInt_lt] at hc43_2
              rw [Int32.lt_iff_toInt_lt] at hc51_3
              rw [Int32.lt_iff_toInt_lt] at hc73_4
              rw [← Int32.toInt_inj] at hc84_8
              simp only [Int32.reduceToInt] at hc10_1 hc43_2 hc51_3 hc73_4 hc84_8
              show own_g 2 (c0 &&& (255 : Int32)) (c1 &&& (255 : Int32)) 0 0 = 0
              unfold own_g
              repeat' split
              all_goals first | rfl | omega
            rw [own_w0 q]
      · refine own_iconst X (v := (2 : Int32)) (pc' := 55) d3_54 rfl (by decide) ?_
        refine own_istore X (pc' := 57) (Ls' := #[.val (.ref a), .val (.int fr), .val (.int to), .val (.int j), .val (.int (c0 &&& (255 : Int32))), .val (.int (2 : Int32)), .val (.int (128 : Int32)), .val (.int (191 : Int32)), s8, s9]) d3_55 rfl (XS.store1 (o := s5) rfl hs5 rfl) ?_
        refine own_goto X (pc' := 182) d3_57 (by decide) (by decide) ?_
        refine own_iloadN X (pc' := 183) d3_182 rfl rfl ?_
        refine own_iloadN X (pc' := 184) d3_183 rfl rfl ?_
        refine own_isub X (r := (to - j)) (pc' := 185) d3_184 rfl rfl ?_
        rw [hmj]
        refine own_iload X (pc' := 187) d3_185 rfl rfl ?_
        refine own_icmp_ge X (pct := 192) (pc' := 190) d3_187 rfl (by decide) (by decide) (fun _ => ?_) (fun hc => absurd hc (by decide))
        refine own_aloadN X (pc' := 193) d3_192 rfl rfl rfl ?_
        refine own_iloadN X (pc' := 194) d3_193 rfl rfl ?_
        refine own_iconst X (v := (1 : Int32)) (pc' := 195) d3_194 rfl (by decide) ?_
        refine own_iadd X (r := (j + (1 : Int32))) (pc' := 196) d3_195 rfl rfl ?_
        refine own_baload X (v := c1) (pc' := 197) A G1.1 G1.2 d3_196 rfl ?_
        refine own_sipush X (v := (255 : Int32)) (pc' := 200) d3_197 rfl (by decide) ?_
        refine own_iand X (r := (c1 &&& (255 : Int32))) (pc' := 201) d3_200 rfl rfl ?_
        refine own_istore X (pc' := 203) (Ls' := #[.val (.ref a), .val (.int fr), .val (.int to), .val (.int j), .val (.int (c0 &&& (255 : Int32))), .val (.int (2 : Int32)), .val (.int (128 : Int32)), .val (.int (191 : Int32)), .val (.int (c1 &&& (255 : Int32))), s9]) d3_201 rfl (XS.store1 (o := s8) rfl hs8 rfl) ?_
        refine own_iload X (pc' := 205) d3_203 rfl rfl ?_
        refine own_iload X (pc' := 207) d3_205 rfl rfl ?_
        refine own_icmp_lt X (pct := 217) (pc' := 210) d3_207 rfl (by decide) (by decide) (fun hc207_10 => ?_) (fun hc207_10 => ?_)
        · refine own_iconst X (v := (0 : Int32)) (pc' := 218) d3_217 rfl (by decide) ?_
          subst hΦ
          refine own_retZ X d3_218 (by decide) (by decide) (by decide) ?_ rfl
          have q : own_sl [(c0 &&& (255 : Int32)), (c1 &&& (255 : Int32))] = 0 := by
            rw [Int32.lt_iff_toInt_lt] at hc10_1
            rw [Int32.lt_iff_toInt_lt] at hc43_2
            rw [Int32.lt_iff_toInt_lt] at hc51_3
            rw [Int32.lt_iff_toInt_lt] at hc207_10
            simp only [Int32.reduceToInt] at hc10_1 hc43_2 hc51_3 hc207_10
            show own_g 2 (c0 &&& (255 : Int32)) (c1 &&& (255 : Int32)) 0 0 = 0
            unfold own_g
            repeat' split
            all_goals first | rfl | omega
          rw [own_w0 q]
        · refine own_iload X (pc' := 212) d3_210 rfl rfl ?_
          refine own_iload X (pc' := 214) d3_212 rfl rfl ?_
          refine own_icmp_le X (pct := 219) (pc' := 217) d3_214 rfl (by decide) (by decide) (fun hc214_11 => ?_) (fun hc214_11 => ?_)
          · refine own_iconst X (v := (2 : Int32)) (pc' := 220) d3_219 rfl (by decide) ?_
            refine own_istore X (pc' := 222) (Ls' := #[.val (.ref a), .val (.int fr), .val (.int to), .val (.int j), .val (.int (c0 &&& (255 : Int32))), .val (.int (2 : Int32)), .val (.int (128 : Int32)), .val (.int (191 : Int32)), .val (.int (c1 &&& (255 : Int32))), .val (.int (2 : Int32))]) d3_220 rfl (XS.store1 (o := s9) rfl hs9 rfl) ?_
            refine own_iload X (pc' := 224) d3_222 rfl rfl ?_
            refine own_iload X (pc' := 226) d3_224 rfl rfl ?_
            refine own_icmp_ge X (pct := 253) (pc' := 229) d3_226 rfl (by decide) (by decide) (fun _ => ?_) (fun hc => absurd hc (by decide))
            refine own_iloadN X (pc' := 254) d3_253 rfl rfl ?_
            refine own_iload X (pc' := 256) d3_254 rfl rfl ?_
            refine own_iadd X (r := (j + (2 : Int32))) (pc' := 257) d3_256 rfl rfl ?_
            refine own_istoreN X (pc' := 258) (Ls' := #[.val (.ref a), .val (.int fr), .val (.int to), .val (.int (j + (2 : Int32))), .val (.int (c0 &&& (255 : Int32))), .val (.int (2 : Int32)), .val (.int (128 : Int32)), .val (.int (191 : Int32)), .val (.int (c1 &&& (255 : Int32))), .val (.int (2 : Int32))]) d3_257 rfl rfl ?_
            refine own_goto X (pc' := 2) d3_258 (by decide) (by decide) ?_
            have q : own_sl [(c0 &&& (255 : Int32)), (c1 &&& (255 : Int32))] = 2 := by
              rw [Int32.lt_iff_toInt_lt] at hc10_1
              rw [Int32.lt_iff_toInt_lt] at hc43_2
              rw [Int32.lt_iff_toInt_lt] at hc51_3
              rw [Int32.lt_iff_toInt_lt] at hc207_10
              rw [Int32.lt_iff_toInt_lt] at hc214_11
              simp only [Int32.reduceToInt] at hc10_1 hc43_2 hc51_3 hc207_10 hc214_11
              show own_g 2 (c0 &&& (255 : Int32)) (c1 &&& (255 : Int32)) 0 0 = 2
              unfold own_g
              repeat' split
              all_goals first | rfl | omega
            subst hΦ
            rw [show own_w (f + 2) [(c0 &&& (255 : Int32)), (c1 &&& (255 : Int32))] = own_w (f + 1 + 0) [] from own_wc q (by decide) rfl]
            exact wf_0 l Z n0 X A fr to (j + (2 : Int32))  (f + 1) (.val (.int (c0 &&& (255 : Int32)))) (.val (.int (2 : Int32))) (.val (.int (128 : Int32))) (.val (.int (191 : Int32))) (.val (.int (c1 &&& (255 : Int32)))) (.val (.int (2 : Int32))) (One.val rfl) (One.val rfl) (One.val rfl) (One.val rfl) (One.val rfl) (One.val rfl) (by rw [own_ad j 2 (by omega) (by decide)]; simp only [Int32.reduceToInt]; omega) (fun t i ht hi => by rw [own_ad j 2 (by omega) (by decide)] at hi; simp only [Int32.reduceToInt] at hi; exact H (t + 2) i (by omega) (by omega)) 
          · refine own_iconst X (v := (0 : Int32)) (pc' := 218) d3_217 rfl (by decide) ?_
            subst hΦ
            refine own_retZ X d3_218 (by decide) (by decide) (by decide) ?_ rfl
            have q : own_sl [(c0 &&& (255 : Int32)), (c1 &&& (255 : Int32))] = 0 := by
              rw [Int32.lt_iff_toInt_lt] at hc10_1
              rw [Int32.lt_iff_toInt_lt] at hc43_2
              rw [Int32.lt_iff_toInt_lt] at hc51_3
              rw [Int32.lt_iff_toInt_lt] at hc207_10
              rw [Int32.lt_iff_toInt_lt] at hc214_11
              simp only [Int32.reduceToInt] at hc10_1 hc43_2 hc51_3 hc207_10 hc214_11
              show own_g 2 (c0 &&& (255 : Int32)) (c1 &&& (255 : Int32)) 0 0 = 0
              unfold own_g
              repeat' split
              all_goals first | rfl | omega
            rw [own_w0 q]
  · refine own_iinc X (pc' := 16) (Ls' := #[.val (.ref a), .val (.int fr), .val (.int to), .val (.int (j + (1 : Int32))), s4, s5, s6, s7, s8, s9]) (w := (j + (1 : Int32))) d3_13 rfl rfl rfl rfl ?_
    refine own_goto X (pc' := 2) d3_16 (by decide) (by decide) ?_
    have q : own_sl [(c0 &&& (255 : Int32)), (c1 &&& (255 : Int32))] = 1 := by
      rw [Int32.lt_iff_toInt_lt] at hc10_1
      simp only [Int32.reduceToInt] at hc10_1
      show own_g 2 (c0 &&& (255 : Int32)) (c1 &&& (255 : Int32)) 0 0 = 1
      unfold own_g
      repeat' split
      all_goals first | rfl | omega
    subst hΦ
    rw [show own_w (f + 2) [(c0 &&& (255 : Int32)), (c1 &&& (255 : Int32))] = own_w (f + 0 + 1) [(c1 &&& (255 : Int32))] from own_wc q (by decide) rfl]
    exact wf_1 l Z n0 X A fr to (j + (1 : Int32)) c1 (f + 0) (s4) (s5) (s6) (s7) (s8) (s9) hs4 hs5 hs6 hs7 hs8 hs9 (by rw [own_ad j 1 (by omega) (by decide)]; simp only [Int32.reduceToInt]; omega) (fun t i ht hi => by rw [own_ad j 1 (by omega) (by decide)] at hi; simp only [Int32.reduceToInt] at hi; exact H (t + 1) i (by omega) (by omega)) b1
theorem d3_229 : decode prog_75_method_6_code 229 = .ok (.aload_n 0, 1) := by decide +kernel
theorem d3_230 : decode prog_75_method_6_code 230 = .ok (.iload_n 3, 1) := by decide +kernel
theorem d3_231 : decode prog_75_method_6_code 231 = .ok (.iload 9, 2) := by decide +kernel
theorem d3_233 : decode prog_75_method_6_code 233 = .ok (.iadd, 1) := by decide +kernel
theorem d3_234 : decode prog_75_method_6_code 234 = .ok (.baload, 1) := by decide +kernel
theorem d3_235 : decode prog_75_method_6_code 235 = .ok (.sipush 192, 3) := by decide +kernel
theorem d3_238 : decode prog_75_method_6_code 238 = .ok (.iand, 1) := by decide +kernel
theorem d3_239 : decode prog_75_method_6_code 239 = .ok (.sipush 128, 3) := by decide +kernel
theorem d3_242 : decode prog_75_method_6_code 242 = .ok (.if_icmp .eq 5, 3) := by decide +kernel
theorem d3_245 : decode prog_75_method_6_code 245 = .ok (.iconst 0, 1) := by decide +kernel
theorem d3_246 : decode prog_75_method_6_code 246 = .ok (.ireturn, 1) := by decide +kernel
theorem d3_247 : decode prog_75_method_6_code 247 = .ok (.iinc 9 1, 3) := by decide +kernel
theorem d3_250 : decode prog_75_method_6_code 250 = .ok (.goto (-28), 3) := by decide +kernel
set_option maxRecDepth 65536 in
set_option maxHeartbeats 8000000 in
theorem wf_3 (l : Launch) (Z : State) (n0 : Nat) {p : Program} {e : Env} {s : State} {m : MethodId} {args : Array Value} {below : List Frame} {meth : Method} {c : Code} {T : State} {h0 : Heap} {a : Addr} {vs : List Int32} (X : own_S Z n0 prog_75_method_6_code (⟨"com/example/vegeu/vegeu/model/Utf8", "isWellFormed", "([BII)Z"⟩ : MethodName) 10 (some .boolean) p l e ({ frames := 0, cells := 0, slots := 0, locals := 0 } : Room) s m args below meth c T 0 0 h0) (A : own_A Z h0 a .byte vs) (fr to j : Int32) (c0 c1 c2 : Int32) (f : Nat) (s4 s5 s6 s7 s8 s9 : Slot) (hs4 : One s4) (hs5 : One s5) (hs6 : One s6) (hs7 : One s7) (hs8 : One s8) (hs9 : One s9)
    (ht : 0 ≤ j.toInt ∧ j.toInt + 3 ≤ 5 ∧ to.toInt = j.toInt + 3) (H : ∀ (t : Nat) (i : Int32), t < 3 → i.toInt = j.toInt + t → own_in i vs.length = true ∧ vs.getD i.toNatClampNeg 0 = [c0, c1, c2].getD t 0) (b0 : -128 ≤ c0.toInt ∧ c0.toInt < 128) (b1 : -128 ≤ c1.toInt ∧ c1.toInt < 128) (b2 : -128 ≤ c2.toInt ∧ c2.toInt < 128) :
    own_G p e below (own_Q n0 below s ({ frames := 0, cells := 0, slots := 0, locals := 0 } : Room) (some (.int (own_w (f + 3) [(c0 &&& (255 : Int32)), (c1 &&& (255 : Int32)), (c2 &&& (255 : Int32))]))) (fun h' => h' = h0)) T (mkF m 2 #[.val (.ref a), .val (.int fr), .val (.int to), .val (.int j), s4, s5, s6, s7, s8, s9] []) := by
  have hto := ht
  have hmj : to - j = (3 : Int32) := by
    apply Int32.toInt_inj.mp
    have e := c_isub to j
    have r := rng32 (to - j)
    simp only [Int32.reduceToInt]
    omega
  have hlt : j < to := by rw [Int32.lt_iff_toInt_lt]; omega
  have G0 := H 0 j (by decide) (by omega)
  have m0 := c_mask c0 255 8 (by decide) (by decide)
  have k0 := own_c192 c0 b0
  have G1 := H 1 (j + (1 : Int32)) (by decide) (by rw [own_ad j 1 (by omega) (by decide)]; rfl)
  have m1 := c_mask c1 255 8 (by decide) (by decide)
  have k1 := own_c192 c1 b1
  have G2 := H 2 (j + (2 : Int32)) (by decide) (by rw [own_ad j 2 (by omega) (by decide)]; rfl)
  have m2 := c_mask c2 255 8 (by decide) (by decide)
  have k2 := own_c192 c2 b2
  generalize hΦ : own_Q n0 below s _ _ _ = Φ
  refine own_iloadN X (pc' := 3) d3_2 rfl rfl ?_
  refine own_iloadN X (pc' := 4) d3_3 rfl rfl ?_
  refine own_icmp_ge X (pct := 261) (pc' := 7) d3_4 rfl (by decide) (by decide) (fun hc => absurd hc (fun q => q hlt)) (fun _ => ?_)
  refine own_aloadN X (pc' := 8) d3_7 rfl rfl rfl ?_
  refine own_iloadN X (pc' := 9) d3_8 rfl rfl ?_
  refine own_baload X (v := c0) (pc' := 10) A G0.1 G0.2 d3_9 rfl ?_
  refine own_if_lt X (pct := 19) (pc' := 13) d3_10 rfl (by decide) (by decide) (fun hc10_1 => ?_) (fun hc10_1 => ?_)
  · refine own_aloadN X (pc' := 20) d3_19 rfl rfl rfl ?_
    refine own_iloadN X (pc' := 21) d3_20 rfl rfl ?_
    refine own_baload X (v := c0) (pc' := 22) A G0.1 G0.2 d3_21 rfl ?_
    refine own_sipush X (v := (255 : Int32)) (pc' := 25) d3_22 rfl (by decide) ?_
    refine own_iand X (r := (c0 &&& (255 : Int32))) (pc' := 26) d3_25 rfl rfl ?_
    refine own_istore X (pc' := 28) (Ls' := #[.val (.ref a), .val (.int fr), .val (.int to), .val (.int j), .val (.int (c0 &&& (255 : Int32))), s5, s6, s7, s8, s9]) d3_26 rfl (XS.store1 (o := s4) rfl hs4 rfl) ?_
    refine own_sipush X (v := (128 : Int32)) (pc' := 31) d3_28 rfl (by decide) ?_
    refine own_istore X (pc' := 33) (Ls' := #[.val (.ref a), .val (.int fr), .val (.int to), .val (.int j), .val (.int (c0 &&& (255 : Int32))), s5, .val (.int (128 : Int32)), s7, s8, s9]) d3_31 rfl (XS.store1 (o := s6) rfl hs6 rfl) ?_
    refine own_sipush X (v := (191 : Int32)) (pc' := 36) d3_33 rfl (by decide) ?_
    refine own_istore X (pc' := 38) (Ls' := #[.val (.ref a), .val (.int fr), .val (.int to), .val (.int j), .val (.int (c0 &&& (255 : Int32))), s5, .val (.int (128 : Int32)), .val (.int (191 : Int32)), s8, s9]) d3_36 rfl (XS.store1 (o := s7) rfl hs7 rfl) ?_
    refine own_iload X (pc' := 40) d3_38 rfl rfl ?_
    refine own_sipush X (v := (194 : Int32)) (pc' := 43) d3_40 rfl (by decide) ?_
    refine own_icmp_lt X (pct := 60) (pc' := 46) d3_43 rfl (by decide) (by decide) (fun hc43_2 => ?_) (fun hc43_2 => ?_)
    · refine own_iload X (pc' := 62) d3_60 rfl rfl ?_
      refine own_sipush X (v := (224 : Int32)) (pc' := 65) d3_62 rfl (by decide) ?_
      refine own_icmp_lt X (pct := 120) (pc' := 68) d3_65 rfl (by decide) (by decide) (fun _ => ?_) (fun hc => absurd hc (by simp only [Int32.lt_iff_toInt_lt, ← Int32.toInt_inj, Int32.reduceToInt] at hc43_2 ⊢; omega))
      refine own_iload X (pc' := 122) d3_120 rfl rfl ?_
      refine own_sipush X (v := (240 : Int32)) (pc' := 125) d3_122 rfl (by decide) ?_
      refine own_icmp_lt X (pct := 180) (pc' := 128) d3_125 rfl (by decide) (by decide) (fun _ => ?_) (fun hc => absurd hc (by simp only [Int32.lt_iff_toInt_lt, ← Int32.toInt_inj, Int32.reduceToInt] at hc43_2 ⊢; omega))
      refine own_iconst X (v := (0 : Int32)) (pc' := 181) d3_180 rfl (by decide) ?_
      subst hΦ
      refine own_retZ X d3_181 (by decide) (by decide) (by decide) ?_ rfl
      have q : own_sl [(c0 &&& (255 : Int32)), (c1 &&& (255 : Int32)), (c2 &&& (255 : Int32))] = 0 := by
        rw [Int32.lt_iff_toInt_lt] at hc10_1
        rw [Int32.lt_iff_toInt_lt] at hc43_2
        simp only [Int32.reduceToInt] at hc10_1 hc43_2
        show own_g 3 (c0 &&& (255 : Int32)) (c1 &&& (255 : Int32)) (c2 &&& (255 : Int32)) 0 = 0
        unfold own_g
        repeat' split
        all_goals first | rfl | omega
      rw [own_w0 q]
    · refine own_iload X (pc' := 48) d3_46 rfl rfl ?_
      refine own_sipush X (v := (223 : Int32)) (pc' := 51) d3_48 rfl (by decide) ?_
      refine own_icmp_gt X (pct := 60) (pc' := 54) d3_51 rfl (by decide) (by decide) (fun hc51_3 => ?_) (fun hc51_3 => ?_)
      · refine own_iload X (pc' := 62) d3_60 rfl rfl ?_
        refine own_sipush X (v := (224 : Int32)) (pc' := 65) d3_62 rfl (by decide) ?_
        refine own_icmp_lt X (pct := 120) (pc' := 68) d3_65 rfl (by decide) (by decide) (fun hc => absurd hc (by simp only [Int32.lt_iff_toInt_lt, ← Int32.toInt_inj, Int32.reduceToInt] at hc43_2 hc51_3 ⊢; omega)) (fun _ => ?_)
        refine own_iload X (pc' := 70) d3_68 rfl rfl ?_
        refine own_sipush X (v := (239 : Int32)) (pc' := 73) d3_70 rfl (by decide) ?_
        refine own_icmp_gt X (pct := 120) (pc' := 76) d3_73 rfl (by decide) (by decide) (fun hc73_4 => ?_) (fun hc73_4 => ?_)
        · refine own_iload X (pc' := 122) d3_120 rfl rfl ?_
          refine own_sipush X (v := (240 : Int32)) (pc' := 125) d3_122 rfl (by decide) ?_
          refine own_icmp_lt X (pct := 180) (pc' := 128) d3_125 rfl (by decide) (by decide) (fun hc => absurd hc (by simp only [Int32.lt_iff_toInt_lt, ← Int32.toInt_inj, Int32.reduceToInt] at hc43_2 hc51_3 hc73_4 ⊢; omega)) (fun _ => ?_)
          refine own_iload X (pc' := 130) d3_128 rfl rfl ?_
          refine own_sipush X (v := (244 : Int32)) (pc' := 133) d3_130 rfl (by decide) ?_
          refine own_icmp_gt X (pct := 180) (pc' := 136) d3_133 rfl (by decide) (by decide) (fun hc133_5 => ?_) (fun hc133_5 => ?_)
          · refine own_iconst X (v := (0 : Int32)) (pc' := 181) d3_180 rfl (by decide) ?_
            subst hΦ
            refine own_retZ X d3_181 (by decide) (by decide) (by decide) ?_ rfl
            have q : own_sl [(c0 &&& (255 : Int32)), (c1 &&& (255 : Int32)), (c2 &&& (255 : Int32))] = 0 := by
              rw [Int32.lt_iff_toInt_lt] at hc10_1
              rw [Int32.lt_iff_toInt_lt] at hc43_2
              rw [Int32.lt_iff_toInt_lt] at hc51_3
              rw [Int32.lt_iff_toInt_lt] at hc73_4
              rw [Int32.lt_iff_toInt_lt] at hc133_5
              simp only [Int32.reduceToInt] at hc10_1 hc43_2 hc51_3 hc73_4 hc133_5
              show own_g 3 (c0 &&& (255 : Int32)) (c1 &&& (255 : Int32)) (c2 &&& (255 : Int32)) 0 = 0
              unfold own_g
              repeat' split
              all_goals first | rfl | omega
            rw [own_w0 q]
          · refine own_iconst X (v := (4 : Int32)) (pc' := 137) d3_136 rfl (by decide) ?_
            refine own_istore X (pc' := 139) (Ls' := #[.val (.ref a), .val (.int fr), .val (.int to), .val (.int j), .val (.int (c0 &&& (255 : Int32))), .val (.int (4 : Int32)), .val (.int (128 : Int32)), .val (.int (191 : Int32)), s8, s9]) d3_137 rfl (XS.store1 (o := s5) rfl hs5 rfl) ?_
            refine own_iload X (pc' := 141) d3_139 rfl rfl ?_
            refine own_sipush X (v := (240 : Int32)) (pc' := 144) d3_141 rfl (by decide) ?_
            refine own_icmp_ne X (pct := 153) (pc' := 147) d3_144 rfl (by decide) (by decide) (fun hc144_6 => ?_) (fun hc144_6 => ?_)
            · refine own_sipush X (v := (128 : Int32)) (pc' := 156) d3_153 rfl (by decide) ?_
              refine own_istore X (pc' := 158) (Ls' := #[.val (.ref a), .val (.int fr), .val (.int to), .val (.int j), .val (.int (c0 &&& (255 : Int32))), .val (.int (4 : Int32)), .val (.int (128 : Int32)), .val (.int (191 : Int32)), s8, s9]) d3_156 rfl rfl ?_
              refine own_iload X (pc' := 160) d3_158 rfl rfl ?_
              refine own_sipush X (v := (244 : Int32)) (pc' := 163) d3_160 rfl (by decide) ?_
              refine own_icmp_ne X (pct := 172) (pc' := 166) d3_163 rfl (by decide) (by decide) (fun hc163_7 => ?_) (fun hc163_7 => ?_)
              · refine own_sipush X (v := (191 : Int32)) (pc' := 175) d3_172 rfl (by decide) ?_
                refine own_istore X (pc' := 177) (Ls' := #[.val (.ref a), .val (.int fr), .val (.int to), .val (.int j), .val (.int (c0 &&& (255 : Int32))), .val (.int (4 : Int32)), .val (.int (128 : Int32)), .val (.int (191 : Int32)), s8, s9]) d3_175 rfl rfl ?_
                refine own_goto X (pc' := 182) d3_177 (by decide) (by decide) ?_
                refine own_iloadN X (pc' := 183) d3_182 rfl rfl ?_
                refine own_iloadN X (pc' := 184) d3_183 rfl rfl ?_
                refine own_isub X (r := (to - j)) (pc' := 185) d3_184 rfl rfl ?_
                rw [hmj]
                refine own_iload X (pc' := 187) d3_185 rfl rfl ?_
                refine own_icmp_ge X (pct := 192) (pc' := 190) d3_187 rfl (by decide) (by decide) (fun hc => absurd hc (by decide)) (fun _ => ?_)
                refine own_iconst X (v := (0 : Int32)) (pc' := 191) d3_190 rfl (by decide) ?_
                subst hΦ
                refine own_retZ X d3_191 (by decide) (by decide) (by decide) ?_ rfl
                have q : own_sl [(c0 &&& (255 : Int32)), (c1 &&& (255 : Int32)), (c2 &&& (255 : Int32))] = 0 := by
                  rw [Int32.lt_iff_toInt_lt] at hc10_1
                  rw [Int32.lt_iff_toInt_lt] at hc43_2
                  rw [Int32.lt_iff_toInt_lt] at hc51_3
                  rw [Int32.lt_iff_toInt_lt] at hc73_4
                  rw [Int32.lt_iff_toInt_lt] at hc133_5
                  rw [← Int32.toInt_inj] at hc144_6
                  rw [← Int32.toInt_inj] at hc163_7
                  simp only [Int32.reduceToInt] at hc10_1 hc43_2 hc51_3 hc73_4 hc133_5 hc144_6 hc163_7
                  show own_g 3 (c0 &&& (255 : Int32)) (c1 &&& (255 : Int32)) (c2 &&& (255 : Int32)) 0 = 0
                  unfold own_g
                  repeat' split
                  all_goals first | rfl | omega
                rw [own_w0 q]
              · refine own_sipush X (v := (143 : Int32)) (pc' := 169) d3_166 rfl (by decide) ?_
                refine own_goto X (pc' := 175) d3_169 (by decide) (by decide) ?_
                refine own_istore X (pc' := 177) (Ls' := #[.val (.ref a), .val (.int fr), .val (.int to), .val (.int j), .val (.int (c0 &&& (255 : Int32))), .val (.int (4 : Int32)), .val (.int (128 : Int32)), .val (.int (143 : Int32)), s8, s9]) d3_175 rfl rfl ?_
                refine own_goto X (pc' := 182) d3_177 (by decide) (by decide) ?_
                refine own_iloadN X (pc' := 183) d3_182 rfl rfl ?_
                refine own_iloadN X (pc' := 184) d3_183 rfl rfl ?_
                refine own_isub X (r := (to - j)) (pc' := 185) d3_184 rfl rfl ?_
                rw [hmj]
                refine own_iload X (pc' := 187) d3_185 rfl rfl ?_
                refine own_icmp_ge X (pct := 192) (pc' := 190) d3_187 rfl (by decide) (by decide) (fun hc => absurd hc (by decide)) (fun _ => ?_)
                refine own_iconst X (v := (0 : Int32)) (pc' := 191) d3_190 rfl (by decide) ?_
                subst hΦ
                refine own_retZ X d3_191 (by decide) (by decide) (by decide) ?_ rfl
                have q : own_sl [(c0 &&& (255 : Int32)), (c1 &&& (255 : Int32)), (c2 &&& (255 : Int32))] = 0 := by
                  rw [Int32.lt_iff_toInt_lt] at hc10_1
                  rw [Int32.lt_iff_toInt_lt] at hc43_2
                  rw [Int32.lt_iff_toInt_lt] at hc51_3
                  rw [Int32.lt_iff_toInt_lt] at hc73_4
                  rw [Int32.lt_iff_toInt_lt] at hc133_5
                  rw [← Int32.toInt_inj] at hc144_6
                  rw [← Int32.toInt_inj] at hc163_7
                  simp only [Int32.reduceToInt] at hc10_1 hc43_2 hc51_3 hc73_4 hc133_5 hc144_6 hc163_7
                  show own_g 3 (c0 &&& (255 : Int32)) (c1 &&& (255 : Int32)) (c2 &&& (255 : Int32)) 0 = 0
                  unfold own_g
                  repeat' split
                  all_goals first | rfl | omega
                rw [own_w0 q]
            · refine own_sipush X (v := (144 : Int32)) (pc' := 150) d3_147 rfl (by decide) ?_
              refine own_goto X (pc' := 156) d3_150 (by decide) (by decide) ?_
              refine own_istore X (pc' := 158) (Ls' := #[.val (.ref a), .val (.int fr), .val (.int to), .val (.int j), .val (.int (c0 &&& (255 : Int32))), .val (.int (4 : Int32)), .val (.int (144 : Int32)), .val (.int (191 : Int32)), s8, s9]) d3_156 rfl rfl ?_
              refine own_iload X (pc' := 160) d3_158 rfl rfl ?_
              refine own_sipush X (v := (244 : Int32)) (pc' := 163) d3_160 rfl (by decide) ?_
              refine own_icmp_ne X (pct := 172) (pc' := 166) d3_163 rfl (by decide) (by decide) (fun _ => ?_) (fun hc => absurd hc (by simp only [Int32.lt_iff_toInt_lt, ← Int32.toInt_inj, Int32.reduceToInt] at hc43_2 hc51_3 hc73_4 hc133_5 hc144_6 ⊢; omega))
              refine own_sipush X (v := (191 : Int32)) (pc' := 175) d3_172 rfl (by decide) ?_
              refine own_istore X (pc' := 177) (Ls' := #[.val (.ref a), .val (.int fr), .val (.int to), .val (.int j), .val (.int (c0 &&& (255 : Int32))), .val (.int (4 : Int32)), .val (.int (144 : Int32)), .val (.int (191 : Int32)), s8, s9]) d3_175 rfl rfl ?_
              refine own_goto X (pc' := 182) d3_177 (by decide) (by decide) ?_
              refine own_iloadN X (pc' := 183) d3_182 rfl rfl ?_
              refine own_iloadN X (pc' := 184) d3_183 rfl rfl ?_
              refine own_isub X (r := (to - j)) (pc' := 185) d3_184 rfl rfl ?_
              rw [hmj]
              refine own_iload X (pc' := 187) d3_185 rfl rfl ?_
              refine own_icmp_ge X (pct := 192) (pc' := 190) d3_187 rfl (by decide) (by decide) (fun hc => absurd hc (by decide)) (fun _ => ?_)
              refine own_iconst X (v := (0 : Int32)) (pc' := 191) d3_190 rfl (by decide) ?_
              subst hΦ
              refine own_retZ X d3_191 (by decide) (by decide) (by decide) ?_ rfl
              have q : own_sl [(c0 &&& (255 : Int32)), (c1 &&& (255 : Int32)), (c2 &&& (255 : Int32))] = 0 := by
                rw [Int32.lt_iff_toInt_lt] at hc10_1
                rw [Int32.lt_iff_toInt_lt] at hc43_2
                rw [Int32.lt_iff_toInt_lt] at hc51_3
                rw [Int32.lt_iff_toInt_lt] at hc73_4
                rw [Int32.lt_iff_toInt_lt] at hc133_5
                rw [← Int32.toInt_inj] at hc144_6
                simp only [Int32.reduceToInt] at hc10_1 hc43_2 hc51_3 hc73_4 hc133_5 hc144_6
                show own_g 3 (c0 &&& (255 : Int32)) (c1 &&& (255 : Int32)) (c2 &&& (255 : Int32)) 0 = 0
                unfold own_g
                repeat' split
                all_goals first | rfl | omega
              rw [own_w0 q]
        · refine own_iconst X (v := (3 : Int32)) (pc' := 77) d3_76 rfl (by decide) ?_
          refine own_istore X (pc' := 79) (Ls' := #[.val (.ref a), .val (.int fr), .val (.int to), .val (.int j), .val (.int (c0 &&& (255 : Int32))), .val (.int (3 : Int32)), .val (.int (128 : Int32)), .val (.int (191 : Int32)), s8, s9]) d3_77 rfl (XS.store1 (o := s5) rfl hs5 rfl) ?_
          refine own_iload X (pc' := 81) d3_79 rfl rfl ?_
          refine own_sipush X (v := (224 : Int32)) (pc' := 84) d3_81 rfl (by decide) ?_
          refine own_icmp_ne X (pct := 93) (pc' := 87) d3_84 rfl (by decide) (by decide) (fun hc84_8 => ?_) (fun hc84_8 => ?_)
          · refine own_sipush X (v := (128 : Int32)) (pc' := 96) d3_93 rfl (by decide) ?_
            refine own_istore X (pc' := 98) (Ls' := #[.val (.ref a), .val (.int fr), .val (.int to), .val (.int j), .val (.int (c0 &&& (255 : Int32))), .val (.int (3 : Int32)), .val (.int (128 : Int32)), .val (.int (191 : Int32)), s8, s9]) d3_96 rfl rfl ?_
            refine own_iload X (pc' := 100) d3_98 rfl rfl ?_
            refine own_sipush X (v := (237 : Int32)) (pc' := 103) d3_100 rfl (by decide) ?_
            refine own_icmp_ne X (pct := 112) (pc' := 106) d3_103 rfl (by decide) (by decide) (fun hc103_9 => ?_) (fun hc103_9 => ?_)
            · refine own_sipush X (v := (191 : Int32)) (pc' := 115) d3_112 rfl (by decide) ?_
              refine own_istore X (pc' := 117) (Ls' := #[.val (.ref a), .val (.int fr), .val (.int to), .val (.int j), .val (.int (c0 &&& (255 : Int32))), .val (.int (3 : Int32)), .val (.int (128 : Int32)), .val (.int (191 : Int32)), s8, s9]) d3_115 rfl rfl ?_
              refine own_goto X (pc' := 182) d3_117 (by decide) (by decide) ?_
              refine own_iloadN X (pc' := 183) d3_182 rfl rfl ?_
              refine own_iloadN X (pc' := 184) d3_183 rfl rfl ?_
              refine own_isub X (r := (to - j)) (pc' := 185) d3_184 rfl rfl ?_
              rw [hmj]
              refine own_iload X (pc' := 187) d3_185 rfl rfl ?_
              refine own_icmp_ge X (pct := 192) (pc' := 190) d3_187 rfl (by decide) (by decide) (fun _ => ?_) (fun hc => absurd hc (by decide))
              refine own_aloadN X (pc' := 193) d3_192 rfl rfl rfl ?_
              refine own_iloadN X (pc' := 194) d3_193 rfl rfl ?_
              refine own_iconst X (v := (1 : Int32)) (pc' := 195) d3_194 rfl (by decide) ?_
              refine own_iadd X (r := (j + (1 : Int32))) (pc' := 196) d3_195 rfl rfl ?_
              refine own_baload X (v := c1) (pc' := 197) A G1.1 G1.2 d3_196 rfl ?_
              refine own_sipush X (v := (255 : Int32)) (pc' := 200) d3_197 rfl (by decide) ?_
              refine own_iand X (r := (c1 &&& (255 : Int32))) (pc' := 201) d3_200 rfl rfl ?_
              refine own_istore X (pc' := 203) (Ls' := #[.val (.ref a), .val (.int fr), .val (.int to), .val (.int j), .val (.int (c0 &&& (255 : Int32))), .val (.int (3 : Int32)), .val (.int (128 : Int32)), .val (.int (191 : Int32)), .val (.int (c1 &&& (255 : Int32))), s9]) d3_201 rfl (XS.store1 (o := s8) rfl hs8 rfl) ?_
              refine own_iload X (pc' := 205) d3_203 rfl rfl ?_
              refine own_iload X (pc' := 207) d3_205 rfl rfl ?_
              refine own_icmp_lt X (pct := 217) (pc' := 210) d3_207 rfl (by decide) (by decide) (fun hc207_10 => ?_) (fun hc207_10 => ?_)
              · refine own_iconst X (v := (0 : Int32)) (pc' := 218) d3_217 rfl (by decide) ?_
                subst hΦ
                refine own_retZ X d3_218 (by decide) (by decide) (by decide) ?_ rfl
                have q : own_sl [(c0 &&& (255 : Int32)), (c1 &&& (255 : Int32)), (c2 &&& (255 : Int32))] = 0 := by
                  rw [Int32.lt_iff_toInt_lt] at hc10_1
                  rw [Int32.lt_iff_toInt_lt] at hc43_2
                  rw [Int32.lt_iff_toInt_lt] at hc51_3
                  rw [Int32.lt_iff_toInt_lt] at hc73_4
                  rw [← Int32.toInt_inj] at hc84_8
                  rw [← Int32.toInt_inj] at hc103_9
                  rw [Int32.lt_iff_toInt_lt] at hc207_10
                  simp only [Int32.reduceToInt] at hc10_1 hc43_2 hc51_3 hc73_4 hc84_8 hc103_9 hc207_10
                  show own_g 3 (c0 &&& (255 : Int32)) (c1 &&& (255 : Int32)) (c2 &&& (255 : Int32)) 0 = 0
                  unfold own_g
                  repeat' split
                  all_goals first | rfl | omega
                rw [own_w0 q]
              · refine own_iload X (pc' := 212) d3_210 rfl rfl ?_
                refine own_iload X (pc' := 214) d3_212 rfl rfl ?_
                refine own_icmp_le X (pct := 219) (pc' := 217) d3_214 rfl (by decide) (by decide) (fun hc214_11 => ?_) (fun hc214_11 => ?_)
                · refine own_iconst X (v := (2 : Int32)) (pc' := 220) d3_219 rfl (by decide) ?_
                  refine own_istore X (pc' := 222) (Ls' := #[.val (.ref a), .val (.int fr), .val (.int to), .val (.int j), .val (.int (c0 &&& (255 : Int32))), .val (.int (3 : Int32)), .val (.int (128 : Int32)), .val (.int (191 : Int32)), .val (.int (c1 &&& (255 : Int32))), .val (.int (2 : Int32))]) d3_220 rfl (XS.store1 (o := s9) rfl hs9 rfl) ?_
                  refine own_iload X (pc' := 224) d3_222 rfl rfl ?_
                  refine own_iload X (pc' := 226) d3_224 rfl rfl ?_
                  refine own_icmp_ge X (pct := 253) (pc' := 229) d3_226 rfl (by decide) (by decide) (fun hc => absurd hc (by decide)) (fun _ => ?_)
                  refine own_aloadN X (pc' := 230) d3_229 rfl rfl rfl ?_
                  refine own_iloadN X (pc' := 231) d3_230 rfl rfl ?_
                  refine own_iload X (pc' := 233) d3_231 rfl rfl ?_
                  refine own_iadd X (r := (j + (2 : Int32))) (pc' := 234) d3_233 rfl rfl ?_
                  refine own_baload X (v := c2) (pc' := 235) A G2.1 G2.2 d3_234 rfl ?_
                  refine own_sipush X (v := (192 : Int32)) (pc' := 238) d3_235 rfl (by decide) ?_
                  refine own_iand X (r := (c2 &&& (192 : Int32))) (pc' := 239) d3_238 rfl rfl ?_
                  refine own_sipush X (v := (128 : Int32)) (pc' := 242) d3_239 rfl (by decide) ?_
                  refine own_icmp_eq X (pct := 247) (pc' := 245) d3_242 rfl (by decide) (by decide) (fun hc242_12 => ?_) (fun hc242_12 => ?_)
                  · refine own_iinc X (pc' := 250) (Ls' := #[.val (.ref a), .val (.int fr), .val (.int to), .val (.int j), .val (.int (c0 &&& (255 : Int32))), .val (.int (3 : Int32)), .val (.int (128 : Int32)), .val (.int (191 : Int32)), .val (.int (c1 &&& (255 : Int32))), .val (.int (3 : Int32))]) (w := (3 : Int32)) d3_247 rfl rfl (by decide) rfl ?_
                    refine own_goto X (pc' := 222) d3_250 (by decide) (by decide) ?_
                    refine own_iload X (pc' := 224) d3_222 rfl rfl ?_
                    refine own_iload X (pc' := 226) d3_224 rfl rfl ?_
                    refine own_icmp_ge X (pct := 253) (pc' := 229) d3_226 rfl (by decide) (by decide) (fun _ => ?_) (fun hc => absurd hc (by decide))
                    refine own_iloadN X (pc' := 254) d3_253 rfl rfl ?_
                    refine own_iload X (pc' := 256) d3_254 rfl rfl ?_
                    refine own_iadd X (r := (j + (3 : Int32))) (pc' := 257) d3_256 rfl rfl ?_
                    refine own_istoreN X (pc' := 258) (Ls' := #[.val (.ref a), .val (.int fr), .val (.int to), .val (.int (j + (3 : Int32))), .val (.int (c0 &&& (255 : Int32))), .val (.int (3 : Int32)), .val (.int (128 : Int32)), .val (.int (191 : Int32)), .val (.int (c1 &&& (255 : Int32))), .val (.int (3 : Int32))]) d3_257 rfl rfl ?_
                    refine own_goto X (pc' := 2) d3_258 (by decide) (by decide) ?_
                    have q : own_sl [(c0 &&& (255 : Int32)), (c1 &&& (255 : Int32)), (c2 &&& (255 : Int32))] = 3 := by
                      rw [Int32.lt_iff_toInt_lt] at hc10_1
                      rw [Int32.lt_iff_toInt_lt] at hc43_2
                      rw [Int32.lt_iff_toInt_lt] at hc51_3
                      rw [Int32.lt_iff_toInt_lt] at hc73_4
                      rw [← Int32.toInt_inj] at hc84_8
                      rw [← Int32.toInt_inj] at hc103_9
                      rw [Int32.lt_iff_toInt_lt] at hc207_10
                      rw [Int32.lt_iff_toInt_lt] at hc214_11
                      rw [k2] at hc242_12
                      simp only [Int32.reduceToInt] at hc10_1 hc43_2 hc51_3 hc73_4 hc84_8 hc103_9 hc207_10 hc214_11
                      show own_g 3 (c0 &&& (255 : Int32)) (c1 &&& (255 : Int32)) (c2 &&& (255 : Int32)) 0 = 3
                      unfold own_g
                      repeat' split
                      all_goals first | rfl | omega
                    subst hΦ
                    rw [show own_w (f + 3) [(c0 &&& (255 : Int32)), (c1 &&& (255 : Int32)), (c2 &&& (255 : Int32))] = own_w (f + 2 + 0) [] from own_wc q (by decide) rfl]
                    exact wf_0 l Z n0 X A fr to (j + (3 : Int32))  (f + 2) (.val (.int (c0 &&& (255 : Int32)))) (.val (.int (3 : Int32))) (.val (.int (128 : Int32))) (.val (.int (191 : Int32))) (.val (.int (c1 &&& (255 : Int32)))) (.val (.int (3 : Int32))) (One.val rfl) (One.val rfl) (One.val rfl) (One.val rfl) (One.val rfl) (One.val rfl) (by rw [own_ad j 3 (by omega) (by decide)]; simp only [Int32.reduceToInt]; omega) (fun t i ht hi => by rw [own_ad j 3 (by omega) (by decide)] at hi; simp only [Int32.reduceToInt] at hi; exact H (t + 3) i (by omega) (by omega)) 
                  · refine own_iconst X (v := (0 : Int32)) (pc' := 246) d3_245 rfl (by decide) ?_
                    subst hΦ
                    refine own_retZ X d3_246 (by decide) (by decide) (by decide) ?_ rfl
                    have q : own_sl [(c0 &&& (255 : Int32)), (c1 &&& (255 : Int32)), (c2 &&& (255 : Int32))] = 0 := by
                      rw [Int32.lt_iff_toInt_lt] at hc10_1
                      rw [Int32.lt_iff_toInt_lt] at hc43_2
                      rw [Int32.lt_iff_toInt_lt] at hc51_3
                      rw [Int32.lt_iff_toInt_lt] at hc73_4
                      rw [← Int32.toInt_inj] at hc84_8
                      rw [← Int32.toInt_inj] at hc103_9
                      rw [Int32.lt_iff_toInt_lt] at hc207_10
                      rw [Int32.lt_iff_toInt_lt] at hc214_11
                      rw [k2] at hc242_12
                      simp only [Int32.reduceToInt] at hc10_1 hc43_2 hc51_3 hc73_4 hc84_8 hc103_9 hc207_10 hc214_11
                      show own_g 3 (c0 &&& (255 : Int32)) (c1 &&& (255 : Int32)) (c2 &&& (255 : Int32)) 0 = 0
                      unfold own_g
                      repeat' split
                      all_goals first | rfl | omega
                    rw [own_w0 q]
                · refine own_iconst X (v := (0 : Int32)) (pc' := 218) d3_217 rfl (by decide) ?_
                  subst hΦ
                  refine own_retZ X d3_218 (by decide) (by decide) (by decide) ?_ rfl
                  have q : own_sl [(c0 &&& (255 : Int32)), (c1 &&& (255 : Int32)), (c2 &&& (255 : Int32))] = 0 := by
                    rw [Int32.lt_iff_toInt_lt] at hc10_1
                    rw [Int32.lt_iff_toInt_lt] at hc43_2
                    rw [Int32.lt_iff_toInt_lt] at hc51_3
                    rw [Int32.lt_iff_toInt_lt] at hc73_4
                    rw [← Int32.toInt_inj] at hc84_8
                    rw [← Int32.toInt_inj] at hc103_9
                    rw [Int32.lt_iff_toInt_lt] at hc207_10
                    rw [Int32.lt_iff_toInt_lt] at hc214_11
                    simp only [Int32.reduceToInt] at hc10_1 hc43_2 hc51_3 hc73_4 hc84_8 hc103_9 hc207_10 hc214_11
                    show own_g 3 (c0 &&& (255 : Int32)) (c1 &&& (255 : Int32)) (c2 &&& (255 : Int32)) 0 = 0
                    unfold own_g
                    repeat' split
                    all_goals first | rfl | omega
                  rw [own_w0 q]
            · refine own_sipush X (v := (159 : Int32)) (pc' := 109) d3_106 rfl (by decide) ?_
              refine own_goto X (pc' := 115) d3_109 (by decide) (by decide) ?_
              refine own_istore X (pc' := 117) (Ls' := #[.val (.ref a), .val (.int fr), .val (.int to), .val (.int j), .val (.int (c0 &&& (255 : Int32))), .val (.int (3 : Int32)), .val (.int (128 : Int32)), .val (.int (159 : Int32)), s8, s9]) d3_115 rfl rfl ?_
              refine own_goto X (pc' := 182) d3_117 (by decide) (by decide) ?_
              refine own_iloadN X (pc' := 183) d3_182 rfl rfl ?_
              refine own_iloadN X (pc' := 184) d3_183 rfl rfl ?_
              refine own_isub X (r := (to - j)) (pc' := 185) d3_184 rfl rfl ?_
              rw [hmj]
              refine own_iload X (pc' := 187) d3_185 rfl rfl ?_
              refine own_icmp_ge X (pct := 192) (pc' := 190) d3_187 rfl (by decide) (by decide) (fun _ => ?_) (fun hc => absurd hc (by decide))
              refine own_aloadN X (pc' := 193) d3_192 rfl rfl rfl ?_
              refine own_iloadN X (pc' := 194) d3_193 rfl rfl ?_
              refine own_iconst X (v := (1 : Int32)) (pc' := 195) d3_194 rfl (by decide) ?_
              refine own_iadd X (r := (j + (1 : Int32))) (pc' := 196) d3_195 rfl rfl ?_
              refine own_baload X (v := c1) (pc' := 197) A G1.1 G1.2 d3_196 rfl ?_
              refine own_sipush X (v := (255 : Int32)) (pc' := 200) d3_197 rfl (by decide) ?_
              refine own_iand X (r := (c1 &&& (255 : Int32))) (pc' := 201) d3_200 rfl rfl ?_
              refine own_istore X (pc' := 203) (Ls' := #[.val (.ref a), .val (.int fr), .val (.int to), .val (.int j), .val (.int (c0 &&& (255 : Int32))), .val (.int (3 : Int32)), .val (.int (128 : Int32)), .val (.int (159 : Int32)), .val (.int (c1 &&& (255 : Int32))), s9]) d3_201 rfl (XS.store1 (o := s8) rfl hs8 rfl) ?_
              refine own_iload X (pc' := 205) d3_203 rfl rfl ?_
              refine own_iload X (pc' := 207) d3_205 rfl rfl ?_
              refine own_icmp_lt X (pct := 217) (pc' := 210) d3_207 rfl (by decide) (by decide) (fun hc207_13 => ?_) (fun hc207_13 => ?_)
              · refine own_iconst X (v := (0 : Int32)) (pc' := 218) d3_217 rfl (by decide) ?_
                subst hΦ
                refine own_retZ X d3_218 (by decide) (by decide) (by decide) ?_ rfl
                have q : own_sl [(c0 &&& (255 : Int32)), (c1 &&& (255 : Int32)), (c2 &&& (255 : Int32))] = 0 := by
                  rw [Int32.lt_iff_toInt_lt] at hc10_1
                  rw [Int32.lt_iff_toInt_lt] at hc43_2
                  rw [Int32.lt_iff_toInt_lt] at hc51_3
                  rw [Int32.lt_iff_toInt_lt] at hc73_4
                  rw [← Int32.toInt_inj] at hc84_8
                  rw [← Int32.toInt_inj] at hc103_9
                  rw [Int32.lt_iff_toInt_lt] at hc207_13
                  simp only [Int32.reduceToInt] at hc10_1 hc43_2 hc51_3 hc73_4 hc84_8 hc103_9 hc207_13
                  show own_g 3 (c0 &&& (255 : Int32)) (c1 &&& (255 : Int32)) (c2 &&& (255 : Int32)) 0 = 0
                  unfold own_g
                  repeat' split
                  all_goals first | rfl | omega
                rw [own_w0 q]
              · refine own_iload X (pc' := 212) d3_210 rfl rfl ?_
                refine own_iload X (pc' := 214) d3_212 rfl rfl ?_
                refine own_icmp_le X (pct := 219) (pc' := 217) d3_214 rfl (by decide) (by decide) (fun hc214_14 => ?_) (fun hc214_14 => ?_)
                · refine own_iconst X (v := (2 : Int32)) (pc' := 220) d3_219 rfl (by decide) ?_
                  refine own_istore X (pc' := 222) (Ls' := #[.val (.ref a), .val (.int fr), .val (.int to), .val (.int j), .val (.int (c0 &&& (255 : Int32))), .val (.int (3 : Int32)), .val (.int (128 : Int32)), .val (.int (159 : Int32)), .val (.int (c1 &&& (255 : Int32))), .val (.int (2 : Int32))]) d3_220 rfl (XS.store1 (o := s9) rfl hs9 rfl) ?_
                  refine own_iload X (pc' := 224) d3_222 rfl rfl ?_
                  refine own_iload X (pc' := 226) d3_224 rfl rfl ?_
                  refine own_icmp_ge X (pct := 253) (pc' := 229) d3_226 rfl (by decide) (by decide) (fun hc => absurd hc (by decide)) (fun _ => ?_)
                  refine own_aloadN X (pc' := 230) d3_229 rfl rfl rfl ?_
                  refine own_iloadN X (pc' := 231) d3_230 rfl rfl ?_
                  refine own_iload X (pc' := 233) d3_231 rfl rfl ?_
                  refine own_iadd X (r := (j + (2 : Int32))) (pc' := 234) d3_233 rfl rfl ?_
                  refine own_baload X (v := c2) (pc' := 235) A G2.1 G2.2 d3_234 rfl ?_
                  refine own_sipush X (v := (192 : Int32)) (pc' := 238) d3_235 rfl (by decide) ?_
                  refine own_iand X (r := (c2 &&& (192 : Int32))) (pc' := 239) d3_238 rfl rfl ?_
                  refine own_sipush X (v := (128 : Int32)) (pc' := 242) d3_239 rfl (by decide) ?_
                  refine own_icmp_eq X (pct := 247) (pc' := 245) d3_242 rfl (by decide) (by decide) (fun hc242_15 => ?_) (fun hc242_15 => ?_)
                  · refine own_iinc X (pc' := 250) (Ls' := #[.val (.ref a), .val (.int fr), .val (.int to), .val (.int j), .val (.int (c0 &&& (255 : Int32))), .val (.int (3 : Int32)), .val (.int (128 : Int32)), .val (.int (159 : Int32)), .val (.int (c1 &&& (255 : Int32))), .val (.int (3 : Int32))]) (w := (3 : Int32)) d3_247 rfl rfl (by decide) rfl ?_
                    refine own_goto X (pc' := 222) d3_250 (by decide) (by decide) ?_
                    refine own_iload X (pc' := 224) d3_222 rfl rfl ?_
                    refine own_iload X (pc' := 226) d3_224 rfl rfl ?_
                    refine own_icmp_ge X (pct := 253) (pc' := 229) d3_226 rfl (by decide) (by decide) (fun _ => ?_) (fun hc => absurd hc (by decide))
                    refine own_iloadN X (pc' := 254) d3_253 rfl rfl ?_
                    refine own_iload X (pc' := 256) d3_254 rfl rfl ?_
                    refine own_iadd X (r := (j + (3 : Int32))) (pc' := 257) d3_256 rfl rfl ?_
                    refine own_istoreN X (pc' := 258) (Ls' := #[.val (.ref a), .val (.int fr), .val (.int to), .val (.int (j + (3 : Int32))), .val (.int (c0 &&& (255 : Int32))), .val (.int (3 : Int32)), .val (.int (128 : Int32)), .val (.int (159 : Int32)), .val (.int (c1 &&& (255 : Int32))), .val (.int (3 : Int32))]) d3_257 rfl rfl ?_
                    refine own_goto X (pc' := 2) d3_258 (by decide) (by decide) ?_
                    have q : own_sl [(c0 &&& (255 : Int32)), (c1 &&& (255 : Int32)), (c2 &&& (255 : Int32))] = 3 := by
                      rw [Int32.lt_iff_toInt_lt] at hc10_1
                      rw [Int32.lt_iff_toInt_lt] at hc43_2
                      rw [Int32.lt_iff_toInt_lt] at hc51_3
                      rw [Int32.lt_iff_toInt_lt] at hc73_4
                      rw [← Int32.toInt_inj] at hc84_8
                      rw [← Int32.toInt_inj] at hc103_9
                      rw [Int32.lt_iff_toInt_lt] at hc207_13
                      rw [Int32.lt_iff_toInt_lt] at hc214_14
                      rw [k2] at hc242_15
                      simp only [Int32.reduceToInt] at hc10_1 hc43_2 hc51_3 hc73_4 hc84_8 hc103_9 hc207_13 hc214_14
                      show own_g 3 (c0 &&& (255 : Int32)) (c1 &&& (255 : Int32)) (c2 &&& (255 : Int32)) 0 = 3
                      unfold own_g
                      repeat' split
                      all_goals first | rfl | omega
                    subst hΦ
                    rw [show own_w (f + 3) [(c0 &&& (255 : Int32)), (c1 &&& (255 : Int32)), (c2 &&& (255 : Int32))] = own_w (f + 2 + 0) [] from own_wc q (by decide) rfl]
                    exact wf_0 l Z n0 X A fr to (j + (3 : Int32))  (f + 2) (.val (.int (c0 &&& (255 : Int32)))) (.val (.int (3 : Int32))) (.val (.int (128 : Int32))) (.val (.int (159 : Int32))) (.val (.int (c1 &&& (255 : Int32)))) (.val (.int (3 : Int32))) (One.val rfl) (One.val rfl) (One.val rfl) (One.val rfl) (One.val rfl) (One.val rfl) (by rw [own_ad j 3 (by omega) (by decide)]; simp only [Int32.reduceToInt]; omega) (fun t i ht hi => by rw [own_ad j 3 (by omega) (by decide)] at hi; simp only [Int32.reduceToInt] at hi; exact H (t + 3) i (by omega) (by omega)) 
                  · refine own_iconst X (v := (0 : Int32)) (pc' := 246) d3_245 rfl (by decide) ?_
                    subst hΦ
                    refine own_retZ X d3_246 (by decide) (by decide) (by decide) ?_ rfl
                    have q : own_sl [(c0 &&& (255 : Int32)), (c1 &&& (255 : Int32)), (c2 &&& (255 : Int32))] = 0 := by
                      rw [Int32.lt_iff_toInt_lt] at hc10_1
                      rw [Int32.lt_iff_toInt_lt] at hc43_2
                      rw [Int32.lt_iff_toInt_lt] at hc51_3
                      rw [Int32.lt_iff_toInt_lt] at hc73_4
                      rw [← Int32.toInt_inj] at hc84_8
                      rw [← Int32.toInt_inj] at hc103_9
                      rw [Int32.lt_iff_toInt_lt] at hc207_13
                      rw [Int32.lt_iff_toInt_lt] at hc214_14
                      rw [k2] at hc242_15
                      simp only [Int32.reduceToInt] at hc10_1 hc43_2 hc51_3 hc73_4 hc84_8 hc103_9 hc207_13 hc214_14
                      show own_g 3 (c0 &&& (255 : Int32)) (c1 &&& (255 : Int32)) (c2 &&& (255 : Int32)) 0 = 0
                      unfold own_g
                      repeat' split
                      all_goals first | rfl | omega
                    rw [own_w0 q]
                · refine own_iconst X (v := (0 : Int32)) (pc' := 218) d3_217 rfl (by decide) ?_
                  subst hΦ
                  refine own_retZ X d3_218 (by decide) (by decide) (by decide) ?_ rfl
                  have q : own_sl [(c0 &&& (255 : Int32)), (c1 &&& (255 : Int32)), (c2 &&& (255 : Int32))] = 0 := by
                    rw [Int32.lt_iff_toInt_lt] at hc10_1
                    rw [Int32.lt_iff_toInt_lt] at hc43_2
                    rw [Int32.lt_iff_toInt_lt] at hc51_3
                    rw [Int32.lt_iff_toInt_lt] at hc73_4
                    rw [← Int32.toInt_inj] at hc84_8
                    rw [← Int32.toInt_inj] at hc103_9
                    rw [Int32.lt_iff_toInt_lt] at hc207_13
                    rw [Int32.lt_iff_toInt_lt] at hc214_14
                    simp only [Int32.reduceToInt] at hc10_1 hc43_2 hc51_3 hc73_4 hc84_8 hc103_9 hc207_13 hc214_14
                    show own_g 3 (c0 &&& (255 : Int32)) (c1 &&& (255 : Int32)) (c2 &&& (255 : Int32)) 0 = 0
                    unfold own_g
                    repeat' split
                    all_goals first | rfl | omega
                  rw [own_w0 q]
          · refine own_sipush X (v := (160 : Int32)) (pc' := 90) d3_87 rfl (by decide) ?_
            refine own_goto X (pc' := 96) d3_90 (by decide) (by decide) ?_
            refine own_istore X (pc' := 98) (Ls' := #[.val (.ref a), .val (.int fr), .val (.int to), .val (.int j), .val (.int (c0 &&& (255 : Int32))), .val (.int (3 : Int32)), .val (.int (160 : Int32)), .val (.int (191 : Int32)), s8, s9]) d3_96 rfl rfl ?_
            refine own_iload X (pc' := 100) d3_98 rfl rfl ?_
            refine own_sipush X (v := (237 : Int32)) (pc' := 103) d3_100 rfl (by decide) ?_
            refine own_icmp_ne X (pct := 112) (pc' := 106) d3_103 rfl (by decide) (by decide) (fun _ => ?_) (fun hc => absurd hc (by simp only [Int32.lt_iff_toInt_lt, ← Int32.toInt_inj, Int32.reduceToInt] at hc43_2 hc51_3 hc73_4 hc84_8 ⊢; omega))
            refine own_sipush X (v := (191 : Int32)) (pc' := 115) d3_112 rfl (by decide) ?_
            refine own_istore X (pc' := 117) (Ls' := #[.val (.ref a), .val (.int fr), .val (.int to), .val (.int j), .val (.int (c0 &&& (255 : Int32))), .val (.int (3 : Int32)), .val (.int (160 : Int32)), .val (.int (191 : Int32)), s8, s9]) d3_115 rfl rfl ?_
            refine own_goto X (pc' := 182) d3_117 (by decide) (by decide) ?_
            refine own_iloadN X (pc' := 183) d3_182 rfl rfl ?_
            refine own_iloadN X (pc' := 184) d3_183 rfl rfl ?_
            refine own_isub X (r := (to - j)) (pc' := 185) d3_184 rfl rfl ?_
            rw [hmj]
            refine own_iload X (pc' := 187) d3_185 rfl rfl ?_
            refine own_icmp_ge X (pct := 192) (pc' := 190) d3_187 rfl (by decide) (by decide) (fun _ => ?_) (fun hc => absurd hc (by decide))
            refine own_aloadN X (pc' := 193) d3_192 rfl rfl rfl ?_
            refine own_iloadN X (pc' := 194) d3_193 rfl rfl ?_
            refine own_iconst X (v := (1 : Int32)) (pc' := 195) d3_194 rfl (by decide) ?_
            refine own_iadd X (r := (j + (1 : Int32))) (pc' := 196) d3_195 rfl rfl ?_
            refine own_baload X (v := c1) (pc' := 197) A G1.1 G1.2 d3_196 rfl ?_
            refine own_sipush X (v := (255 : Int32)) (pc' := 200) d3_197 rfl (by decide) ?_
            refine own_iand X (r := (c1 &&& (255 : Int32))) (pc' := 201) d3_200 rfl rfl ?_
            refine own_istore X (pc' := 203) (Ls' := #[.val (.ref a), .val (.int fr), .val (.int to), .val (.int j), .val (.int (c0 &&& (255 : Int32))), .val (.int (3 : Int32)), .val (.int (160 : Int32)), .val (.int (191 : Int32)), .val (.int (c1 &&& (255 : Int32))), s9]) d3_201 rfl (XS.store1 (o := s8) rfl hs8 rfl) ?_
            refine own_iload X (pc' := 205) d3_203 rfl rfl ?_
            refine own_iload X (pc' := 207) d3_205 rfl rfl ?_
            refine own_icmp_lt X (pct := 217) (pc' := 210) d3_207 rfl (by decide) (by decide) (fun hc207_16 => ?_) (fun hc207_16 => ?_)
            · refine own_iconst X (v := (0 : Int32)) (pc' := 218) d3_217 rfl (by decide) ?_
              subst hΦ
              refine own_retZ X d3_218 (by decide) (by decide) (by decide) ?_ rfl
              have q : own_sl [(c0 &&& (255 : Int32)), (c1 &&& (255 : Int32)), (c2 &&& (255 : Int32))] = 0 := by
                rw [Int32.lt_iff_toInt_lt] at hc10_1
                rw [Int32.lt_iff_toInt_lt] at hc43_2
                rw [Int32.lt_iff_toInt_lt] at hc51_3
                rw [Int32.lt_iff_toInt_lt] at hc73_4
                rw [← Int32.toInt_inj] at hc84_8
                rw [Int32.lt_iff_toInt_lt] at hc207_16
                simp only [Int32.reduceToInt] at hc10_1 hc43_2 hc51_3 hc73_4 hc84_8 hc207_16
                show own_g 3 (c0 &&& (255 : Int32)) (c1 &&& (255 : Int32)) (c2 &&& (255 : Int32)) 0 = 0
                unfold own_g
                repeat' split
                all_goals first | rfl | omega
              rw [own_w0 q]
            · refine own_iload X (pc' := 212) d3_210 rfl rfl ?_
              refine own_iload X (pc' := 214) d3_212 rfl rfl ?_
              refine own_icmp_le X (pct := 219) (pc' := 217) d3_214 rfl (by decide) (by decide) (fun hc214_17 => ?_) (fun hc214_17 => ?_)
              · refine own_iconst X (v := (2 : Int32)) (pc' := 220) d3_219 rfl (by decide) ?_
                refine own_istore X (pc' := 222) (Ls' := #[.val (.ref a), .val (.int fr), .val (.int to), .val (.int j), .val (.int (c0 &&& (255 : Int32))), .val (.int (3 : Int32)), .val (.int (160 : Int32)), .val (.int (191 : Int32)), .val (.int (c1 &&& (255 : Int32))), .val (.int (2 : Int32))]) d3_220 rfl (XS.store1 (o := s9) rfl hs9 rfl) ?_
                refine own_iload X (pc' := 224) d3_222 rfl rfl ?_
                refine own_iload X (pc' := 226) d3_224 rfl rfl ?_
                refine own_icmp_ge X (pct := 253) (pc' := 229) d3_226 rfl (by decide) (by decide) (fun hc => absurd hc (by decide)) (fun _ => ?_)
                refine own_aloadN X (pc' := 230) d3_229 rfl rfl rfl ?_
                refine own_iloadN X (pc' := 231) d3_230 rfl rfl ?_
                refine own_iload X (pc' := 233) d3_231 rfl rfl ?_
                refine own_iadd X (r := (j + (2 : Int32))) (pc' := 234) d3_233 rfl rfl ?_
                refine own_baload X (v := c2) (pc' := 235) A G2.1 G2.2 d3_234 rfl ?_
                refine own_sipush X (v := (192 : Int32)) (pc' := 238) d3_235 rfl (by decide) ?_
                refine own_iand X (r := (c2 &&& (192 : Int32))) (pc' := 239) d3_238 rfl rfl ?_
                refine own_sipush X (v := (128 : Int32)) (pc' := 242) d3_239 rfl (by decide) ?_
                refine own_icmp_eq X (pct := 247) (pc' := 245) d3_242 rfl (by decide) (by decide) (fun hc242_18 => ?_) (fun hc242_18 => ?_)
                · refine own_iinc X (pc' := 250) (Ls' := #[.val (.ref a), .val (.int fr), .val (.int to), .val (.int j), .val (.int (c0 &&& (255 : Int32))), .val (.int (3 : Int32)), .val (.int (160 : Int32)), .val (.int (191 : Int32)), .val (.int (c1 &&& (255 : Int32))), .val (.int (3 : Int32))]) (w := (3 : Int32)) d3_247 rfl rfl (by decide) rfl ?_
                  refine own_goto X (pc' := 222) d3_250 (by decide) (by decide) ?_
                  refine own_iload X (pc' := 224) d3_222 rfl rfl ?_
                  refine own_iload X (pc' := 226) d3_224 rfl rfl ?_
                  refine own_icmp_ge X (pct := 253) (pc' := 229) d3_226 rfl (by decide) (by decide) (fun _ => ?_) (fun hc => absurd hc (by decide))
                  refine own_iloadN X (pc' := 254) d3_253 rfl rfl ?_
                  refine own_iload X (pc' := 256) d3_254 rfl rfl ?_
                  refine own_iadd X (r := (j + (3 : Int32))) (pc' := 257) d3_256 rfl rfl ?_
                  refine own_istoreN X (pc' := 258) (Ls' := #[.val (.ref a), .val (.int fr), .val (.int to), .val (.int (j + (3 : Int32))), .val (.int (c0 &&& (255 : Int32))), .val (.int (3 : Int32)), .val (.int (160 : Int32)), .val (.int (191 : Int32)), .val (.int (c1 &&& (255 : Int32))), .val (.int (3 : Int32))]) d3_257 rfl rfl ?_
                  refine own_goto X (pc' := 2) d3_258 (by decide) (by decide) ?_
                  have q : own_sl [(c0 &&& (255 : Int32)), (c1 &&& (255 : Int32)), (c2 &&& (255 : Int32))] = 3 := by
                    rw [Int32.lt_iff_toInt_lt] at hc10_1
                    rw [Int32.lt_iff_toInt_lt] at hc43_2
                    rw [Int32.lt_iff_toInt_lt] at hc51_3
                    rw [Int32.lt_iff_toInt_lt] at hc73_4
                    rw [← Int32.toInt_inj] at hc84_8
                    rw [Int32.lt_iff_toInt_lt] at hc207_16
                    rw [Int32.lt_iff_toInt_lt] at hc214_17
                    rw [k2] at hc242_18
                    simp only [Int32.reduceToInt] at hc10_1 hc43_2 hc51_3 hc73_4 hc84_8 hc207_16 hc214_17
                    show own_g 3 (c0 &&& (255 : Int32)) (c1 &&& (255 : Int32)) (c2 &&& (255 : Int32)) 0 = 3
                    unfold own_g
                    repeat' split
                    all_goals first | rfl | omega
                  subst hΦ
                  rw [show own_w (f + 3) [(c0 &&& (255 : Int32)), (c1 &&& (255 : Int32)), (c2 &&& (255 : Int32))] = own_w (f + 2 + 0) [] from own_wc q (by decide) rfl]
                  exact wf_0 l Z n0 X A fr to (j + (3 : Int32))  (f + 2) (.val (.int (c0 &&& (255 : Int32)))) (.val (.int (3 : Int32))) (.val (.int (160 : Int32))) (.val (.int (191 : Int32))) (.val (.int (c1 &&& (255 : Int32)))) (.val (.int (3 : Int32))) (One.val rfl) (One.val rfl) (One.val rfl) (One.val rfl) (One.val rfl) (One.val rfl) (by rw [own_ad j 3 (by omega) (by decide)]; simp only [Int32.reduceToInt]; omega) (fun t i ht hi => by rw [own_ad j 3 (by omega) (by decide)] at hi; simp only [Int32.reduceToInt] at hi; exact H (t + 3) i (by omega) (by omega)) 
                · refine own_iconst X (v := (0 : Int32)) (pc' := 246) d3_245 rfl (by decide) ?_
                  subst hΦ
                  refine own_retZ X d3_246 (by decide) (by decide) (by decide) ?_ rfl
                  have q : own_sl [(c0 &&& (255 : Int32)), (c1 &&& (255 : Int32)), (c2 &&& (255 : Int32))] = 0 := by
                    rw [Int32.lt_iff_toInt_lt] at hc10_1
                    rw [Int32.lt_iff_toInt_lt] at hc43_2
                    rw [Int32.lt_iff_toInt_lt] at hc51_3
                    rw [Int32.lt_iff_toInt_lt] at hc73_4
                    rw [← Int32.toInt_inj] at hc84_8
                    rw [Int32.lt_iff_toInt_lt] at hc207_16
                    rw [Int32.lt_iff_toInt_lt] at hc214_17
                    rw [k2] at hc242_18
                    simp only [Int32.reduceToInt] at hc10_1 hc43_2 hc51_3 hc73_4 hc84_8 hc207_16 hc214_17
                    show own_g 3 (c0 &&& (255 : Int32)) (c1 &&& (255 : Int32)) (c2 &&& (255 : Int32)) 0 = 0
                    unfold own_g
                    repeat' split
                    all_goals first | rfl | omega
                  rw [own_w0 q]
              · refine own_iconst X (v := (0 : Int32)) (pc' := 218) d3_217 rfl (by decide) ?_
                subst hΦ
                refine own_retZ X d3_218 (by decide) (by decide) (by decide) ?_ rfl
                have q : own_sl [(c0 &&& (255 : Int32)), (c1 &&& (255 : Int32)), (c2 &&& (255 : Int32))] = 0 := by
                  rw [Int32.lt_iff_toInt_lt] at hc10_1
                  rw [Int32.lt_iff_toInt_lt] at hc43_2
                  rw [Int32.lt_iff_toInt_lt] at hc51_3
                  rw [Int32.lt_iff_toInt_lt] at hc73_4
                  rw [← Int32.toInt_inj] at hc84_8
                  rw [Int32.lt_iff_toInt_lt] at hc207_16
                  rw [Int32.lt_iff_toInt_lt] at hc214_17
                  simp only [Int32.reduceToInt] at hc10_1 hc43_2 hc51_3 hc73_4 hc84_8 hc207_16 hc214_17
                  show own_g 3 (c0 &&& (255 : Int32)) (c1 &&& (255 : Int32)) (c2 &&& (255 : Int32)) 0 = 0
                  unfold own_g
                  repeat' split
                  all_goals first | rfl | omega
                rw [own_w0 q]
      · refine own_iconst X (v := (2 : Int32)) (pc' := 55) d3_54 rfl (by decide) ?_
        refine own_istore X (pc' := 57) (Ls' := #[.val (.ref a), .val (.int fr), .val (.int to), .val (.int j), .val (.int (c0 &&& (255 : Int32))), .val (.int (2 : Int32)), .val (.int (128 : Int32)), .val (.int (191 : Int32)), s8, s9]) d3_55 rfl (XS.store1 (o := s5) rfl hs5 rfl) ?_
        refine own_goto X (pc' := 182) d3_57 (by decide) (by decide) ?_
        refine own_iloadN X (pc' := 183) d3_182 rfl rfl ?_
        refine own_iloadN X (pc' := 184) d3_183 rfl rfl ?_
        refine own_isub X (r := (to - j)) (pc' := 185) d3_184 rfl rfl ?_
        rw [hmj]
        refine own_iload X (pc' := 187) d3_185 rfl rfl ?_
        refine own_icmp_ge X (pct := 192) (pc' := 190) d3_187 rfl (by decide) (by decide) (fun _ => ?_) (fun hc => absurd hc (by decide))
        refine own_aloadN X (pc' := 193) d3_192 rfl rfl rfl ?_
        refine own_iloadN X (pc' := 194) d3_193 rfl rfl ?_
        refine own_iconst X (v := (1 : Int32)) (pc' := 195) d3_194 rfl (by decide) ?_
        refine own_iadd X (r := (j + (1 : Int32))) (pc' := 196) d3_195 rfl rfl ?_
        refine own_baload X (v := c1) (pc' := 197) A G1.1 G1.2 d3_196 rfl ?_
        refine own_sipush X (v := (255 : Int32)) (pc' := 200) d3_197 rfl (by decide) ?_
        refine own_iand X (r := (c1 &&& (255 : Int32))) (pc' := 201) d3_200 rfl rfl ?_
        refine own_istore X (pc' := 203) (Ls' := #[.val (.ref a), .val (.int fr), .val (.int to), .val (.int j), .val (.int (c0 &&& (255 : Int32))), .val (.int (2 : Int32)), .val (.int (128 : Int32)), .val (.int (191 : Int32)), .val (.int (c1 &&& (255 : Int32))), s9]) d3_201 rfl (XS.store1 (o := s8) rfl hs8 rfl) ?_
        refine own_iload X (pc' := 205) d3_203 rfl rfl ?_
        refine own_iload X (pc' := 207) d3_205 rfl rfl ?_
        refine own_icmp_lt X (pct := 217) (pc' := 210) d3_207 rfl (by decide) (by decide) (fun hc207_19 => ?_) (fun hc207_19 => ?_)
        · refine own_iconst X (v := (0 : Int32)) (pc' := 218) d3_217 rfl (by decide) ?_
          subst hΦ
          refine own_retZ X d3_218 (by decide) (by decide) (by decide) ?_ rfl
          have q : own_sl [(c0 &&& (255 : Int32)), (c1 &&& (255 : Int32)), (c2 &&& (255 : Int32))] = 0 := by
            rw [Int32.lt_iff_toInt_lt] at hc10_1
            rw [Int32.lt_iff_toInt_lt] at hc43_2
            rw [Int32.lt_iff_toInt_lt] at hc51_3
            rw [Int32.lt_iff_toInt_lt] at hc207_19
            simp only [Int32.reduceToInt] at hc10_1 hc43_2 hc51_3 hc207_19
            show own_g 3 (c0 &&& (255 : Int32)) (c1 &&& (255 : Int32)) (c2 &&& (255 : Int32)) 0 = 0
            unfold own_g
            repeat' split
            all_goals first | rfl | omega
          rw [own_w0 q]
        · refine own_iload X (pc' := 212) d3_210 rfl rfl ?_
          refine own_iload X (pc' := 214) d3_212 rfl rfl ?_
          refine own_icmp_le X (pct := 219) (pc' := 217) d3_214 rfl (by decide) (by decide) (fun hc214_20 => ?_) (fun hc214_20 => ?_)
          · refine own_iconst X (v := (2 : Int32)) (pc' := 220) d3_219 rfl (by decide) ?_
            refine own_istore X (pc' := 222) (Ls' := #[.val (.ref a), .val (.int fr), .val (.int to), .val (.int j), .val (.int (c0 &&& (255 : Int32))), .val (.int (2 : Int32)), .val (.int (128 : Int32)), .val (.int (191 : Int32)), .val (.int (c1 &&& (255 : Int32))), .val (.int (2 : Int32))]) d3_220 rfl (XS.store1 (o := s9) rfl hs9 rfl) ?_
            refine own_iload X (pc' := 224) d3_222 rfl rfl ?_
            refine own_iload X (pc' := 226) d3_224 rfl rfl ?_
            refine own_icmp_ge X (pct := 253) (pc' := 229) d3_226 rfl (by decide) (by decide) (fun _ => ?_) (fun hc => absurd hc (by decide))
            refine own_iloadN X (pc' := 254) d3_253 rfl rfl ?_
            refine own_iload X (pc' := 256) d3_254 rfl rfl ?_
            refine own_iadd X (r := (j + (2 : Int32))) (pc' := 257) d3_256 rfl rfl ?_
            refine own_istoreN X (pc' := 258) (Ls' := #[.val (.ref a), .val (.int fr), .val (.int to), .val (.int (j + (2 : Int32))), .val (.int (c0 &&& (255 : Int32))), .val (.int (2 : Int32)), .val (.int (128 : Int32)), .val (.int (191 : Int32)), .val (.int (c1 &&& (255 : Int32))), .val (.int (2 : Int32))]) d3_257 rfl rfl ?_
            refine own_goto X (pc' := 2) d3_258 (by decide) (by decide) ?_
            have q : own_sl [(c0 &&& (255 : Int32)), (c1 &&& (255 : Int32)), (c2 &&& (255 : Int32))] = 2 := by
              rw [Int32.lt_iff_toInt_lt] at hc10_1
              rw [Int32.lt_iff_toInt_lt] at hc43_2
              rw [Int32.lt_iff_toInt_lt] at hc51_3
              rw [Int32.lt_iff_toInt_lt] at hc207_19
              rw [Int32.lt_iff_toInt_lt] at hc214_20
              simp only [Int32.reduceToInt] at hc10_1 hc43_2 hc51_3 hc207_19 hc214_20
              show own_g 3 (c0 &&& (255 : Int32)) (c1 &&& (255 : Int32)) (c2 &&& (255 : Int32)) 0 = 2
              unfold own_g
              repeat' split
              all_goals first | rfl | omega
            subst hΦ
            rw [show own_w (f + 3) [(c0 &&& (255 : Int32)), (c1 &&& (255 : Int32)), (c2 &&& (255 : Int32))] = own_w (f + 1 + 1) [(c2 &&& (255 : Int32))] from own_wc q (by decide) rfl]
            exact wf_1 l Z n0 X A fr to (j + (2 : Int32)) c2 (f + 1) (.val (.int (c0 &&& (255 : Int32)))) (.val (.int (2 : Int32))) (.val (.int (128 : Int32))) (.val (.int (191 : Int32))) (.val (.int (c1 &&& (255 : Int32)))) (.val (.int (2 : Int32))) (One.val rfl) (One.val rfl) (One.val rfl) (One.val rfl) (One.val rfl) (One.val rfl) (by rw [own_ad j 2 (by omega) (by decide)]; simp only [Int32.reduceToInt]; omega) (fun t i ht hi => by rw [own_ad j 2 (by omega) (by decide)] at hi; simp only [Int32.reduceToInt] at hi; exact H (t + 2) i (by omega) (by omega)) b2
          · refine own_iconst X (v := (0 : Int32)) (pc' := 218) d3_217 rfl (by decide) ?_
            subst hΦ
            refine own_retZ X d3_218 (by decide) (by decide) (by decide) ?_ rfl
            have q : own_sl [(c0 &&& (255 : Int32)), (c1 &&& (255 : Int32)), (c2 &&& (255 : Int32))] = 0 := by
              rw [Int32.lt_iff_toInt_lt] at hc10_1
              rw [Int32.lt_iff_toInt_lt] at hc43_2
              rw [Int32.lt_iff_toInt_lt] at hc51_3
              rw [Int32.lt_iff_toInt_lt] at hc207_19
              rw [Int32.lt_iff_toInt_lt] at hc214_20
              simp only [Int32.reduceToInt] at hc10_1 hc43_2 hc51_3 hc207_19 hc214_20
              show own_g 3 (c0 &&& (255 : Int32)) (c1 &&& (255 : Int32)) (c2 &&& (255 : Int32)) 0 = 0
              unfold own_g
              repeat' split
              all_goals first | rfl | omega
            rw [own_w0 q]
  · refine own_iinc X (pc' := 16) (Ls' := #[.val (.ref a), .val (.int fr), .val (.int to), .val (.int (j + (1 : Int32))), s4, s5, s6, s7, s8, s9]) (w := (j + (1 : Int32))) d3_13 rfl rfl rfl rfl ?_
    refine own_goto X (pc' := 2) d3_16 (by decide) (by decide) ?_
    have q : own_sl [(c0 &&& (255 : Int32)), (c1 &&& (255 : Int32)), (c2 &&& (255 : Int32))] = 1 := by
      rw [Int32.lt_iff_toInt_lt] at hc10_1
      simp only [Int32.reduceToInt] at hc10_1
      show own_g 3 (c0 &&& (255 : Int32)) (c1 &&& (255 : Int32)) (c2 &&& (255 : Int32)) 0 = 1
      unfold own_g
      repeat' split
      all_goals first | rfl | omega
    subst hΦ
    rw [show own_w (f + 3) [(c0 &&& (255 : Int32)), (c1 &&& (255 : Int32)), (c2 &&& (255 : Int32))] = own_w (f + 0 + 2) [(c1 &&& (255 : Int32)), (c2 &&& (255 : Int32))] from own_wc q (by decide) rfl]
    exact wf_2 l Z n0 X A fr to (j + (1 : Int32)) c1 c2 (f + 0) (s4) (s5) (s6) (s7) (s8) (s9) hs4 hs5 hs6 hs7 hs8 hs9 (by rw [own_ad j 1 (by omega) (by decide)]; simp only [Int32.reduceToInt]; omega) (fun t i ht hi => by rw [own_ad j 1 (by omega) (by decide)] at hi; simp only [Int32.reduceToInt] at hi; exact H (t + 1) i (by omega) (by omega)) b1 b2
set_option maxRecDepth 65536 in
set_option maxHeartbeats 8000000 in
theorem wf_4 (l : Launch) (Z : State) (n0 : Nat) {p : Program} {e : Env} {s : State} {m : MethodId} {args : Array Value} {below : List Frame} {meth : Method} {c : Code} {T : State} {h0 : Heap} {a : Addr} {vs : List Int32} (X : own_S Z n0 prog_75_method_6_code (⟨"com/example/vegeu/vegeu/model/Utf8", "isWellFormed", "([BII)Z"⟩ : MethodName) 10 (some .boolean) p l e ({ frames := 0, cells := 0, slots := 0, locals := 0 } : Room) s m args below meth c T 0 0 h0) (A : own_A Z h0 a .byte vs) (fr to j : Int32) (c0 c1 c2 c3 : Int32) (f : Nat) (s4 s5 s6 s7 s8 s9 : Slot) (hs4 : One s4) (hs5 : One s5) (hs6 : One s6) (hs7 : One s7) (hs8 : One s8) (hs9 : One s9)
    (ht : 0 ≤ j.toInt ∧ j.toInt + 4 ≤ 5 ∧ to.toInt = j.toInt + 4) (H : ∀ (t : Nat) (i : Int32), t < 4 → i.toInt = j.toInt + t → own_in i vs.length = true ∧ vs.getD i.toNatClampNeg 0 = [c0, c1, c2, c3].getD t 0) (b0 : -128 ≤ c0.toInt ∧ c0.toInt < 128) (b1 : -128 ≤ c1.toInt ∧ c1.toInt < 128) (b2 : -128 ≤ c2.toInt ∧ c2.toInt < 128) (b3 : -128 ≤ c3.toInt ∧ c3.toInt < 128) :
    own_G p e below (own_Q n0 below s ({ frames := 0, cells := 0, slots := 0, locals := 0 } : Room) (some (.int (own_w (f + 4) [(c0 &&& (255 : Int32)), (c1 &&& (255 : Int32)), (c2 &&& (255 : Int32)), (c3 &&& (255 : Int32))]))) (fun h' => h' = h0)) T (mkF m 2 #[.val (.ref a), .val (.int fr), .val (.int to), .val (.int j), s4, s5, s6, s7, s8, s9] []) := by
  have hto := ht
  have hmj : to - j = (4 : Int32) := by
    apply Int32.toInt_inj.mp
    have e := c_isub to j
    have r := rng32 (to - j)
    simp only [Int32.reduceToInt]
    omega
  have hlt : j < to := by rw [Int32.lt_iff_toInt_lt]; omega
  have G0 := H 0 j (by decide) (by omega)
  have m0 := c_mask c0 255 8 (by decide) (by decide)
  have k0 := own_c192 c0 b0
  have G1 := H 1 (j + (1 : Int32)) (by decide) (by rw [own_ad j 1 (by omega) (by decide)]; rfl)
  have m1 := c_mask c1 255 8 (by decide) (by decide)
  have k1 := own_c192 c1 b1
  have G2 := H 2 (j + (2 : Int32)) (by decide) (by rw [own_ad j 2 (by omega) (by decide)]; rfl)
  have m2 := c_mask c2 255 8 (by decide) (by decide)
  have k2 := own_c192 c2 b2
  have G3 := H 3 (j + (3 : Int32)) (by decide) (by rw [own_ad j 3 (by omega) (by decide)]; rfl)
  have m3 := c_mask c3 255 8 (by decide) (by decide)
  have k3 := own_c192 c3 b3
  generalize hΦ : own_Q n0 below s _ _ _ = Φ
  refine own_iloadN X (pc' := 3) d3_2 rfl rfl ?_
  refine own_iloadN X (pc' := 4) d3_3 rfl rfl ?_
  refine own_icmp_ge X (pct := 261) (pc' := 7) d3_4 rfl (by decide) (by decide) (fun hc => absurd hc (fun q => q hlt)) (fun _ => ?_)
  refine own_aloadN X (pc' := 8) d3_7 rfl rfl rfl ?_
  refine own_iloadN X (pc' := 9) d3_8 rfl rfl ?_
  refine own_baload X (v := c0) (pc' := 10) A G0.1 G0.2 d3_9 rfl ?_
  refine own_if_lt X (pct := 19) (pc' := 13) d3_10 rfl (by decide) (by decide) (fun hc10_1 => ?_) (fun hc10_1 => ?_)
  · refine own_aloadN X (pc' := 20) d3_19 rfl rfl rfl ?_
    refine own_iloadN X (pc' := 21) d3_20 rfl rfl ?_
    refine own_baload X (v := c0) (pc' := 22) A G0.1 G0.2 d3_21 rfl ?_
    refine own_sipush X (v := (255 : Int32)) (pc' := 25) d3_22 rfl (by decide) ?_
    refine own_iand X (r := (c0 &&& (255 : Int32))) (pc' := 26) d3_25 rfl rfl ?_
    refine own_istore X (pc' := 28) (Ls' := #[.val (.ref a), .val (.int fr), .val (.int to), .val (.int j), .val (.int (c0 &&& (255 : Int32))), s5, s6, s7, s8, s9]) d3_26 rfl (XS.store1 (o := s4) rfl hs4 rfl) ?_
    refine own_sipush X (v := (128 : Int32)) (pc' := 31) d3_28 rfl (by decide) ?_
    refine own_istore X (pc' := 33) (Ls' := #[.val (.ref a), .val (.int fr), .val (.int to), .val (.int j), .val (.int (c0 &&& (255 : Int32))), s5, .val (.int (128 : Int32)), s7, s8, s9]) d3_31 rfl (XS.store1 (o := s6) rfl hs6 rfl) ?_
    refine own_sipush X (v := (191 : Int32)) (pc' := 36) d3_33 rfl (by decide) ?_
    refine own_istore X (pc' := 38) (Ls' := #[.val (.ref a), .val (.int fr), .val (.int to), .val (.int j), .val (.int (c0 &&& (255 : Int32))), s5, .val (.int (128 : Int32)), .val (.int (191 : Int32)), s8, s9]) d3_36 rfl (XS.store1 (o := s7) rfl hs7 rfl) ?_
    refine own_iload X (pc' := 40) d3_38 rfl rfl ?_
    refine own_sipush X (v := (194 : Int32)) (pc' := 43) d3_40 rfl (by decide) ?_
    refine own_icmp_lt X (pct := 60) (pc' := 46) d3_43 rfl (by decide) (by decide) (fun hc43_2 => ?_) (fun hc43_2 => ?_)
    · refine own_iload X (pc' := 62) d3_60 rfl rfl ?_
      refine own_sipush X (v := (224 : Int32)) (pc' := 65) d3_62 rfl (by decide) ?_
      refine own_icmp_lt X (pct := 120) (pc' := 68) d3_65 rfl (by decide) (by decide) (fun _ => ?_) (fun hc => absurd hc (by simp only [Int32.lt_iff_toInt_lt, ← Int32.toInt_inj, Int32.reduceToInt] at hc43_2 ⊢; omega))
      refine own_iload X (pc' := 122) d3_120 rfl rfl ?_
      refine own_sipush X (v := (240 : Int32)) (pc' := 125) d3_122 rfl (by decide) ?_
      refine own_icmp_lt X (pct := 180) (pc' := 128) d3_125 rfl (by decide) (by decide) (fun _ => ?_) (fun hc => absurd hc (by simp only [Int32.lt_iff_toInt_lt, ← Int32.toInt_inj, Int32.reduceToInt] at hc43_2 ⊢; omega))
      refine own_iconst X (v := (0 : Int32)) (pc' := 181) d3_180 rfl (by decide) ?_
      subst hΦ
      refine own_retZ X d3_181 (by decide) (by decide) (by decide) ?_ rfl
      have q : own_sl [(c0 &&& (255 : Int32)), (c1 &&& (255 : Int32)), (c2 &&& (255 : Int32)), (c3 &&& (255 : Int32))] = 0 := by
        rw [Int32.lt_iff_toInt_lt] at hc10_1
        rw [Int32.lt_iff_toInt_lt] at hc43_2
        simp only [Int32.reduceToInt] at hc10_1 hc43_2
        show own_g 4 (c0 &&& (255 : Int32)) (c1 &&& (255 : Int32)) (c2 &&& (255 : Int32)) (c3 &&& (255 : Int32)) = 0
        unfold own_g
        repeat' split
        all_goals first | rfl | omega
      rw [own_w0 q]
    · refine own_iload X (pc' := 48) d3_46 rfl rfl ?_
      refine own_sipush X (v := (223 : Int32)) (pc' := 51) d3_48 rfl (by decide) ?_
      refine own_icmp_gt X (pct := 60) (pc' := 54) d3_51 rfl (by decide) (by decide) (fun hc51_3 => ?_) (fun hc51_3 => ?_)
      · refine own_iload X (pc' := 62) d3_60 rfl rfl ?_
        refine own_sipush X (v := (224 : Int32)) (pc' := 65) d3_62 rfl (by decide) ?_
        refine own_icmp_lt X (pct := 120) (pc' := 68) d3_65 rfl (by decide) (by decide) (fun hc => absurd hc (by simp only [Int32.lt_iff_toInt_lt, ← Int32.toInt_inj, Int32.reduceToInt] at hc43_2 hc51_3 ⊢; omega)) (fun _ => ?_)
        refine own_iload X (pc' := 70) d3_68 rfl rfl ?_
        refine own_sipush X (v := (239 : Int32)) (pc' := 73) d3_70 rfl (by decide) ?_
        refine own_icmp_gt X (pct := 120) (pc' := 76) d3_73 rfl (by decide) (by decide) (fun hc73_4 => ?_) (fun hc73_4 => ?_)
        · refine own_iload X (pc' := 122) d3_120 rfl rfl ?_
          refine own_sipush X (v := (240 : Int32)) (pc' := 125) d3_122 rfl (by decide) ?_
          refine own_icmp_lt X (pct := 180) (pc' := 128) d3_125 rfl (by decide) (by decide) (fun hc => absurd hc (by simp only [Int32.lt_iff_toInt_lt, ← Int32.toInt_inj, Int32.reduceToInt] at hc43_2 hc51_3 hc73_4 ⊢; omega)) (fun _ => ?_)
          refine own_iload X (pc' := 130) d3_128 rfl rfl ?_
          refine own_sipush X (v := (244 : Int32)) (pc' := 133) d3_130 rfl (by decide) ?_
          refine own_icmp_gt X (pct := 180) (pc' := 136) d3_133 rfl (by decide) (by decide) (fun hc133_5 => ?_) (fun hc133_5 => ?_)
          · refine own_iconst X (v := (0 : Int32)) (pc' := 181) d3_180 rfl (by decide) ?_
            subst hΦ
            refine own_retZ X d3_181 (by decide) (by decide) (by decide) ?_ rfl
            have q : own_sl [(c0 &&& (255 : Int32)), (c1 &&& (255 : Int32)), (c2 &&& (255 : Int32)), (c3 &&& (255 : Int32))] = 0 := by
              rw [Int32.lt_iff_toInt_lt] at hc10_1
              rw [Int32.lt_iff_toInt_lt] at hc43_2
              rw [Int32.lt_iff_toInt_lt] at hc51_3
              rw [Int32.lt_iff_toInt_lt] at hc73_4
              rw [Int32.lt_iff_toInt_lt] at hc133_5
              simp only [Int32.reduceToInt] at hc10_1 hc43_2 hc51_3 hc73_4 hc133_5
              show own_g 4 (c0 &&& (255 : Int32)) (c1 &&& (255 : Int32)) (c2 &&& (255 : Int32)) (c3 &&& (255 : Int32)) = 0
              unfold own_g
              repeat' split
              all_goals first | rfl | omega
            rw [own_w0 q]
          · refine own_iconst X (v := (4 : Int32)) (pc' := 137) d3_136 rfl (by decide) ?_
            refine own_istore X (pc' := 139) (Ls' := #[.val (.ref a), .val (.int fr), .val (.int to), .val (.int j), .val (.int (c0 &&& (255 : Int32))), .val (.int (4 : Int32)), .val (.int (128 : Int32)), .val (.int (191 : Int32)), s8, s9]) d3_137 rfl (XS.store1 (o := s5) rfl hs5 rfl) ?_
            refine own_iload X (pc' := 141) d3_139 rfl rfl ?_
            refine own_sipush X (v := (240 : Int32)) (pc' := 144) d3_141 rfl (by decide) ?_
            refine own_icmp_ne X (pct := 153) (pc' := 147) d3_144 rfl (by decide) (by decide) (fun hc144_6 => ?_) (fun hc144_6 => ?_)
            · refine own_sipush X (v := (128 : Int32)) (pc' := 156) d3_153 rfl (by decide) ?_
              refine own_istore X (pc' := 158) (Ls' := #[.val (.ref a), .val (.int fr), .val (.int to), .val (.int j), .val (.int (c0 &&& (255 : Int32))), .val (.int (4 : Int32)), .val (.int (128 : Int32)), .val (.int (191 : Int32)), s8, s9]) d3_156 rfl rfl ?_
              refine own_iload X (pc' := 160) d3_158 rfl rfl ?_
              refine own_sipush X (v := (244 : Int32)) (pc' := 163) d3_160 rfl (by decide) ?_
              refine own_icmp_ne X (pct := 172) (pc' := 166) d3_163 rfl (by decide) (by decide) (fun hc163_7 => ?_) (fun hc163_7 => ?_)
              · refine own_sipush X (v := (191 : Int32)) (pc' := 175) d3_172 rfl (by decide) ?_
                refine own_istore X (pc' := 177) (Ls' := #[.val (.ref a), .val (.int fr), .val (.int to), .val (.int j), .val (.int (c0 &&& (255 : Int32))), .val (.int (4 : Int32)), .val (.int (128 : Int32)), .val (.int (191 : Int32)), s8, s9]) d3_175 rfl rfl ?_
                refine own_goto X (pc' := 182) d3_177 (by decide) (by decide) ?_
                refine own_iloadN X (pc' := 183) d3_182 rfl rfl ?_
                refine own_iloadN X (pc' := 184) d3_183 rfl rfl ?_
                refine own_isub X (r := (to - j)) (pc' := 185) d3_184 rfl rfl ?_
                rw [hmj]
                refine own_iload X (pc' := 187) d3_185 rfl rfl ?_
                refine own_icmp_ge X (pct := 192) (pc' := 190) d3_187 rfl (by decide) (by decide) (fun _ => ?_) (fun hc => absurd hc (by decide))
                refine own_aloadN X (pc' := 193) d3_192 rfl rfl rfl ?_
                refine own_iloadN X (pc' := 194) d3_193 rfl rfl ?_
                refine own_iconst X (v := (1 : Int32)) (pc' := 195) d3_194 rfl (by decide) ?_
                refine own_iadd X (r := (j + (1 : Int32))) (pc' := 196) d3_195 rfl rfl ?_
                refine own_baload X (v := c1) (pc' := 197) A G1.1 G1.2 d3_196 rfl ?_
                refine own_sipush X (v := (255 : Int32)) (pc' := 200) d3_197 rfl (by decide) ?_
                refine own_iand X (r := (c1 &&& (255 : Int32))) (pc' := 201) d3_200 rfl rfl ?_
                refine own_istore X (pc' := 203) (Ls' := #[.val (.ref a), .val (.int fr), .val (.int to), .val (.int j), .val (.int (c0 &&& (255 : Int32))), .val (.int (4 : Int32)), .val (.int (128 : Int32)), .val (.int (191 : Int32)), .val (.int (c1 &&& (255 : Int32))), s9]) d3_201 rfl (XS.store1 (o := s8) rfl hs8 rfl) ?_
                refine own_iload X (pc' := 205) d3_203 rfl rfl ?_
                refine own_iload X (pc' := 207) d3_205 rfl rfl ?_
                refine own_icmp_lt X (pct := 217) (pc' := 210) d3_207 rfl (by decide) (by decide) (fun hc207_8 => ?_) (fun hc207_8 => ?_)
                · refine own_iconst X (v := (0 : Int32)) (pc' := 218) d3_217 rfl (by decide) ?_
                  subst hΦ
                  refine own_retZ X d3_218 (by decide) (by decide) (by decide) ?_ rfl
                  have q : own_sl [(c0 &&& (255 : Int32)), (c1 &&& (255 : Int32)), (c2 &&& (255 : Int32)), (c3 &&& (255 : Int32))] = 0 := by
                    rw [Int32.lt_iff_toInt_lt] at hc10_1
                    rw [Int32.lt_iff_toInt_lt] at hc43_2
                    rw [Int32.lt_iff_toInt_lt] at hc51_3
                    rw [Int32.lt_iff_toInt_lt] at hc73_4
                    rw [Int32.lt_iff_toInt_lt] at hc133_5
                    rw [← Int32.toInt_inj] at hc144_6
                    rw [← Int32.toInt_inj] at hc163_7
                    rw [Int32.lt_iff_toInt_lt] at hc207_8
                    simp only [Int32.reduceToInt] at hc10_1 hc43_2 hc51_3 hc73_4 hc133_5 hc144_6 hc163_7 hc207_8
                    show own_g 4 (c0 &&& (255 : Int32)) (c1 &&& (255 : Int32)) (c2 &&& (255 : Int32)) (c3 &&& (255 : Int32)) = 0
                    unfold own_g
                    repeat' split
                    all_goals first | rfl | omega
                  rw [own_w0 q]
                · refine own_iload X (pc' := 212) d3_210 rfl rfl ?_
                  refine own_iload X (pc' := 214) d3_212 rfl rfl ?_
                  refine own_icmp_le X (pct := 219) (pc' := 217) d3_214 rfl (by decide) (by decide) (fun hc214_9 => ?_) (fun hc214_9 => ?_)
                  · refine own_iconst X (v := (2 : Int32)) (pc' := 220) d3_219 rfl (by decide) ?_
                    refine own_istore X (pc' := 222) (Ls' := #[.val (.ref a), .val (.int fr), .val (.int to), .val (.int j), .val (.int (c0 &&& (255 : Int32))), .val (.int (4 : Int32)), .val (.int (128 : Int32)), .val (.int (191 : Int32)), .val (.int (c1 &&& (255 : Int32))), .val (.int (2 : Int32))]) d3_220 rfl (XS.store1 (o := s9) rfl hs9 rfl) ?_
                    refine own_iload X (pc' := 224) d3_222 rfl rfl ?_
                    refine own_iload X (pc' := 226) d3_224 rfl rfl ?_
                    refine own_icmp_ge X (pct := 253) (pc' := 229) d3_226 rfl (by decide) (by decide) (fun hc => absurd hc (by decide)) (fun _ => ?_)
                    refine own_aloadN X (pc' := 230) d3_229 rfl rfl rfl ?_
                    refine own_iloadN X (pc' := 231) d3_230 rfl rfl ?_
                    refine own_iload X (pc' := 233) d3_231 rfl rfl ?_
                    refine own_iadd X (r := (j + (2 : Int32))) (pc' := 234) d3_233 rfl rfl ?_
                    refine own_baload X (v := c2) (pc' := 235) A G2.1 G2.2 d3_234 rfl ?_
                    refine own_sipush X (v := (192 : Int32)) (pc' := 238) d3_235 rfl (by decide) ?_
                    refine own_iand X (r := (c2 &&& (192 : Int32))) (pc' := 239) d3_238 rfl rfl ?_
                    refine own_sipush X (v := (128 : Int32)) (pc' := 242) d3_239 rfl (by decide) ?_
                    refine own_icmp_eq X (pct := 247) (pc' := 245) d3_242 rfl (by decide) (by decide) (fun hc242_10 => ?_) (fun hc242_10 => ?_)
                    · refine own_iinc X (pc' := 250) (Ls' := #[.val (.ref a), .val (.int fr), .val (.int to), .val (.int j), .val (.int (c0 &&& (255 : Int32))), .val (.int (4 : Int32)), .val (.int (128 : Int32)), .val (.int (191 : Int32)), .val (.int (c1 &&& (255 : Int32))), .val (.int (3 : Int32))]) (w := (3 : Int32)) d3_247 rfl rfl (by decide) rfl ?_
                      refine own_goto X (pc' := 222) d3_250 (by decide) (by decide) ?_
                      refine own_iload X (pc' := 224) d3_222 rfl rfl ?_
                      refine own_iload X (pc' := 226) d3_224 rfl rfl ?_
                      refine own_icmp_ge X (pct := 253) (pc' := 229) d3_226 rfl (by decide) (by decide) (fun hc => absurd hc (by decide)) (fun _ => ?_)
                      refine own_aloadN X (pc' := 230) d3_229 rfl rfl rfl ?_
                      refine own_iloadN X (pc' := 231) d3_230 rfl rfl ?_
                      refine own_iload X (pc' := 233) d3_231 rfl rfl ?_
                      refine own_iadd X (r := (j + (3 : Int32))) (pc' := 234) d3_233 rfl rfl ?_
                      refine own_baload X (v := c3) (pc' := 235) A G3.1 G3.2 d3_234 rfl ?_
                      refine own_sipush X (v := (192 : Int32)) (pc' := 238) d3_235 rfl (by decide) ?_
                      refine own_iand X (r := (c3 &&& (192 : Int32))) (pc' := 239) d3_238 rfl rfl ?_
                      refine own_sipush X (v := (128 : Int32)) (pc' := 242) d3_239 rfl (by decide) ?_
                      refine own_icmp_eq X (pct := 247) (pc' := 245) d3_242 rfl (by decide) (by decide) (fun hc242_11 => ?_) (fun hc242_11 => ?_)
                      · refine own_iinc X (pc' := 250) (Ls' := #[.val (.ref a), .val (.int fr), .val (.int to), .val (.int j), .val (.int (c0 &&& (255 : Int32))), .val (.int (4 : Int32)), .val (.int (128 : Int32)), .val (.int (191 : Int32)), .val (.int (c1 &&& (255 : Int32))), .val (.int (4 : Int32))]) (w := (4 : Int32)) d3_247 rfl rfl (by decide) rfl ?_
                        refine own_goto X (pc' := 222) d3_250 (by decide) (by decide) ?_
                        refine own_iload X (pc' := 224) d3_222 rfl rfl ?_
                        refine own_iload X (pc' := 226) d3_224 rfl rfl ?_
                        refine own_icmp_ge X (pct := 253) (pc' := 229) d3_226 rfl (by decide) (by decide) (fun _ => ?_) (fun hc => absurd hc (by decide))
                        refine own_iloadN X (pc' := 254) d3_253 rfl rfl ?_
                        refine own_iload X (pc' := 256) d3_254 rfl rfl ?_
                        refine own_iadd X (r := (j + (4 : Int32))) (pc' := 257) d3_256 rfl rfl ?_
                        refine own_istoreN X (pc' := 258) (Ls' := #[.val (.ref a), .val (.int fr), .val (.int to), .val (.int (j + (4 : Int32))), .val (.int (c0 &&& (255 : Int32))), .val (.int (4 : Int32)), .val (.int (128 : Int32)), .val (.int (191 : Int32)), .val (.int (c1 &&& (255 : Int32))), .val (.int (4 : Int32))]) d3_257 rfl rfl ?_
                        refine own_goto X (pc' := 2) d3_258 (by decide) (by decide) ?_
                        have q : own_sl [(c0 &&& (255 : Int32)), (c1 &&& (255 : Int32)), (c2 &&& (255 : Int32)), (c3 &&& (255 : Int32))] = 4 := by
                          rw [Int32.lt_iff_toInt_lt] at hc10_1
                          rw [Int32.lt_iff_toInt_lt] at hc43_2
                          rw [Int32.lt_iff_toInt_lt] at hc51_3
                          rw [Int32.lt_iff_toInt_lt] at hc73_4
                          rw [Int32.lt_iff_toInt_lt] at hc133_5
                          rw [← Int32.toInt_inj] at hc144_6
                          rw [← Int32.toInt_inj] at hc163_7
                          rw [Int32.lt_iff_toInt_lt] at hc207_8
                          rw [Int32.lt_iff_toInt_lt] at hc214_9
                          rw [k2] at hc242_10
                          rw [k3] at hc242_11
                          simp only [Int32.reduceToInt] at hc10_1 hc43_2 hc51_3 hc73_4 hc133_5 hc144_6 hc163_7 hc207_8 hc214_9
                          show own_g 4 (c0 &&& (255 : Int32)) (c1 &&& (255 : Int32)) (c2 &&& (255 : Int32)) (c3 &&& (255 : Int32)) = 4
                          unfold own_g
                          repeat' split
                          all_goals first | rfl | omega
                        subst hΦ
                        rw [show own_w (f + 4) [(c0 &&& (255 : Int32)), (c1 &&& (255 : Int32)), (c2 &&& (255 : Int32)), (c3 &&& (255 : Int32))] = own_w (f + 3 + 0) [] from own_wc q (by decide) rfl]
                        exact wf_0 l Z n0 X A fr to (j + (4 : Int32))  (f + 3) (.val (.int (c0 &&& (255 : Int32)))) (.val (.int (4 : Int32))) (.val (.int (128 : Int32))) (.val (.int (191 : Int32))) (.val (.int (c1 &&& (255 : Int32)))) (.val (.int (4 : Int32))) (One.val rfl) (One.val rfl) (One.val rfl) (One.val rfl) (One.val rfl) (One.val rfl) (by rw [own_ad j 4 (by omega) (by decide)]; simp only [Int32.reduceToInt]; omega) (fun t i ht hi => by rw [own_ad j 4 (by omega) (by decide)] at hi; simp only [Int32.reduceToInt] at hi; exact H (t + 4) i (by omega) (by omega)) 
                      · refine own_iconst X (v := (0 : Int32)) (pc' := 246) d3_245 rfl (by decide) ?_
                        subst hΦ
                        refine own_retZ X d3_246 (by decide) (by decide) (by decide) ?_ rfl
                        have q : own_sl [(c0 &&& (255 : Int32)), (c1 &&& (255 : Int32)), (c2 &&& (255 : Int32)), (c3 &&& (255 : Int32))] = 0 := by
                          rw [Int32.lt_iff_toInt_lt] at hc10_1
                          rw [Int32.lt_iff_toInt_lt] at hc43_2
                          rw [Int32.lt_iff_toInt_lt] at hc51_3
                          rw [Int32.lt_iff_toInt_lt] at hc73_4
                          rw [Int32.lt_iff_toInt_lt] at hc133_5
                          rw [← Int32.toInt_inj] at hc144_6
                          rw [← Int32.toInt_inj] at hc163_7
                          rw [Int32.lt_iff_toInt_lt] at hc207_8
                          rw [Int32.lt_iff_toInt_lt] at hc214_9
                          rw [k2] at hc242_10
                          rw [k3] at hc242_11
                          simp only [Int32.reduceToInt] at hc10_1 hc43_2 hc51_3 hc73_4 hc133_5 hc144_6 hc163_7 hc207_8 hc214_9
                          show own_g 4 (c0 &&& (255 : Int32)) (c1 &&& (255 : Int32)) (c2 &&& (255 : Int32)) (c3 &&& (255 : Int32)) = 0
                          unfold own_g
                          repeat' split
                          all_goals first | rfl | omega
                        rw [own_w0 q]
                    · refine own_iconst X (v := (0 : Int32)) (pc' := 246) d3_245 rfl (by decide) ?_
                      subst hΦ
                      refine own_retZ X d3_246 (by decide) (by decide) (by decide) ?_ rfl
                      have q : own_sl [(c0 &&& (255 : Int32)), (c1 &&& (255 : Int32)), (c2 &&& (255 : Int32)), (c3 &&& (255 : Int32))] = 0 := by
                        rw [Int32.lt_iff_toInt_lt] at hc10_1
                        rw [Int32.lt_iff_toInt_lt] at hc43_2
                        rw [Int32.lt_iff_toInt_lt] at hc51_3
                        rw [Int32.lt_iff_toInt_lt] at hc73_4
                        rw [Int32.lt_iff_toInt_lt] at hc133_5
                        rw [← Int32.toInt_inj] at hc144_6
                        rw [← Int32.toInt_inj] at hc163_7
                        rw [Int32.lt_iff_toInt_lt] at hc207_8
                        rw [Int32.lt_iff_toInt_lt] at hc214_9
                        rw [k2] at hc242_10
                        simp only [Int32.reduceToInt] at hc10_1 hc43_2 hc51_3 hc73_4 hc133_5 hc144_6 hc163_7 hc207_8 hc214_9
                        show own_g 4 (c0 &&& (255 : Int32)) (c1 &&& (255 : Int32)) (c2 &&& (255 : Int32)) (c3 &&& (255 : Int32)) = 0
                        unfold own_g
                        repeat' split
                        all_goals first | rfl | omega
                      rw [own_w0 q]
                  · refine own_iconst X (v := (0 : Int32)) (pc' := 218) d3_217 rfl (by decide) ?_
                    subst hΦ
                    refine own_retZ X d3_218 (by decide) (by decide) (by decide) ?_ rfl
                    have q : own_sl [(c0 &&& (255 : Int32)), (c1 &&& (255 : Int32)), (c2 &&& (255 : Int32)), (c3 &&& (255 : Int32))] = 0 := by
                      rw [Int32.lt_iff_toInt_lt] at hc10_1
                      rw [Int32.lt_iff_toInt_lt] at hc43_2
                      rw [Int32.lt_iff_toInt_lt] at hc51_3
                      rw [Int32.lt_iff_toInt_lt] at hc73_4
                      rw [Int32.lt_iff_toInt_lt] at hc133_5
                      rw [← Int32.toInt_inj] at hc144_6
                      rw [← Int32.toInt_inj] at hc163_7
                      rw [Int32.lt_iff_toInt_lt] at hc207_8
                      rw [Int32.lt_iff_toInt_lt] at hc214_9
                      simp only [Int32.reduceToInt] at hc10_1 hc43_2 hc51_3 hc73_4 hc133_5 hc144_6 hc163_7 hc207_8 hc214_9
                      show own_g 4 (c0 &&& (255 : Int32)) (c1 &&& (255 : Int32)) (c2 &&& (255 : Int32)) (c3 &&& (255 : Int32)) = 0
                      unfold own_g
                      repeat' split
                      all_goals first | rfl | omega
                    rw [own_w0 q]
              · refine own_sipush X (v := (143 : Int32)) (pc' := 169) d3_166 rfl (by decide) ?_
                refine own_goto X (pc' := 175) d3_169 (by decide) (by decide) ?_
                refine own_istore X (pc' := 177) (Ls' := #[.val (.ref a), .val (.int fr), .val (.int to), .val (.int j), .val (.int (c0 &&& (255 : Int32))), .val (.int (4 : Int32)), .val (.int (128 : Int32)), .val (.int (143 : Int32)), s8, s9]) d3_175 rfl rfl ?_
                refine own_goto X (pc' := 182) d3_177 (by decide) (by decide) ?_
                refine own_iloadN X (pc' := 183) d3_182 rfl rfl ?_
                refine own_iloadN X (pc' := 184) d3_183 rfl rfl ?_
                refine own_isub X (r := (to - j)) (pc' := 185) d3_184 rfl rfl ?_
                rw [hmj]
                refine own_iload X (pc' := 187) d3_185 rfl rfl ?_
                refine own_icmp_ge X (pct := 192) (pc' := 190) d3_187 rfl (by decide) (by decide) (fun _ => ?_) (fun hc => absurd hc (by decide))
                refine own_aloadN X (pc' := 193) d3_192 rfl rfl rfl ?_
                refine own_iloadN X (pc' := 194) d3_193 rfl rfl ?_
                refine own_iconst X (v := (1 : Int32)) (pc' := 195) d3_194 rfl (by decide) ?_
                refine own_iadd X (r := (j + (1 : Int32))) (pc' := 196) d3_195 rfl rfl ?_
                refine own_baload X (v := c1) (pc' := 197) A G1.1 G1.2 d3_196 rfl ?_
                refine own_sipush X (v := (255 : Int32)) (pc' := 200) d3_197 rfl (by decide) ?_
                refine own_iand X (r := (c1 &&& (255 : Int32))) (pc' := 201) d3_200 rfl rfl ?_
                refine own_istore X (pc' := 203) (Ls' := #[.val (.ref a), .val (.int fr), .val (.int to), .val (.int j), .val (.int (c0 &&& (255 : Int32))), .val (.int (4 : Int32)), .val (.int (128 : Int32)), .val (.int (143 : Int32)), .val (.int (c1 &&& (255 : Int32))), s9]) d3_201 rfl (XS.store1 (o := s8) rfl hs8 rfl) ?_
                refine own_iload X (pc' := 205) d3_203 rfl rfl ?_
                refine own_iload X (pc' := 207) d3_205 rfl rfl ?_
                refine own_icmp_lt X (pct := 217) (pc' := 210) d3_207 rfl (by decide) (by decide) (fun hc207_12 => ?_) (fun hc207_12 => ?_)
                · refine own_iconst X (v := (0 : Int32)) (pc' := 218) d3_217 rfl (by decide) ?_
                  subst hΦ
                  refine own_retZ X d3_218 (by decide) (by decide) (by decide) ?_ rfl
                  have q : own_sl [(c0 &&& (255 : Int32)), (c1 &&& (255 : Int32)), (c2 &&& (255 : Int32)), (c3 &&& (255 : Int32))] = 0 := by
                    rw [Int32.lt_iff_toInt_lt] at hc10_1
                    rw [Int32.lt_iff_toInt_lt] at hc43_2
                    rw [Int32.lt_iff_toInt_lt] at hc51_3
                    rw [Int32.lt_iff_toInt_lt] at hc73_4
                    rw [Int32.lt_iff_toInt_lt] at hc133_5
                    rw [← Int32.toInt_inj] at hc144_6
                    rw [← Int32.toInt_inj] at hc163_7
                    rw [Int32.lt_iff_toInt_lt] at hc207_12
                    simp only [Int32.reduceToInt] at hc10_1 hc43_2 hc51_3 hc73_4 hc133_5 hc144_6 hc163_7 hc207_12
                    show own_g 4 (c0 &&& (255 : Int32)) (c1 &&& (255 : Int32)) (c2 &&& (255 : Int32)) (c3 &&& (255 : Int32)) = 0
                    unfold own_g
                    repeat' split
                    all_goals first | rfl | omega
                  rw [own_w0 q]
                · refine own_iload X (pc' := 212) d3_210 rfl rfl ?_
                  refine own_iload X (pc' := 214) d3_212 rfl rfl ?_
                  refine own_icmp_le X (pct := 219) (pc' := 217) d3_214 rfl (by decide) (by decide) (fun hc214_13 => ?_) (fun hc214_13 => ?_)
                  · refine own_iconst X (v := (2 : Int32)) (pc' := 220) d3_219 rfl (by decide) ?_
                    refine own_istore X (pc' := 222) (Ls' := #[.val (.ref a), .val (.int fr), .val (.int to), .val (.int j), .val (.int (c0 &&& (255 : Int32))), .val (.int (4 : Int32)), .val (.int (128 : Int32)), .val (.int (143 : Int32)), .val (.int (c1 &&& (255 : Int32))), .val (.int (2 : Int32))]) d3_220 rfl (XS.store1 (o := s9) rfl hs9 rfl) ?_
                    refine own_iload X (pc' := 224) d3_222 rfl rfl ?_
                    refine own_iload X (pc' := 226) d3_224 rfl rfl ?_
                    refine own_icmp_ge X (pct := 253) (pc' := 229) d3_226 rfl (by decide) (by decide) (fun hc => absurd hc (by decide)) (fun _ => ?_)
                    refine own_aloadN X (pc' := 230) d3_229 rfl rfl rfl ?_
                    refine own_iloadN X (pc' := 231) d3_230 rfl rfl ?_
                    refine own_iload X (pc' := 233) d3_231 rfl rfl ?_
                    refine own_iadd X (r := (j + (2 : Int32))) (pc' := 234) d3_233 rfl rfl ?_
                    refine own_baload X (v := c2) (pc' := 235) A G2.1 G2.2 d3_234 rfl ?_
                    refine own_sipush X (v := (192 : Int32)) (pc' := 238) d3_235 rfl (by decide) ?_
                    refine own_iand X (r := (c2 &&& (192 : Int32))) (pc' := 239) d3_238 rfl rfl ?_
                    refine own_sipush X (v := (128 : Int32)) (pc' := 242) d3_239 rfl (by decide) ?_
                    refine own_icmp_eq X (pct := 247) (pc' := 245) d3_242 rfl (by decide) (by decide) (fun hc242_14 => ?_) (fun hc242_14 => ?_)
                    · refine own_iinc X (pc' := 250) (Ls' := #[.val (.ref a), .val (.int fr), .val (.int to), .val (.int j), .val (.int (c0 &&& (255 : Int32))), .val (.int (4 : Int32)), .val (.int (128 : Int32)), .val (.int (143 : Int32)), .val (.int (c1 &&& (255 : Int32))), .val (.int (3 : Int32))]) (w := (3 : Int32)) d3_247 rfl rfl (by decide) rfl ?_
                      refine own_goto X (pc' := 222) d3_250 (by decide) (by decide) ?_
                      refine own_iload X (pc' := 224) d3_222 rfl rfl ?_
                      refine own_iload X (pc' := 226) d3_224 rfl rfl ?_
                      refine own_icmp_ge X (pct := 253) (pc' := 229) d3_226 rfl (by decide) (by decide) (fun hc => absurd hc (by decide)) (fun _ => ?_)
                      refine own_aloadN X (pc' := 230) d3_229 rfl rfl rfl ?_
                      refine own_iloadN X (pc' := 231) d3_230 rfl rfl ?_
                      refine own_iload X (pc' := 233) d3_231 rfl rfl ?_
                      refine own_iadd X (r := (j + (3 : Int32))) (pc' := 234) d3_233 rfl rfl ?_
                      refine own_baload X (v := c3) (pc' := 235) A G3.1 G3.2 d3_234 rfl ?_
                      refine own_sipush X (v := (192 : Int32)) (pc' := 238) d3_235 rfl (by decide) ?_
                      refine own_iand X (r := (c3 &&& (192 : Int32))) (pc' := 239) d3_238 rfl rfl ?_
                      refine own_sipush X (v := (128 : Int32)) (pc' := 242) d3_239 rfl (by decide) ?_
                      refine own_icmp_eq X (pct := 247) (pc' := 245) d3_242 rfl (by decide) (by decide) (fun hc242_15 => ?_) (fun hc242_15 => ?_)
                      · refine own_iinc X (pc' := 250) (Ls' := #[.val (.ref a), .val (.int fr), .val (.int to), .val (.int j), .val (.int (c0 &&& (255 : Int32))), .val (.int (4 : Int32)), .val (.int (128 : Int32)), .val (.int (143 : Int32)), .val (.int (c1 &&& (255 : Int32))), .val (.int (4 : Int32))]) (w := (4 : Int32)) d3_247 rfl rfl (by decide) rfl ?_
                        refine own_goto X (pc' := 222) d3_250 (by decide) (by decide) ?_
                        refine own_iload X (pc' := 224) d3_222 rfl rfl ?_
                        refine own_iload X (pc' := 226) d3_224 rfl rfl ?_
                        refine own_icmp_ge X (pct := 253) (pc' := 229) d3_226 rfl (by decide) (by decide) (fun _ => ?_) (fun hc => absurd hc (by decide))
                        refine own_iloadN X (pc' := 254) d3_253 rfl rfl ?_
                        refine own_iload X (pc' := 256) d3_254 rfl rfl ?_
                        refine own_iadd X (r := (j + (4 : Int32))) (pc' := 257) d3_256 rfl rfl ?_
                        refine own_istoreN X (pc' := 258) (Ls' := #[.val (.ref a), .val (.int fr), .val (.int to), .val (.int (j + (4 : Int32))), .val (.int (c0 &&& (255 : Int32))), .val (.int (4 : Int32)), .val (.int (128 : Int32)), .val (.int (143 : Int32)), .val (.int (c1 &&& (255 : Int32))), .val (.int (4 : Int32))]) d3_257 rfl rfl ?_
                        refine own_goto X (pc' := 2) d3_258 (by decide) (by decide) ?_
                        have q : own_sl [(c0 &&& (255 : Int32)), (c1 &&& (255 : Int32)), (c2 &&& (255 : Int32)), (c3 &&& (255 : Int32))] = 4 := by
                          rw [Int32.lt_iff_toInt_lt] at hc10_1
                          rw [Int32.lt_iff_toInt_lt] at hc43_2
                          rw [Int32.lt_iff_toInt_lt] at hc51_3
                          rw [Int32.lt_iff_toInt_lt] at hc73_4
                          rw [Int32.lt_iff_toInt_lt] at hc133_5
                          rw [← Int32.toInt_inj] at hc144_6
                          rw [← Int32.toInt_inj] at hc163_7
                          rw [Int32.lt_iff_toInt_lt] at hc207_12
                          rw [Int32.lt_iff_toInt_lt] at hc214_13
                          rw [k2] at hc242_14
                          rw [k3] at hc242_15
                          simp only [Int32.reduceToInt] at hc10_1 hc43_2 hc51_3 hc73_4 hc133_5 hc144_6 hc163_7 hc207_12 hc214_13
                          show own_g 4 (c0 &&& (255 : Int32)) (c1 &&& (255 : Int32)) (c2 &&& (255 : Int32)) (c3 &&& (255 : Int32)) = 4
                          unfold own_g
                          repeat' split
                          all_goals first | rfl | omega
                        subst hΦ
                        rw [show own_w (f + 4) [(c0 &&& (255 : Int32)), (c1 &&& (255 : Int32)), (c2 &&& (255 : Int32)), (c3 &&& (255 : Int32))] = own_w (f + 3 + 0) [] from own_wc q (by decide) rfl]
                        exact wf_0 l Z n0 X A fr to (j + (4 : Int32))  (f + 3) (.val (.int (c0 &&& (255 : Int32)))) (.val (.int (4 : Int32))) (.val (.int (128 : Int32))) (.val (.int (143 : Int32))) (.val (.int (c1 &&& (255 : Int32)))) (.val (.int (4 : Int32))) (One.val rfl) (One.val rfl) (One.val rfl) (One.val rfl) (One.val rfl) (One.val rfl) (by rw [own_ad j 4 (by omega) (by decide)]; simp only [Int32.reduceToInt]; omega) (fun t i ht hi => by rw [own_ad j 4 (by omega) (by decide)] at hi; simp only [Int32.reduceToInt] at hi; exact H (t + 4) i (by omega) (by omega)) 
                      · refine own_iconst X (v := (0 : Int32)) (pc' := 246) d3_245 rfl (by decide) ?_
                        subst hΦ
                        refine own_retZ X d3_246 (by decide) (by decide) (by decide) ?_ rfl
                        have q : own_sl [(c0 &&& (255 : Int32)), (c1 &&& (255 : Int32)), (c2 &&& (255 : Int32)), (c3 &&& (255 : Int32))] = 0 := by
                          rw [Int32.lt_iff_toInt_lt] at hc10_1
                          rw [Int32.lt_iff_toInt_lt] at hc43_2
                          rw [Int32.lt_iff_toInt_lt] at hc51_3
                          rw [Int32.lt_iff_toInt_lt] at hc73_4
                          rw [Int32.lt_iff_toInt_lt] at hc133_5
                          rw [← Int32.toInt_inj] at hc144_6
                          rw [← Int32.toInt_inj] at hc163_7
                          rw [Int32.lt_iff_toInt_lt] at hc207_12
                          rw [Int32.lt_iff_toInt_lt] at hc214_13
                          rw [k2] at hc242_14
                          rw [k3] at hc242_15
                          simp only [Int32.reduceToInt] at hc10_1 hc43_2 hc51_3 hc73_4 hc133_5 hc144_6 hc163_7 hc207_12 hc214_13
                          show own_g 4 (c0 &&& (255 : Int32)) (c1 &&& (255 : Int32)) (c2 &&& (255 : Int32)) (c3 &&& (255 : Int32)) = 0
                          unfold own_g
                          repeat' split
                          all_goals first | rfl | omega
                        rw [own_w0 q]
                    · refine own_iconst X (v := (0 : Int32)) (pc' := 246) d3_245 rfl (by decide) ?_
                      subst hΦ
                      refine own_retZ X d3_246 (by decide) (by decide) (by decide) ?_ rfl
                      have q : own_sl [(c0 &&& (255 : Int32)), (c1 &&& (255 : Int32)), (c2 &&& (255 : Int32)), (c3 &&& (255 : Int32))] = 0 := by
                        rw [Int32.lt_iff_toInt_lt] at hc10_1
                        rw [Int32.lt_iff_toInt_lt] at hc43_2
                        rw [Int32.lt_iff_toInt_lt] at hc51_3
                        rw [Int32.lt_iff_toInt_lt] at hc73_4
                        rw [Int32.lt_iff_toInt_lt] at hc133_5
                        rw [← Int32.toInt_inj] at hc144_6
                        rw [← Int32.toInt_inj] at hc163_7
                        rw [Int32.lt_iff_toInt_lt] at hc207_12
                        rw [Int32.lt_iff_toInt_lt] at hc214_13
                        rw [k2] at hc242_14
                        simp only [Int32.reduceToInt] at hc10_1 hc43_2 hc51_3 hc73_4 hc133_5 hc144_6 hc163_7 hc207_12 hc214_13
                        show own_g 4 (c0 &&& (255 : Int32)) (c1 &&& (255 : Int32)) (c2 &&& (255 : Int32)) (c3 &&& (255 : Int32)) = 0
                        unfold own_g
                        repeat' split
                        all_goals first | rfl | omega
                      rw [own_w0 q]
                  · refine own_iconst X (v := (0 : Int32)) (pc' := 218) d3_217 rfl (by decide) ?_
                    subst hΦ
                    refine own_retZ X d3_218 (by decide) (by decide) (by decide) ?_ rfl
                    have q : own_sl [(c0 &&& (255 : Int32)), (c1 &&& (255 : Int32)), (c2 &&& (255 : Int32)), (c3 &&& (255 : Int32))] = 0 := by
                      rw [Int32.lt_iff_toInt_lt] at hc10_1
                      rw [Int32.lt_iff_toInt_lt] at hc43_2
                      rw [Int32.lt_iff_toInt_lt] at hc51_3
                      rw [Int32.lt_iff_toInt_lt] at hc73_4
                      rw [Int32.lt_iff_toInt_lt] at hc133_5
                      rw [← Int32.toInt_inj] at hc144_6
                      rw [← Int32.toInt_inj] at hc163_7
                      rw [Int32.lt_iff_toInt_lt] at hc207_12
                      rw [Int32.lt_iff_toInt_lt] at hc214_13
                      simp only [Int32.reduceToInt] at hc10_1 hc43_2 hc51_3 hc73_4 hc133_5 hc144_6 hc163_7 hc207_12 hc214_13
                      show own_g 4 (c0 &&& (255 : Int32)) (c1 &&& (255 : Int32)) (c2 &&& (255 : Int32)) (c3 &&& (255 : Int32)) = 0
                      unfold own_g
                      repeat' split
                      all_goals first | rfl | omega
                    rw [own_w0 q]
            · refine own_sipush X (v := (144 : Int32)) (pc' := 150) d3_147 rfl (by decide) ?_
              refine own_goto X (pc' := 156) d3_150 (by decide) (by decide) ?_
              refine own_istore X (pc' := 158) (Ls' := #[.val (.ref a), .val (.int fr), .val (.int to), .val (.int j), .val (.int (c0 &&& (255 : Int32))), .val (.int (4 : Int32)), .val (.int (144 : Int32)), .val (.int (191 : Int32)), s8, s9]) d3_156 rfl rfl ?_
              refine own_iload X (pc' := 160) d3_158 rfl rfl ?_
              refine own_sipush X (v := (244 : Int32)) (pc' := 163) d3_160 rfl (by decide) ?_
              refine own_icmp_ne X (pct := 172) (pc' := 166) d3_163 rfl (by decide) (by decide) (fun _ => ?_) (fun hc => absurd hc (by simp only [Int32.lt_iff_toInt_lt, ← Int32.toInt_inj, Int32.reduceToInt] at hc43_2 hc51_3 hc73_4 hc133_5 hc144_6 ⊢; omega))
              refine own_sipush X (v := (191 : Int32)) (pc' := 175) d3_172 rfl (by decide) ?_
              refine own_istore X (pc' := 177) (Ls' := #[.val (.ref a), .val (.int fr), .val (.int to), .val (.int j), .val (.int (c0 &&& (255 : Int32))), .val (.int (4 : Int32)), .val (.int (144 : Int32)), .val (.int (191 : Int32)), s8, s9]) d3_175 rfl rfl ?_
              refine own_goto X (pc' := 182) d3_177 (by decide) (by decide) ?_
              refine own_iloadN X (pc' := 183) d3_182 rfl rfl ?_
              refine own_iloadN X (pc' := 184) d3_183 rfl rfl ?_
              refine own_isub X (r := (to - j)) (pc' := 185) d3_184 rfl rfl ?_
              rw [hmj]
              refine own_iload X (pc' := 187) d3_185 rfl rfl ?_
              refine own_icmp_ge X (pct := 192) (pc' := 190) d3_187 rfl (by decide) (by decide) (fun _ => ?_) (fun hc => absurd hc (by decide))
              refine own_aloadN X (pc' := 193) d3_192 rfl rfl rfl ?_
              refine own_iloadN X (pc' := 194) d3_193 rfl rfl ?_
              refine own_iconst X (v := (1 : Int32)) (pc' := 195) d3_194 rfl (by decide) ?_
              refine own_iadd X (r := (j + (1 : Int32))) (pc' := 196) d3_195 rfl rfl ?_
              refine own_baload X (v := c1) (pc' := 197) A G1.1 G1.2 d3_196 rfl ?_
              refine own_sipush X (v := (255 : Int32)) (pc' := 200) d3_197 rfl (by decide) ?_
              refine own_iand X (r := (c1 &&& (255 : Int32))) (pc' := 201) d3_200 rfl rfl ?_
              refine own_istore X (pc' := 203) (Ls' := #[.val (.ref a), .val (.int fr), .val (.int to), .val (.int j), .val (.int (c0 &&& (255 : Int32))), .val (.int (4 : Int32)), .val (.int (144 : Int32)), .val (.int (191 : Int32)), .val (.int (c1 &&& (255 : Int32))), s9]) d3_201 rfl (XS.store1 (o := s8) rfl hs8 rfl) ?_
              refine own_iload X (pc' := 205) d3_203 rfl rfl ?_
              refine own_iload X (pc' := 207) d3_205 rfl rfl ?_
              refine own_icmp_lt X (pct := 217) (pc' := 210) d3_207 rfl (by decide) (by decide) (fun hc207_16 => ?_) (fun hc207_16 => ?_)
              · refine own_iconst X (v := (0 : Int32)) (pc' := 218) d3_217 rfl (by decide) ?_
                subst hΦ
                refine own_retZ X d3_218 (by decide) (by decide) (by decide) ?_ rfl
                have q : own_sl [(c0 &&& (255 : Int32)), (c1 &&& (255 : Int32)), (c2 &&& (255 : Int32)), (c3 &&& (255 : Int32))] = 0 := by
                  rw [Int32.lt_iff_toInt_lt] at hc10_1
                  rw [Int32.lt_iff_toInt_lt] at hc43_2
                  rw [Int32.lt_iff_toInt_lt] at hc51_3
                  rw [Int32.lt_iff_toInt_lt] at hc73_4
                  rw [Int32.lt_iff_toInt_lt] at hc133_5
                  rw [← Int32.toInt_inj] at hc144_6
                  rw [Int32.lt_iff_toInt_lt] at hc207_16
                  simp only [Int32.reduceToInt] at hc10_1 hc43_2 hc51_3 hc73_4 hc133_5 hc144_6 hc207_16
                  show own_g 4 (c0 &&& (255 : Int32)) (c1 &&& (255 : Int32)) (c2 &&& (255 : Int32)) (c3 &&& (255 : Int32)) = 0
                  unfold own_g
                  repeat' split
                  all_goals first | rfl | omega
                rw [own_w0 q]
              · refine own_iload X (pc' := 212) d3_210 rfl rfl ?_
                refine own_iload X (pc' := 214) d3_212 rfl rfl ?_
                refine own_icmp_le X (pct := 219) (pc' := 217) d3_214 rfl (by decide) (by decide) (fun hc214_17 => ?_) (fun hc214_17 => ?_)
                · refine own_iconst X (v := (2 : Int32)) (pc' := 220) d3_219 rfl (by decide) ?_
                  refine own_istore X (pc' := 222) (Ls' := #[.val (.ref a), .val (.int fr), .val (.int to), .val (.int j), .val (.int (c0 &&& (255 : Int32))), .val (.int (4 : Int32)), .val (.int (144 : Int32)), .val (.int (191 : Int32)), .val (.int (c1 &&& (255 : Int32))), .val (.int (2 : Int32))]) d3_220 rfl (XS.store1 (o := s9) rfl hs9 rfl) ?_
                  refine own_iload X (pc' := 224) d3_222 rfl rfl ?_
                  refine own_iload X (pc' := 226) d3_224 rfl rfl ?_
                  refine own_icmp_ge X (pct := 253) (pc' := 229) d3_226 rfl (by decide) (by decide) (fun hc => absurd hc (by decide)) (fun _ => ?_)
                  refine own_aloadN X (pc' := 230) d3_229 rfl rfl rfl ?_
                  refine own_iloadN X (pc' := 231) d3_230 rfl rfl ?_
                  refine own_iload X (pc' := 233) d3_231 rfl rfl ?_
                  refine own_iadd X (r := (j + (2 : Int32))) (pc' := 234) d3_233 rfl rfl ?_
                  refine own_baload X (v := c2) (pc' := 235) A G2.1 G2.2 d3_234 rfl ?_
                  refine own_sipush X (v := (192 : Int32)) (pc' := 238) d3_235 rfl (by decide) ?_
                  refine own_iand X (r := (c2 &&& (192 : Int32))) (pc' := 239) d3_238 rfl rfl ?_
                  refine own_sipush X (v := (128 : Int32)) (pc' := 242) d3_239 rfl (by decide) ?_
                  refine own_icmp_eq X (pct := 247) (pc' := 245) d3_242 rfl (by decide) (by decide) (fun hc242_18 => ?_) (fun hc242_18 => ?_)
                  · refine own_iinc X (pc' := 250) (Ls' := #[.val (.ref a), .val (.int fr), .val (.int to), .val (.int j), .val (.int (c0 &&& (255 : Int32))), .val (.int (4 : Int32)), .val (.int (144 : Int32)), .val (.int (191 : Int32)), .val (.int (c1 &&& (255 : Int32))), .val (.int (3 : Int32))]) (w := (3 : Int32)) d3_247 rfl rfl (by decide) rfl ?_
                    refine own_goto X (pc' := 222) d3_250 (by decide) (by decide) ?_
                    refine own_iload X (pc' := 224) d3_222 rfl rfl ?_
                    refine own_iload X (pc' := 226) d3_224 rfl rfl ?_
                    refine own_icmp_ge X (pct := 253) (pc' := 229) d3_226 rfl (by decide) (by decide) (fun hc => absurd hc (by decide)) (fun _ => ?_)
                    refine own_aloadN X (pc' := 230) d3_229 rfl rfl rfl ?_
                    refine own_iloadN X (pc' := 231) d3_230 rfl rfl ?_
                    refine own_iload X (pc' := 233) d3_231 rfl rfl ?_
                    refine own_iadd X (r := (j + (3 : Int32))) (pc' := 234) d3_233 rfl rfl ?_
                    refine own_baload X (v := c3) (pc' := 235) A G3.1 G3.2 d3_234 rfl ?_
                    refine own_sipush X (v := (192 : Int32)) (pc' := 238) d3_235 rfl (by decide) ?_
                    refine own_iand X (r := (c3 &&& (192 : Int32))) (pc' := 239) d3_238 rfl rfl ?_
                    refine own_sipush X (v := (128 : Int32)) (pc' := 242) d3_239 rfl (by decide) ?_
                    refine own_icmp_eq X (pct := 247) (pc' := 245) d3_242 rfl (by decide) (by decide) (fun hc242_19 => ?_) (fun hc242_19 => ?_)
                    · refine own_iinc X (pc' := 250) (Ls' := #[.val (.ref a), .val (.int fr), .val (.int to), .val (.int j), .val (.int (c0 &&& (255 : Int32))), .val (.int (4 : Int32)), .val (.int (144 : Int32)), .val (.int (191 : Int32)), .val (.int (c1 &&& (255 : Int32))), .val (.int (4 : Int32))]) (w := (4 : Int32)) d3_247 rfl rfl (by decide) rfl ?_
                      refine own_goto X (pc' := 222) d3_250 (by decide) (by decide) ?_
                      refine own_iload X (pc' := 224) d3_222 rfl rfl ?_
                      refine own_iload X (pc' := 226) d3_224 rfl rfl ?_
                      refine own_icmp_ge X (pct := 253) (pc' := 229) d3_226 rfl (by decide) (by decide) (fun _ => ?_) (fun hc => absurd hc (by decide))
                      refine own_iloadN X (pc' := 254) d3_253 rfl rfl ?_
                      refine own_iload X (pc' := 256) d3_254 rfl rfl ?_
                      refine own_iadd X (r := (j + (4 : Int32))) (pc' := 257) d3_256 rfl rfl ?_
                      refine own_istoreN X (pc' := 258) (Ls' := #[.val (.ref a), .val (.int fr), .val (.int to), .val (.int (j + (4 : Int32))), .val (.int (c0 &&& (255 : Int32))), .val (.int (4 : Int32)), .val (.int (144 : Int32)), .val (.int (191 : Int32)), .val (.int (c1 &&& (255 : Int32))), .val (.int (4 : Int32))]) d3_257 rfl rfl ?_
                      refine own_goto X (pc' := 2) d3_258 (by decide) (by decide) ?_
                      have q : own_sl [(c0 &&& (255 : Int32)), (c1 &&& (255 : Int32)), (c2 &&& (255 : Int32)), (c3 &&& (255 : Int32))] = 4 := by
                        rw [Int32.lt_iff_toInt_lt] at hc10_1
                        rw [Int32.lt_iff_toInt_lt] at hc43_2
                        rw [Int32.lt_iff_toInt_lt] at hc51_3
                        rw [Int32.lt_iff_toInt_lt] at hc73_4
                        rw [Int32.lt_iff_toInt_lt] at hc133_5
                        rw [← Int32.toInt_inj] at hc144_6
                        rw [Int32.lt_iff_toInt_lt] at hc207_16
                        rw [Int32.lt_iff_toInt_lt] at hc214_17
                        rw [k2] at hc242_18
                        rw [k3] at hc242_19
                        simp only [Int32.reduceToInt] at hc10_1 hc43_2 hc51_3 hc73_4 hc133_5 hc144_6 hc207_16 hc214_17
                        show own_g 4 (c0 &&& (255 : Int32)) (c1 &&& (255 : Int32)) (c2 &&& (255 : Int32)) (c3 &&& (255 : Int32)) = 4
                        unfold own_g
                        repeat' split
                        all_goals first | rfl | omega
                      subst hΦ
                      rw [show own_w (f + 4) [(c0 &&& (255 : Int32)), (c1 &&& (255 : Int32)), (c2 &&& (255 : Int32)), (c3 &&& (255 : Int32))] = own_w (f + 3 + 0) [] from own_wc q (by decide) rfl]
                      exact wf_0 l Z n0 X A fr to (j + (4 : Int32))  (f + 3) (.val (.int (c0 &&& (255 : Int32)))) (.val (.int (4 : Int32))) (.val (.int (144 : Int32))) (.val (.int (191 : Int32))) (.val (.int (c1 &&& (255 : Int32)))) (.val (.int (4 : Int32))) (One.val rfl) (One.val rfl) (One.val rfl) (One.val rfl) (One.val rfl) (One.val rfl) (by rw [own_ad j 4 (by omega) (by decide)]; simp only [Int32.reduceToInt]; omega) (fun t i ht hi => by rw [own_ad j 4 (by omega) (by decide)] at hi; simp only [Int32.reduceToInt] at hi; exact H (t + 4) i (by omega) (by omega)) 
                    · refine own_iconst X (v := (0 : Int32)) (pc' := 246) d3_245 rfl (by decide) ?_
                      subst hΦ
                      refine own_retZ X d3_246 (by decide) (by decide) (by decide) ?_ rfl
                      have q : own_sl [(c0 &&& (255 : Int32)), (c1 &&& (255 : Int32)), (c2 &&& (255 : Int32)), (c3 &&& (255 : Int32))] = 0 := by
                        rw [Int32.lt_iff_toInt_lt] at hc10_1
                        rw [Int32.lt_iff_toInt_lt] at hc43_2
                        rw [Int32.lt_iff_toInt_lt] at hc51_3
                        rw [Int32.lt_iff_toInt_lt] at hc73_4
                        rw [Int32.lt_iff_toInt_lt] at hc133_5
                        rw [← Int32.toInt_inj] at hc144_6
                        rw [Int32.lt_iff_toInt_lt] at hc207_16
                        rw [Int32.lt_iff_toInt_lt] at hc214_17
                        rw [k2] at hc242_18
                        rw [k3] at hc242_19
                        simp only [Int32.reduceToInt] at hc10_1 hc43_2 hc51_3 hc73_4 hc133_5 hc144_6 hc207_16 hc214_17
                        show own_g 4 (c0 &&& (255 : Int32)) (c1 &&& (255 : Int32)) (c2 &&& (255 : Int32)) (c3 &&& (255 : Int32)) = 0
                        unfold own_g
                        repeat' split
                        all_goals first | rfl | omega
                      rw [own_w0 q]
                  · refine own_iconst X (v := (0 : Int32)) (pc' := 246) d3_245 rfl (by decide) ?_
                    subst hΦ
                    refine own_retZ X d3_246 (by decide) (by decide) (by decide) ?_ rfl
                    have q : own_sl [(c0 &&& (255 : Int32)), (c1 &&& (255 : Int32)), (c2 &&& (255 : Int32)), (c3 &&& (255 : Int32))] = 0 := by
                      rw [Int32.lt_iff_toInt_lt] at hc10_1
                      rw [Int32.lt_iff_toInt_lt] at hc43_2
                      rw [Int32.lt_iff_toInt_lt] at hc51_3
                      rw [Int32.lt_iff_toInt_lt] at hc73_4
                      rw [Int32.lt_iff_toInt_lt] at hc133_5
                      rw [← Int32.toInt_inj] at hc144_6
                      rw [Int32.lt_iff_toInt_lt] at hc207_16
                      rw [Int32.lt_iff_toInt_lt] at hc214_17
                      rw [k2] at hc242_18
                      simp only [Int32.reduceToInt] at hc10_1 hc43_2 hc51_3 hc73_4 hc133_5 hc144_6 hc207_16 hc214_17
                      show own_g 4 (c0 &&& (255 : Int32)) (c1 &&& (255 : Int32)) (c2 &&& (255 : Int32)) (c3 &&& (255 : Int32)) = 0
                      unfold own_g
                      repeat' split
                      all_goals first | rfl | omega
                    rw [own_w0 q]
                · refine own_iconst X (v := (0 : Int32)) (pc' := 218) d3_217 rfl (by decide) ?_
                  subst hΦ
                  refine own_retZ X d3_218 (by decide) (by decide) (by decide) ?_ rfl
                  have q : own_sl [(c0 &&& (255 : Int32)), (c1 &&& (255 : Int32)), (c2 &&& (255 : Int32)), (c3 &&& (255 : Int32))] = 0 := by
                    rw [Int32.lt_iff_toInt_lt] at hc10_1
                    rw [Int32.lt_iff_toInt_lt] at hc43_2
                    rw [Int32.lt_iff_toInt_lt] at hc51_3
                    rw [Int32.lt_iff_toInt_lt] at hc73_4
                    rw [Int32.lt_iff_toInt_lt] at hc133_5
                    rw [← Int32.toInt_inj] at hc144_6
                    rw [Int32.lt_iff_toInt_lt] at hc207_16
                    rw [Int32.lt_iff_toInt_lt] at hc214_17
                    simp only [Int32.reduceToInt] at hc10_1 hc43_2 hc51_3 hc73_4 hc133_5 hc144_6 hc207_16 hc214_17
                    show own_g 4 (c0 &&& (255 : Int32)) (c1 &&& (255 : Int32)) (c2 &&& (255 : Int32)) (c3 &&& (255 : Int32)) = 0
                    unfold own_g
                    repeat' split
                    all_goals first | rfl | omega
                  rw [own_w0 q]
        · refine own_iconst X (v := (3 : Int32)) (pc' := 77) d3_76 rfl (by decide) ?_
          refine own_istore X (pc' := 79) (Ls' := #[.val (.ref a), .val (.int fr), .val (.int to), .val (.int j), .val (.int (c0 &&& (255 : Int32))), .val (.int (3 : Int32)), .val (.int (128 : Int32)), .val (.int (191 : Int32)), s8, s9]) d3_77 rfl (XS.store1 (o := s5) rfl hs5 rfl) ?_
          refine own_iload X (pc' := 81) d3_79 rfl rfl ?_
          refine own_sipush X (v := (224 : Int32)) (pc' := 84) d3_81 rfl (by decide) ?_
          refine own_icmp_ne X (pct := 93) (pc' := 87) d3_84 rfl (by decide) (by decide) (fun hc84_20 => ?_) (fun hc84_20 => ?_)
          · refine own_sipush X (v := (128 : Int32)) (pc' := 96) d3_93 rfl (by decide) ?_
            refine own_istore X (pc' := 98) (Ls' := #[.val (.ref a), .val (.int fr), .val (.int to), .val (.int j), .val (.int (c0 &&& (255 : Int32))), .val (.int (3 : Int32)), .val (.int (128 : Int32)), .val (.int (191 : Int32)), s8, s9]) d3_96 rfl rfl ?_
            refine own_iload X (pc' := 100) d3_98 rfl rfl ?_
            refine own_sipush X (v := (237 : Int32)) (pc' := 103) d3_100 rfl (by decide) ?_
            refine own_icmp_ne X (pct := 112) (pc' := 106) d3_103 rfl (by decide) (by decide) (fun hc103_21 => ?_) (fun hc103_21 => ?_)
            · refine own_sipush X (v := (191 : Int32)) (pc' := 115) d3_112 rfl (by decide) ?_
              refine own_istore X (pc' := 117) (Ls' := #[.val (.ref a), .val (.int fr), .val (.int to), .val (.int j), .val (.int (c0 &&& (255 : Int32))), .val (.int (3 : Int32)), .val (.int (128 : Int32)), .val (.int (191 : Int32)), s8, s9]) d3_115 rfl rfl ?_
              refine own_goto X (pc' := 182) d3_117 (by decide) (by decide) ?_
              refine own_iloadN X (pc' := 183) d3_182 rfl rfl ?_
              refine own_iloadN X (pc' := 184) d3_183 rfl rfl ?_
              refine own_isub X (r := (to - j)) (pc' := 185) d3_184 rfl rfl ?_
              rw [hmj]
              refine own_iload X (pc' := 187) d3_185 rfl rfl ?_
              refine own_icmp_ge X (pct := 192) (pc' := 190) d3_187 rfl (by decide) (by decide) (fun _ => ?_) (fun hc => absurd hc (by decide))
              refine own_aloadN X (pc' := 193) d3_192 rfl rfl rfl ?_
              refine own_iloadN X (pc' := 194) d3_193 rfl rfl ?_
              refine own_iconst X (v := (1 : Int32)) (pc' := 195) d3_194 rfl (by decide) ?_
              refine own_iadd X (r := (j + (1 : Int32))) (pc' := 196) d3_195 rfl rfl ?_
              refine own_baload X (v := c1) (pc' := 197) A G1.1 G1.2 d3_196 rfl ?_
              refine own_sipush X (v := (255 : Int32)) (pc' := 200) d3_197 rfl (by decide) ?_
              refine own_iand X (r := (c1 &&& (255 : Int32))) (pc' := 201) d3_200 rfl rfl ?_
              refine own_istore X (pc' := 203) (Ls' := #[.val (.ref a), .val (.int fr), .val (.int to), .val (.int j), .val (.int (c0 &&& (255 : Int32))), .val (.int (3 : Int32)), .val (.int (128 : Int32)), .val (.int (191 : Int32)), .val (.int (c1 &&& (255 : Int32))), s9]) d3_201 rfl (XS.store1 (o := s8) rfl hs8 rfl) ?_
              refine own_iload X (pc' := 205) d3_203 rfl rfl ?_
              refine own_iload X (pc' := 207) d3_205 rfl rfl ?_
              refine own_icmp_lt X (pct := 217) (pc' := 210) d3_207 rfl (by decide) (by decide) (fun hc207_22 => ?_) (fun hc207_22 => ?_)
              · refine own_iconst X (v := (0 : Int32)) (pc' := 218) d3_217 rfl (by decide) ?_
                subst hΦ
                refine own_retZ X d3_218 (by decide) (by decide) (by decide) ?_ rfl
                have q : own_sl [(c0 &&& (255 : Int32)), (c1 &&& (255 : Int32)), (c2 &&& (255 : Int32)), (c3 &&& (255 : Int32))] = 0 := by
                  rw [Int32.lt_iff_toInt_lt] at hc10_1
                  rw [Int32.lt_iff_toInt_lt] at hc43_2
                  rw [Int32.lt_iff_toInt_lt] at hc51_3
                  rw [Int32.lt_iff_toInt_lt] at hc73_4
                  rw [← Int32.toInt_inj] at hc84_20
                  rw [← Int32.toInt_inj] at hc103_21
                  rw [Int32.lt_iff_toInt_lt] at hc207_22
                  simp only [Int32.reduceToInt] at hc10_1 hc43_2 hc51_3 hc73_4 hc84_20 hc103_21 hc207_22
                  show own_g 4 (c0 &&& (255 : Int32)) (c1 &&& (255 : Int32)) (c2 &&& (255 : Int32)) (c3 &&& (255 : Int32)) = 0
                  unfold own_g
                  repeat' split
                  all_goals first | rfl | omega
                rw [own_w0 q]
              · refine own_iload X (pc' := 212) d3_210 rfl rfl ?_
                refine own_iload X (pc' := 214) d3_212 rfl rfl ?_
                refine own_icmp_le X (pct := 219) (pc' := 217) d3_214 rfl (by decide) (by decide) (fun hc214_23 => ?_) (fun hc214_23 => ?_)
                · refine own_iconst X (v := (2 : Int32)) (pc' := 220) d3_219 rfl (by decide) ?_
                  refine own_istore X (pc' := 222) (Ls' := #[.val (.ref a), .val (.int fr), .val (.int to), .val (.int j), .val (.int (c0 &&& (255 : Int32))), .val (.int (3 : Int32)), .val (.int (128 : Int32)), .val (.int (191 : Int32)), .val (.int (c1 &&& (255 : Int32))), .val (.int (2 : Int32))]) d3_220 rfl (XS.store1 (o := s9) rfl hs9 rfl) ?_
                  refine own_iload X (pc' := 224) d3_222 rfl rfl ?_
                  refine own_iload X (pc' := 226) d3_224 rfl rfl ?_
                  refine own_icmp_ge X (pct := 253) (pc' := 229) d3_226 rfl (by decide) (by decide) (fun hc => absurd hc (by decide)) (fun _ => ?_)
                  refine own_aloadN X (pc' := 230) d3_229 rfl rfl rfl ?_
                  refine own_iloadN X (pc' := 231) d3_230 rfl rfl ?_
                  refine own_iload X (pc' := 233) d3_231 rfl rfl ?_
                  refine own_iadd X (r := (j + (2 : Int32))) (pc' := 234) d3_233 rfl rfl ?_
                  refine own_baload X (v := c2) (pc' := 235) A G2.1 G2.2 d3_234 rfl ?_
                  refine own_sipush X (v := (192 : Int32)) (pc' := 238) d3_235 rfl (by decide) ?_
                  refine own_iand X (r := (c2 &&& (192 : Int32))) (pc' := 239) d3_238 rfl rfl ?_
                  refine own_sipush X (v := (128 : Int32)) (pc' := 242) d3_239 rfl (by decide) ?_
                  refine own_icmp_eq X (pct := 247) (pc' := 245) d3_242 rfl (by decide) (by decide) (fun hc242_24 => ?_) (fun hc242_24 => ?_)
                  · refine own_iinc X (pc' := 250) (Ls' := #[.val (.ref a), .val (.int fr), .val (.int to), .val (.int j), .val (.int (c0 &&& (255 : Int32))), .val (.int (3 : Int32)), .val (.int (128 : Int32)), .val (.int (191 : Int32)), .val (.int (c1 &&& (255 : Int32))), .val (.int (3 : Int32))]) (w := (3 : Int32)) d3_247 rfl rfl (by decide) rfl ?_
                    refine own_goto X (pc' := 222) d3_250 (by decide) (by decide) ?_
                    refine own_iload X (pc' := 224) d3_222 rfl rfl ?_
                    refine own_iload X (pc' := 226) d3_224 rfl rfl ?_
                    refine own_icmp_ge X (pct := 253) (pc' := 229) d3_226 rfl (by decide) (by decide) (fun _ => ?_) (fun hc => absurd hc (by decide))
                    refine own_iloadN X (pc' := 254) d3_253 rfl rfl ?_
                    refine own_iload X (pc' := 256) d3_254 rfl rfl ?_
                    refine own_iadd X (r := (j + (3 : Int32))) (pc' := 257) d3_256 rfl rfl ?_
                    refine own_istoreN X (pc' := 258) (Ls' := #[.val (.ref a), .val (.int fr), .val (.int to), .val (.int (j + (3 : Int32))), .val (.int (c0 &&& (255 : Int32))), .val (.int (3 : Int32)), .val (.int (128 : Int32)), .val (.int (191 : Int32)), .val (.int (c1 &&& (255 : Int32))), .val (.int (3 : Int32))]) d3_257 rfl rfl ?_
                    refine own_goto X (pc' := 2) d3_258 (by decide) (by decide) ?_
                    have q : own_sl [(c0 &&& (255 : Int32)), (c1 &&& (255 : Int32)), (c2 &&& (255 : Int32)), (c3 &&& (255 : Int32))] = 3 := by
                      rw [Int32.lt_iff_toInt_lt] at hc10_1
                      rw [Int32.lt_iff_toInt_lt] at hc43_2
                      rw [Int32.lt_iff_toInt_lt] at hc51_3
                      rw [Int32.lt_iff_toInt_lt] at hc73_4
                      rw [← Int32.toInt_inj] at hc84_20
                      rw [← Int32.toInt_inj] at hc103_21
                      rw [Int32.lt_iff_toInt_lt] at hc207_22
                      rw [Int32.lt_iff_toInt_lt] at hc214_23
                      rw [k2] at hc242_24
                      simp only [Int32.reduceToInt] at hc10_1 hc43_2 hc51_3 hc73_4 hc84_20 hc103_21 hc207_22 hc214_23
                      show own_g 4 (c0 &&& (255 : Int32)) (c1 &&& (255 : Int32)) (c2 &&& (255 : Int32)) (c3 &&& (255 : Int32)) = 3
                      unfold own_g
                      repeat' split
                      all_goals first | rfl | omega
                    subst hΦ
                    rw [show own_w (f + 4) [(c0 &&& (255 : Int32)), (c1 &&& (255 : Int32)), (c2 &&& (255 : Int32)), (c3 &&& (255 : Int32))] = own_w (f + 2 + 1) [(c3 &&& (255 : Int32))] from own_wc q (by decide) rfl]
                    exact wf_1 l Z n0 X A fr to (j + (3 : Int32)) c3 (f + 2) (.val (.int (c0 &&& (255 : Int32)))) (.val (.int (3 : Int32))) (.val (.int (128 : Int32))) (.val (.int (191 : Int32))) (.val (.int (c1 &&& (255 : Int32)))) (.val (.int (3 : Int32))) (One.val rfl) (One.val rfl) (One.val rfl) (One.val rfl) (One.val rfl) (One.val rfl) (by rw [own_ad j 3 (by omega) (by decide)]; simp only [Int32.reduceToInt]; omega) (fun t i ht hi => by rw [own_ad j 3 (by omega) (by decide)] at hi; simp only [Int32.reduceToInt] at hi; exact H (t + 3) i (by omega) (by omega)) b3
                  · refine own_iconst X (v := (0 : Int32)) (pc' := 246) d3_245 rfl (by decide) ?_
                    subst hΦ
                    refine own_retZ X d3_246 (by decide) (by decide) (by decide) ?_ rfl
                    have q : own_sl [(c0 &&& (255 : Int32)), (c1 &&& (255 : Int32)), (c2 &&& (255 : Int32)), (c3 &&& (255 : Int32))] = 0 := by
                      rw [Int32.lt_iff_toInt_lt] at hc10_1
                      rw [Int32.lt_iff_toInt_lt] at hc43_2
                      rw [Int32.lt_iff_toInt_lt] at hc51_3
                      rw [Int32.lt_iff_toInt_lt] at hc73_4
                      rw [← Int32.toInt_inj] at hc84_20
                      rw [← Int32.toInt_inj] at hc103_21
                      rw [Int32.lt_iff_toInt_lt] at hc207_22
                      rw [Int32.lt_iff_toInt_lt] at hc214_23
                      rw [k2] at hc242_24
                      simp only [Int32.reduceToInt] at hc10_1 hc43_2 hc51_3 hc73_4 hc84_20 hc103_21 hc207_22 hc214_23
                      show own_g 4 (c0 &&& (255 : Int32)) (c1 &&& (255 : Int32)) (c2 &&& (255 : Int32)) (c3 &&& (255 : Int32)) = 0
                      unfold own_g
                      repeat' split
                      all_goals first | rfl | omega
                    rw [own_w0 q]
                · refine own_iconst X (v := (0 : Int32)) (pc' := 218) d3_217 rfl (by decide) ?_
                  subst hΦ
                  refine own_retZ X d3_218 (by decide) (by decide) (by decide) ?_ rfl
                  have q : own_sl [(c0 &&& (255 : Int32)), (c1 &&& (255 : Int32)), (c2 &&& (255 : Int32)), (c3 &&& (255 : Int32))] = 0 := by
                    rw [Int32.lt_iff_toInt_lt] at hc10_1
                    rw [Int32.lt_iff_toInt_lt] at hc43_2
                    rw [Int32.lt_iff_toInt_lt] at hc51_3
                    rw [Int32.lt_iff_toInt_lt] at hc73_4
                    rw [← Int32.toInt_inj] at hc84_20
                    rw [← Int32.toInt_inj] at hc103_21
                    rw [Int32.lt_iff_toInt_lt] at hc207_22
                    rw [Int32.lt_iff_toInt_lt] at hc214_23
                    simp only [Int32.reduceToInt] at hc10_1 hc43_2 hc51_3 hc73_4 hc84_20 hc103_21 hc207_22 hc214_23
                    show own_g 4 (c0 &&& (255 : Int32)) (c1 &&& (255 : Int32)) (c2 &&& (255 : Int32)) (c3 &&& (255 : Int32)) = 0
                    unfold own_g
                    repeat' split
                    all_goals first | rfl | omega
                  rw [own_w0 q]
            · refine own_sipush X (v := (159 : Int32)) (pc' := 109) d3_106 rfl (by decide) ?_
              refine own_goto X (pc' := 115) d3_109 (by decide) (by decide) ?_
              refine own_istore X (pc' := 117) (Ls' := #[.val (.ref a), .val (.int fr), .val (.int to), .val (.int j), .val (.int (c0 &&& (255 : Int32))), .val (.int (3 : Int32)), .val (.int (128 : Int32)), .val (.int (159 : Int32)), s8, s9]) d3_115 rfl rfl ?_
              refine own_goto X (pc' := 182) d3_117 (by decide) (by decide) ?_
              refine own_iloadN X (pc' := 183) d3_182 rfl rfl ?_
              refine own_iloadN X (pc' := 184) d3_183 rfl rfl ?_
              refine own_isub X (r := (to - j)) (pc' := 185) d3_184 rfl rfl ?_
              rw [hmj]
              refine own_iload X (pc' := 187) d3_185 rfl rfl ?_
              refine own_icmp_ge X (pct := 192) (pc' := 190) d3_187 rfl (by decide) (by decide) (fun _ => ?_) (fun hc => absurd hc (by decide))
              refine own_aloadN X (pc' := 193) d3_192 rfl rfl rfl ?_
              refine own_iloadN X (pc' := 194) d3_193 rfl rfl ?_
              refine own_iconst X (v := (1 : Int32)) (pc' := 195) d3_194 rfl (by decide) ?_
              refine own_iadd X (r := (j + (1 : Int32))) (pc' := 196) d3_195 rfl rfl ?_
              refine own_baload X (v := c1) (pc' := 197) A G1.1 G1.2 d3_196 rfl ?_
              refine own_sipush X (v := (255 : Int32)) (pc' := 200) d3_197 rfl (by decide) ?_
              refine own_iand X (r := (c1 &&& (255 : Int32))) (pc' := 201) d3_200 rfl rfl ?_
              refine own_istore X (pc' := 203) (Ls' := #[.val (.ref a), .val (.int fr), .val (.int to), .val (.int j), .val (.int (c0 &&& (255 : Int32))), .val (.int (3 : Int32)), .val (.int (128 : Int32)), .val (.int (159 : Int32)), .val (.int (c1 &&& (255 : Int32))), s9]) d3_201 rfl (XS.store1 (o := s8) rfl hs8 rfl) ?_
              refine own_iload X (pc' := 205) d3_203 rfl rfl ?_
              refine own_iload X (pc' := 207) d3_205 rfl rfl ?_
              refine own_icmp_lt X (pct := 217) (pc' := 210) d3_207 rfl (by decide) (by decide) (fun hc207_25 => ?_) (fun hc207_25 => ?_)
              · refine own_iconst X (v := (0 : Int32)) (pc' := 218) d3_217 rfl (by decide) ?_
                subst hΦ
                refine own_retZ X d3_218 (by decide) (by decide) (by decide) ?_ rfl
                have q : own_sl [(c0 &&& (255 : Int32)), (c1 &&& (255 : Int32)), (c2 &&& (255 : Int32)), (c3 &&& (255 : Int32))] = 0 := by
                  rw [Int32.lt_iff_toInt_lt] at hc10_1
                  rw [Int32.lt_iff_toInt_lt] at hc43_2
                  rw [Int32.lt_iff_toInt_lt] at hc51_3
                  rw [Int32.lt_iff_toInt_lt] at hc73_4
                  rw [← Int32.toInt_inj] at hc84_20
                  rw [← Int32.toInt_inj] at hc103_21
                  rw [Int32.lt_iff_toInt_lt] at hc207_25
                  simp only [Int32.reduceToInt] at hc10_1 hc43_2 hc51_3 hc73_4 hc84_20 hc103_21 hc207_25
                  show own_g 4 (c0 &&& (255 : Int32)) (c1 &&& (255 : Int32)) (c2 &&& (255 : Int32)) (c3 &&& (255 : Int32)) = 0
                  unfold own_g
                  repeat' split
                  all_goals first | rfl | omega
                rw [own_w0 q]
              · refine own_iload X (pc' := 212) d3_210 rfl rfl ?_
                refine own_iload X (pc' := 214) d3_212 rfl rfl ?_
                refine own_icmp_le X (pct := 219) (pc' := 217) d3_214 rfl (by decide) (by decide) (fun hc214_26 => ?_) (fun hc214_26 => ?_)
                · refine own_iconst X (v := (2 : Int32)) (pc' := 220) d3_219 rfl (by decide) ?_
                  refine own_istore X (pc' := 222) (Ls' := #[.val (.ref a), .val (.int fr), .val (.int to), .val (.int j), .val (.int (c0 &&& (255 : Int32))), .val (.int (3 : Int32)), .val (.int (128 : Int32)), .val (.int (159 : Int32)), .val (.int (c1 &&& (255 : Int32))), .val (.int (2 : Int32))]) d3_220 rfl (XS.store1 (o := s9) rfl hs9 rfl) ?_
                  refine own_iload X (pc' := 224) d3_222 rfl rfl ?_
                  refine own_iload X (pc' := 226) d3_224 rfl rfl ?_
                  refine own_icmp_ge X (pct := 253) (pc' := 229) d3_226 rfl (by decide) (by decide) (fun hc => absurd hc (by decide)) (fun _ => ?_)
                  refine own_aloadN X (pc' := 230) d3_229 rfl rfl rfl ?_
                  refine own_iloadN X (pc' := 231) d3_230 rfl rfl ?_
                  refine own_iload X (pc' := 233) d3_231 rfl rfl ?_
                  refine own_iadd X (r := (j + (2 : Int32))) (pc' := 234) d3_233 rfl rfl ?_
                  refine own_baload X (v := c2) (pc' := 235) A G2.1 G2.2 d3_234 rfl ?_
                  refine own_sipush X (v := (192 : Int32)) (pc' := 238) d3_235 rfl (by decide) ?_
                  refine own_iand X (r := (c2 &&& (192 : Int32))) (pc' := 239) d3_238 rfl rfl ?_
                  refine own_sipush X (v := (128 : Int32)) (pc' := 242) d3_239 rfl (by decide) ?_
                  refine own_icmp_eq X (pct := 247) (pc' := 245) d3_242 rfl (by decide) (by decide) (fun hc242_27 => ?_) (fun hc242_27 => ?_)
                  · refine own_iinc X (pc' := 250) (Ls' := #[.val (.ref a), .val (.int fr), .val (.int to), .val (.int j), .val (.int (c0 &&& (255 : Int32))), .val (.int (3 : Int32)), .val (.int (128 : Int32)), .val (.int (159 : Int32)), .val (.int (c1 &&& (255 : Int32))), .val (.int (3 : Int32))]) (w := (3 : Int32)) d3_247 rfl rfl (by decide) rfl ?_
                    refine own_goto X (pc' := 222) d3_250 (by decide) (by decide) ?_
                    refine own_iload X (pc' := 224) d3_222 rfl rfl ?_
                    refine own_iload X (pc' := 226) d3_224 rfl rfl ?_
                    refine own_icmp_ge X (pct := 253) (pc' := 229) d3_226 rfl (by decide) (by decide) (fun _ => ?_) (fun hc => absurd hc (by decide))
                    refine own_iloadN X (pc' := 254) d3_253 rfl rfl ?_
                    refine own_iload X (pc' := 256) d3_254 rfl rfl ?_
                    refine own_iadd X (r := (j + (3 : Int32))) (pc' := 257) d3_256 rfl rfl ?_
                    refine own_istoreN X (pc' := 258) (Ls' := #[.val (.ref a), .val (.int fr), .val (.int to), .val (.int (j + (3 : Int32))), .val (.int (c0 &&& (255 : Int32))), .val (.int (3 : Int32)), .val (.int (128 : Int32)), .val (.int (159 : Int32)), .val (.int (c1 &&& (255 : Int32))), .val (.int (3 : Int32))]) d3_257 rfl rfl ?_
                    refine own_goto X (pc' := 2) d3_258 (by decide) (by decide) ?_
                    have q : own_sl [(c0 &&& (255 : Int32)), (c1 &&& (255 : Int32)), (c2 &&& (255 : Int32)), (c3 &&& (255 : Int32))] = 3 := by
                      rw [Int32.lt_iff_toInt_lt] at hc10_1
                      rw [Int32.lt_iff_toInt_lt] at hc43_2
                      rw [Int32.lt_iff_toInt_lt] at hc51_3
                      rw [Int32.lt_iff_toInt_lt] at hc73_4
                      rw [← Int32.toInt_inj] at hc84_20
                      rw [← Int32.toInt_inj] at hc103_21
                      rw [Int32.lt_iff_toInt_lt] at hc207_25
                      rw [Int32.lt_iff_toInt_lt] at hc214_26
                      rw [k2] at hc242_27
                      simp only [Int32.reduceToInt] at hc10_1 hc43_2 hc51_3 hc73_4 hc84_20 hc103_21 hc207_25 hc214_26
                      show own_g 4 (c0 &&& (255 : Int32)) (c1 &&& (255 : Int32)) (c2 &&& (255 : Int32)) (c3 &&& (255 : Int32)) = 3
                      unfold own_g
                      repeat' split
                      all_goals first | rfl | omega
                    subst hΦ
                    rw [show own_w (f + 4) [(c0 &&& (255 : Int32)), (c1 &&& (255 : Int32)), (c2 &&& (255 : Int32)), (c3 &&& (255 : Int32))] = own_w (f + 2 + 1) [(c3 &&& (255 : Int32))] from own_wc q (by decide) rfl]
                    exact wf_1 l Z n0 X A fr to (j + (3 : Int32)) c3 (f + 2) (.val (.int (c0 &&& (255 : Int32)))) (.val (.int (3 : Int32))) (.val (.int (128 : Int32))) (.val (.int (159 : Int32))) (.val (.int (c1 &&& (255 : Int32)))) (.val (.int (3 : Int32))) (One.val rfl) (One.val rfl) (One.val rfl) (One.val rfl) (One.val rfl) (One.val rfl) (by rw [own_ad j 3 (by omega) (by decide)]; simp only [Int32.reduceToInt]; omega) (fun t i ht hi => by rw [own_ad j 3 (by omega) (by decide)] at hi; simp only [Int32.reduceToInt] at hi; exact H (t + 3) i (by omega) (by omega)) b3
                  · refine own_iconst X (v := (0 : Int32)) (pc' := 246) d3_245 rfl (by decide) ?_
                    subst hΦ
                    refine own_retZ X d3_246 (by decide) (by decide) (by decide) ?_ rfl
                    have q : own_sl [(c0 &&& (255 : Int32)), (c1 &&& (255 : Int32)), (c2 &&& (255 : Int32)), (c3 &&& (255 : Int32))] = 0 := by
                      rw [Int32.lt_iff_toInt_lt] at hc10_1
                      rw [Int32.lt_iff_toInt_lt] at hc43_2
                      rw [Int32.lt_iff_toInt_lt] at hc51_3
                      rw [Int32.lt_iff_toInt_lt] at hc73_4
                      rw [← Int32.toInt_inj] at hc84_20
                      rw [← Int32.toInt_inj] at hc103_21
                      rw [Int32.lt_iff_toInt_lt] at hc207_25
                      rw [Int32.lt_iff_toInt_lt] at hc214_26
                      rw [k2] at hc242_27
                      simp only [Int32.reduceToInt] at hc10_1 hc43_2 hc51_3 hc73_4 hc84_20 hc103_21 hc207_25 hc214_26
                      show own_g 4 (c0 &&& (255 : Int32)) (c1 &&& (255 : Int32)) (c2 &&& (255 : Int32)) (c3 &&& (255 : Int32)) = 0
                      unfold own_g
                      repeat' split
                      all_goals first | rfl | omega
                    rw [own_w0 q]
                · refine own_iconst X (v := (0 : Int32)) (pc' := 218) d3_217 rfl (by decide) ?_
                  subst hΦ
                  refine own_retZ X d3_218 (by decide) (by decide) (by decide) ?_ rfl
                  have q : own_sl [(c0 &&& (255 : Int32)), (c1 &&& (255 : Int32)), (c2 &&& (255 : Int32)), (c3 &&& (255 : Int32))] = 0 := by
                    rw [Int32.lt_iff_toInt_lt] at hc10_1
                    rw [Int32.lt_iff_toInt_lt] at hc43_2
                    rw [Int32.lt_iff_toInt_lt] at hc51_3
                    rw [Int32.lt_iff_toInt_lt] at hc73_4
                    rw [← Int32.toInt_inj] at hc84_20
                    rw [← Int32.toInt_inj] at hc103_21
                    rw [Int32.lt_iff_toInt_lt] at hc207_25
                    rw [Int32.lt_iff_toInt_lt] at hc214_26
                    simp only [Int32.reduceToInt] at hc10_1 hc43_2 hc51_3 hc73_4 hc84_20 hc103_21 hc207_25 hc214_26
                    show own_g 4 (c0 &&& (255 : Int32)) (c1 &&& (255 : Int32)) (c2 &&& (255 : Int32)) (c3 &&& (255 : Int32)) = 0
                    unfold own_g
                    repeat' split
                    all_goals first | rfl | omega
                  rw [own_w0 q]
          · refine own_sipush X (v := (160 : Int32)) (pc' := 90) d3_87 rfl (by decide) ?_
            refine own_goto X (pc' := 96) d3_90 (by decide) (by decide) ?_
            refine own_istore X (pc' := 98) (Ls' := #[.val (.ref a), .val (.int fr), .val (.int to), .val (.int j), .val (.int (c0 &&& (255 : Int32))), .val (.int (3 : Int32)), .val (.int (160 : Int32)), .val (.int (191 : Int32)), s8, s9]) d3_96 rfl rfl ?_
            refine own_iload X (pc' := 100) d3_98 rfl rfl ?_
            refine own_sipush X (v := (237 : Int32)) (pc' := 103) d3_100 rfl (by decide) ?_
            refine own_icmp_ne X (pct := 112) (pc' := 106) d3_103 rfl (by decide) (by decide) (fun _ => ?_) (fun hc => absurd hc (by simp only [Int32.lt_iff_toInt_lt, ← Int32.toInt_inj, Int32.reduceToInt] at hc43_2 hc51_3 hc73_4 hc84_20 ⊢; omega))
            refine own_sipush X (v := (191 : Int32)) (pc' := 115) d3_112 rfl (by decide) ?_
            refine own_istore X (pc' := 117) (Ls' := #[.val (.ref a), .val (.int fr), .val (.int to), .val (.int j), .val (.int (c0 &&& (255 : Int32))), .val (.int (3 : Int32)), .val (.int (160 : Int32)), .val (.int (191 : Int32)), s8, s9]) d3_115 rfl rfl ?_
            refine own_goto X (pc' := 182) d3_117 (by decide) (by decide) ?_
            refine own_iloadN X (pc' := 183) d3_182 rfl rfl ?_
            refine own_iloadN X (pc' := 184) d3_183 rfl rfl ?_
            refine own_isub X (r := (to - j)) (pc' := 185) d3_184 rfl rfl ?_
            rw [hmj]
            refine own_iload X (pc' := 187) d3_185 rfl rfl ?_
            refine own_icmp_ge X (pct := 192) (pc' := 190) d3_187 rfl (by decide) (by decide) (fun _ => ?_) (fun hc => absurd hc (by decide))
            refine own_aloadN X (pc' := 193) d3_192 rfl rfl rfl ?_
            refine own_iloadN X (pc' := 194) d3_193 rfl rfl ?_
            refine own_iconst X (v := (1 : Int32)) (pc' := 195) d3_194 rfl (by decide) ?_
            refine own_iadd X (r := (j + (1 : Int32))) (pc' := 196) d3_195 rfl rfl ?_
            refine own_baload X (v := c1) (pc' := 197) A G1.1 G1.2 d3_196 rfl ?_
            refine own_sipush X (v := (255 : Int32)) (pc' := 200) d3_197 rfl (by decide) ?_
            refine own_iand X (r := (c1 &&& (255 : Int32))) (pc' := 201) d3_200 rfl rfl ?_
            refine own_istore X (pc' := 203) (Ls' := #[.val (.ref a), .val (.int fr), .val (.int to), .val (.int j), .val (.int (c0 &&& (255 : Int32))), .val (.int (3 : Int32)), .val (.int (160 : Int32)), .val (.int (191 : Int32)), .val (.int (c1 &&& (255 : Int32))), s9]) d3_201 rfl (XS.store1 (o := s8) rfl hs8 rfl) ?_
            refine own_iload X (pc' := 205) d3_203 rfl rfl ?_
            refine own_iload X (pc' := 207) d3_205 rfl rfl ?_
            refine own_icmp_lt X (pct := 217) (pc' := 210) d3_207 rfl (by decide) (by decide) (fun hc207_28 => ?_) (fun hc207_28 => ?_)
            · refine own_iconst X (v := (0 : Int32)) (pc' := 218) d3_217 rfl (by decide) ?_
              subst hΦ
              refine own_retZ X d3_218 (by decide) (by decide) (by decide) ?_ rfl
              have q : own_sl [(c0 &&& (255 : Int32)), (c1 &&& (255 : Int32)), (c2 &&& (255 : Int32)), (c3 &&& (255 : Int32))] = 0 := by
                rw [Int32.lt_iff_toInt_lt] at hc10_1
                rw [Int32.lt_iff_toInt_lt] at hc43_2
                rw [Int32.lt_iff_toInt_lt] at hc51_3
                rw [Int32.lt_iff_toInt_lt] at hc73_4
                rw [← Int32.toInt_inj] at hc84_20
                rw [Int32.lt_iff_toInt_lt] at hc207_28
                simp only [Int32.reduceToInt] at hc10_1 hc43_2 hc51_3 hc73_4 hc84_20 hc207_28
                show own_g 4 (c0 &&& (255 : Int32)) (c1 &&& (255 : Int32)) (c2 &&& (255 : Int32)) (c3 &&& (255 : Int32)) = 0
                unfold own_g
                repeat' split
                all_goals first | rfl | omega
              rw [own_w0 q]
            · refine own_iload X (pc' := 212) d3_210 rfl rfl ?_
              refine own_iload X (pc' := 214) d3_212 rfl rfl ?_
              refine own_icmp_le X (pct := 219) (pc' := 217) d3_214 rfl (by decide) (by decide) (fun hc214_29 => ?_) (fun hc214_29 => ?_)
              · refine own_iconst X (v := (2 : Int32)) (pc' := 220) d3_219 rfl (by decide) ?_
                refine own_istore X (pc' := 222) (Ls' := #[.val (.ref a), .val (.int fr), .val (.int to), .val (.int j), .val (.int (c0 &&& (255 : Int32))), .val (.int (3 : Int32)), .val (.int (160 : Int32)), .val (.int (191 : Int32)), .val (.int (c1 &&& (255 : Int32))), .val (.int (2 : Int32))]) d3_220 rfl (XS.store1 (o := s9) rfl hs9 rfl) ?_
                refine own_iload X (pc' := 224) d3_222 rfl rfl ?_
                refine own_iload X (pc' := 226) d3_224 rfl rfl ?_
                refine own_icmp_ge X (pct := 253) (pc' := 229) d3_226 rfl (by decide) (by decide) (fun hc => absurd hc (by decide)) (fun _ => ?_)
                refine own_aloadN X (pc' := 230) d3_229 rfl rfl rfl ?_
                refine own_iloadN X (pc' := 231) d3_230 rfl rfl ?_
                refine own_iload X (pc' := 233) d3_231 rfl rfl ?_
                refine own_iadd X (r := (j + (2 : Int32))) (pc' := 234) d3_233 rfl rfl ?_
                refine own_baload X (v := c2) (pc' := 235) A G2.1 G2.2 d3_234 rfl ?_
                refine own_sipush X (v := (192 : Int32)) (pc' := 238) d3_235 rfl (by decide) ?_
                refine own_iand X (r := (c2 &&& (192 : Int32))) (pc' := 239) d3_238 rfl rfl ?_
                refine own_sipush X (v := (128 : Int32)) (pc' := 242) d3_239 rfl (by decide) ?_
                refine own_icmp_eq X (pct := 247) (pc' := 245) d3_242 rfl (by decide) (by decide) (fun hc242_30 => ?_) (fun hc242_30 => ?_)
                · refine own_iinc X (pc' := 250) (Ls' := #[.val (.ref a), .val (.int fr), .val (.int to), .val (.int j), .val (.int (c0 &&& (255 : Int32))), .val (.int (3 : Int32)), .val (.int (160 : Int32)), .val (.int (191 : Int32)), .val (.int (c1 &&& (255 : Int32))), .val (.int (3 : Int32))]) (w := (3 : Int32)) d3_247 rfl rfl (by decide) rfl ?_
                  refine own_goto X (pc' := 222) d3_250 (by decide) (by decide) ?_
                  refine own_iload X (pc' := 224) d3_222 rfl rfl ?_
                  refine own_iload X (pc' := 226) d3_224 rfl rfl ?_
                  refine own_icmp_ge X (pct := 253) (pc' := 229) d3_226 rfl (by decide) (by decide) (fun _ => ?_) (fun hc => absurd hc (by decide))
                  refine own_iloadN X (pc' := 254) d3_253 rfl rfl ?_
                  refine own_iload X (pc' := 256) d3_254 rfl rfl ?_
                  refine own_iadd X (r := (j + (3 : Int32))) (pc' := 257) d3_256 rfl rfl ?_
                  refine own_istoreN X (pc' := 258) (Ls' := #[.val (.ref a), .val (.int fr), .val (.int to), .val (.int (j + (3 : Int32))), .val (.int (c0 &&& (255 : Int32))), .val (.int (3 : Int32)), .val (.int (160 : Int32)), .val (.int (191 : Int32)), .val (.int (c1 &&& (255 : Int32))), .val (.int (3 : Int32))]) d3_257 rfl rfl ?_
                  refine own_goto X (pc' := 2) d3_258 (by decide) (by decide) ?_
                  have q : own_sl [(c0 &&& (255 : Int32)), (c1 &&& (255 : Int32)), (c2 &&& (255 : Int32)), (c3 &&& (255 : Int32))] = 3 := by
                    rw [Int32.lt_iff_toInt_lt] at hc10_1
                    rw [Int32.lt_iff_toInt_lt] at hc43_2
                    rw [Int32.lt_iff_toInt_lt] at hc51_3
                    rw [Int32.lt_iff_toInt_lt] at hc73_4
                    rw [← Int32.toInt_inj] at hc84_20
                    rw [Int32.lt_iff_toInt_lt] at hc207_28
                    rw [Int32.lt_iff_toInt_lt] at hc214_29
                    rw [k2] at hc242_30
                    simp only [Int32.reduceToInt] at hc10_1 hc43_2 hc51_3 hc73_4 hc84_20 hc207_28 hc214_29
                    show own_g 4 (c0 &&& (255 : Int32)) (c1 &&& (255 : Int32)) (c2 &&& (255 : Int32)) (c3 &&& (255 : Int32)) = 3
                    unfold own_g
                    repeat' split
                    all_goals first | rfl | omega
                  subst hΦ
                  rw [show own_w (f + 4) [(c0 &&& (255 : Int32)), (c1 &&& (255 : Int32)), (c2 &&& (255 : Int32)), (c3 &&& (255 : Int32))] = own_w (f + 2 + 1) [(c3 &&& (255 : Int32))] from own_wc q (by decide) rfl]
                  exact wf_1 l Z n0 X A fr to (j + (3 : Int32)) c3 (f + 2) (.val (.int (c0 &&& (255 : Int32)))) (.val (.int (3 : Int32))) (.val (.int (160 : Int32))) (.val (.int (191 : Int32))) (.val (.int (c1 &&& (255 : Int32)))) (.val (.int (3 : Int32))) (One.val rfl) (One.val rfl) (One.val rfl) (One.val rfl) (One.val rfl) (One.val rfl) (by rw [own_ad j 3 (by omega) (by decide)]; simp only [Int32.reduceToInt]; omega) (fun t i ht hi => by rw [own_ad j 3 (by omega) (by decide)] at hi; simp only [Int32.reduceToInt] at hi; exact H (t + 3) i (by omega) (by omega)) b3
                · refine own_iconst X (v := (0 : Int32)) (pc' := 246) d3_245 rfl (by decide) ?_
                  subst hΦ
                  refine own_retZ X d3_246 (by decide) (by decide) (by decide) ?_ rfl
                  have q : own_sl [(c0 &&& (255 : Int32)), (c1 &&& (255 : Int32)), (c2 &&& (255 : Int32)), (c3 &&& (255 : Int32))] = 0 := by
                    rw [Int32.lt_iff_toInt_lt] at hc10_1
                    rw [Int32.lt_iff_toInt_lt] at hc43_2
                    rw [Int32.lt_iff_toInt_lt] at hc51_3
                    rw [Int32.lt_iff_toInt_lt] at hc73_4
                    rw [← Int32.toInt_inj] at hc84_20
                    rw [Int32.lt_iff_toInt_lt] at hc207_28
                    rw [Int32.lt_iff_toInt_lt] at hc214_29
                    rw [k2] at hc242_30
                    simp only [Int32.reduceToInt] at hc10_1 hc43_2 hc51_3 hc73_4 hc84_20 hc207_28 hc214_29
                    show own_g 4 (c0 &&& (255 : Int32)) (c1 &&& (255 : Int32)) (c2 &&& (255 : Int32)) (c3 &&& (255 : Int32)) = 0
                    unfold own_g
                    repeat' split
                    all_goals first | rfl | omega
                  rw [own_w0 q]
              · refine own_iconst X (v := (0 : Int32)) (pc' := 218) d3_217 rfl (by decide) ?_
                subst hΦ
                refine own_retZ X d3_218 (by decide) (by decide) (by decide) ?_ rfl
                have q : own_sl [(c0 &&& (255 : Int32)), (c1 &&& (255 : Int32)), (c2 &&& (255 : Int32)), (c3 &&& (255 : Int32))] = 0 := by
                  rw [Int32.lt_iff_toInt_lt] at hc10_1
                  rw [Int32.lt_iff_toInt_lt] at hc43_2
                  rw [Int32.lt_iff_toInt_lt] at hc51_3
                  rw [Int32.lt_iff_toInt_lt] at hc73_4
                  rw [← Int32.toInt_inj] at hc84_20
                  rw [Int32.lt_iff_toInt_lt] at hc207_28
                  rw [Int32.lt_iff_toInt_lt] at hc214_29
                  simp only [Int32.reduceToInt] at hc10_1 hc43_2 hc51_3 hc73_4 hc84_20 hc207_28 hc214_29
                  show own_g 4 (c0 &&& (255 : Int32)) (c1 &&& (255 : Int32)) (c2 &&& (255 : Int32)) (c3 &&& (255 : Int32)) = 0
                  unfold own_g
                  repeat' split
                  all_goals first | rfl | omega
                rw [own_w0 q]
      · refine own_iconst X (v := (2 : Int32)) (pc' := 55) d3_54 rfl (by decide) ?_
        refine own_istore X (pc' := 57) (Ls' := #[.val (.ref a), .val (.int fr), .val (.int to), .val (.int j), .val (.int (c0 &&& (255 : Int32))), .val (.int (2 : Int32)), .val (.int (128 : Int32)), .val (.int (191 : Int32)), s8, s9]) d3_55 rfl (XS.store1 (o := s5) rfl hs5 rfl) ?_
        refine own_goto X (pc' := 182) d3_57 (by decide) (by decide) ?_
        refine own_iloadN X (pc' := 183) d3_182 rfl rfl ?_
        refine own_iloadN X (pc' := 184) d3_183 rfl rfl ?_
        refine own_isub X (r := (to - j)) (pc' := 185) d3_184 rfl rfl ?_
        rw [hmj]
        refine own_iload X (pc' := 187) d3_185 rfl rfl ?_
        refine own_icmp_ge X (pct := 192) (pc' := 190) d3_187 rfl (by decide) (by decide) (fun _ => ?_) (fun hc => absurd hc (by decide))
        refine own_aloadN X (pc' := 193) d3_192 rfl rfl rfl ?_
        refine own_iloadN X (pc' := 194) d3_193 rfl rfl ?_
        refine own_iconst X (v := (1 : Int32)) (pc' := 195) d3_194 rfl (by decide) ?_
        refine own_iadd X (r := (j + (1 : Int32))) (pc' := 196) d3_195 rfl rfl ?_
        refine own_baload X (v := c1) (pc' := 197) A G1.1 G1.2 d3_196 rfl ?_
        refine own_sipush X (v := (255 : Int32)) (pc' := 200) d3_197 rfl (by decide) ?_
        refine own_iand X (r := (c1 &&& (255 : Int32))) (pc' := 201) d3_200 rfl rfl ?_
        refine own_istore X (pc' := 203) (Ls' := #[.val (.ref a), .val (.int fr), .val (.int to), .val (.int j), .val (.int (c0 &&& (255 : Int32))), .val (.int (2 : Int32)), .val (.int (128 : Int32)), .val (.int (191 : Int32)), .val (.int (c1 &&& (255 : Int32))), s9]) d3_201 rfl (XS.store1 (o := s8) rfl hs8 rfl) ?_
        refine own_iload X (pc' := 205) d3_203 rfl rfl ?_
        refine own_iload X (pc' := 207) d3_205 rfl rfl ?_
        refine own_icmp_lt X (pct := 217) (pc' := 210) d3_207 rfl (by decide) (by decide) (fun hc207_31 => ?_) (fun hc207_31 => ?_)
        · refine own_iconst X (v := (0 : Int32)) (pc' := 218) d3_217 rfl (by decide) ?_
          subst hΦ
          refine own_retZ X d3_218 (by decide) (by decide) (by decide) ?_ rfl
          have q : own_sl [(c0 &&& (255 : Int32)), (c1 &&& (255 : Int32)), (c2 &&& (255 : Int32)), (c3 &&& (255 : Int32))] = 0 := by
            rw [Int32.lt_iff_toInt_lt] at hc10_1
            rw [Int32.lt_iff_toInt_lt] at hc43_2
            rw [Int32.lt_iff_toInt_lt] at hc51_3
            rw [Int32.lt_iff_toInt_lt] at hc207_31
            simp only [Int32.reduceToInt] at hc10_1 hc43_2 hc51_3 hc207_31
            show own_g 4 (c0 &&& (255 : Int32)) (c1 &&& (255 : Int32)) (c2 &&& (255 : Int32)) (c3 &&& (255 : Int32)) = 0
            unfold own_g
            repeat' split
            all_goals first | rfl | omega
          rw [own_w0 q]
        · refine own_iload X (pc' := 212) d3_210 rfl rfl ?_
          refine own_iload X (pc' := 214) d3_212 rfl rfl ?_
          refine own_icmp_le X (pct := 219) (pc' := 217) d3_214 rfl (by decide) (by decide) (fun hc214_32 => ?_) (fun hc214_32 => ?_)
          · refine own_iconst X (v := (2 : Int32)) (pc' := 220) d3_219 rfl (by decide) ?_
            refine own_istore X (pc' := 222) (Ls' := #[.val (.ref a), .val (.int fr), .val (.int to), .val (.int j), .val (.int (c0 &&& (255 : Int32))), .val (.int (2 : Int32)), .val (.int (128 : Int32)), .val (.int (191 : Int32)), .val (.int (c1 &&& (255 : Int32))), .val (.int (2 : Int32))]) d3_220 rfl (XS.store1 (o := s9) rfl hs9 rfl) ?_
            refine own_iload X (pc' := 224) d3_222 rfl rfl ?_
            refine own_iload X (pc' := 226) d3_224 rfl rfl ?_
            refine own_icmp_ge X (pct := 253) (pc' := 229) d3_226 rfl (by decide) (by decide) (fun _ => ?_) (fun hc => absurd hc (by decide))
            refine own_iloadN X (pc' := 254) d3_253 rfl rfl ?_
            refine own_iload X (pc' := 256) d3_254 rfl rfl ?_
            refine own_iadd X (r := (j + (2 : Int32))) (pc' := 257) d3_256 rfl rfl ?_
            refine own_istoreN X (pc' := 258) (Ls' := #[.val (.ref a), .val (.int fr), .val (.int to), .val (.int (j + (2 : Int32))), .val (.int (c0 &&& (255 : Int32))), .val (.int (2 : Int32)), .val (.int (128 : Int32)), .val (.int (191 : Int32)), .val (.int (c1 &&& (255 : Int32))), .val (.int (2 : Int32))]) d3_257 rfl rfl ?_
            refine own_goto X (pc' := 2) d3_258 (by decide) (by decide) ?_
            have q : own_sl [(c0 &&& (255 : Int32)), (c1 &&& (255 : Int32)), (c2 &&& (255 : Int32)), (c3 &&& (255 : Int32))] = 2 := by
              rw [Int32.lt_iff_toInt_lt] at hc10_1
              rw [Int32.lt_iff_toInt_lt] at hc43_2
              rw [Int32.lt_iff_toInt_lt] at hc51_3
              rw [Int32.lt_iff_toInt_lt] at hc207_31
              rw [Int32.lt_iff_toInt_lt] at hc214_32
              simp only [Int32.reduceToInt] at hc10_1 hc43_2 hc51_3 hc207_31 hc214_32
              show own_g 4 (c0 &&& (255 : Int32)) (c1 &&& (255 : Int32)) (c2 &&& (255 : Int32)) (c3 &&& (255 : Int32)) = 2
              unfold own_g
              repeat' split
              all_goals first | rfl | omega
            subst hΦ
            rw [show own_w (f + 4) [(c0 &&& (255 : Int32)), (c1 &&& (255 : Int32)), (c2 &&& (255 : Int32)), (c3 &&& (255 : Int32))] = own_w (f + 1 + 2) [(c2 &&& (255 : Int32)), (c3 &&& (255 : Int32))] from own_wc q (by decide) rfl]
            exact wf_2 l Z n0 X A fr to (j + (2 : Int32)) c2 c3 (f + 1) (.val (.int (c0 &&& (255 : Int32)))) (.val (.int (2 : Int32))) (.val (.int (128 : Int32))) (.val (.int (191 : Int32))) (.val (.int (c1 &&& (255 : Int32)))) (.val (.int (2 : Int32))) (One.val rfl) (One.val rfl) (One.val rfl) (One.val rfl) (One.val rfl) (One.val rfl) (by rw [own_ad j 2 (by omega) (by decide)]; simp only [Int32.reduceToInt]; omega) (fun t i ht hi => by rw [own_ad j 2 (by omega) (by decide)] at hi; simp only [Int32.reduceToInt] at hi; exact H (t + 2) i (by omega) (by omega)) b2 b3
          · refine own_iconst X (v := (0 : Int32)) (pc' := 218) d3_217 rfl (by decide) ?_
            subst hΦ
            refine own_retZ X d3_218 (by decide) (by decide) (by decide) ?_ rfl
            have q : own_sl [(c0 &&& (255 : Int32)), (c1 &&& (255 : Int32)), (c2 &&& (255 : Int32)), (c3 &&& (255 : Int32))] = 0 := by
              rw [Int32.lt_iff_toInt_lt] at hc10_1
              rw [Int32.lt_iff_toInt_lt] at hc43_2
              rw [Int32.lt_iff_toInt_lt] at hc51_3
              rw [Int32.lt_iff_toInt_lt] at hc207_31
              rw [Int32.lt_iff_toInt_lt] at hc214_32
              simp only [Int32.reduceToInt] at hc10_1 hc43_2 hc51_3 hc207_31 hc214_32
              show own_g 4 (c0 &&& (255 : Int32)) (c1 &&& (255 : Int32)) (c2 &&& (255 : Int32)) (c3 &&& (255 : Int32)) = 0
              unfold own_g
              repeat' split
              all_goals first | rfl | omega
            rw [own_w0 q]
  · refine own_iinc X (pc' := 16) (Ls' := #[.val (.ref a), .val (.int fr), .val (.int to), .val (.int (j + (1 : Int32))), s4, s5, s6, s7, s8, s9]) (w := (j + (1 : Int32))) d3_13 rfl rfl rfl rfl ?_
    refine own_goto X (pc' := 2) d3_16 (by decide) (by decide) ?_
    have q : own_sl [(c0 &&& (255 : Int32)), (c1 &&& (255 : Int32)), (c2 &&& (255 : Int32)), (c3 &&& (255 : Int32))] = 1 := by
      rw [Int32.lt_iff_toInt_lt] at hc10_1
      simp only [Int32.reduceToInt] at hc10_1
      show own_g 4 (c0 &&& (255 : Int32)) (c1 &&& (255 : Int32)) (c2 &&& (255 : Int32)) (c3 &&& (255 : Int32)) = 1
      unfold own_g
      repeat' split
      all_goals first | rfl | omega
    subst hΦ
    rw [show own_w (f + 4) [(c0 &&& (255 : Int32)), (c1 &&& (255 : Int32)), (c2 &&& (255 : Int32)), (c3 &&& (255 : Int32))] = own_w (f + 0 + 3) [(c1 &&& (255 : Int32)), (c2 &&& (255 : Int32)), (c3 &&& (255 : Int32))] from own_wc q (by decide) rfl]
    exact wf_3 l Z n0 X A fr to (j + (1 : Int32)) c1 c2 c3 (f + 0) (s4) (s5) (s6) (s7) (s8) (s9) hs4 hs5 hs6 hs7 hs8 hs9 (by rw [own_ad j 1 (by omega) (by decide)]; simp only [Int32.reduceToInt]; omega) (fun t i ht hi => by rw [own_ad j 1 (by omega) (by decide)] at hi; simp only [Int32.reduceToInt] at hi; exact H (t + 1) i (by omega) (by omega)) b1 b2 b3
theorem d3_0 : decode prog_75_method_6_code 0 = .ok (.iload_n 1, 1) := by decide +kernel
theorem d3_1 : decode prog_75_method_6_code 1 = .ok (.istore_n 3, 1) := by decide +kernel
theorem pn_rm3_0 : plainFor (⟨"com/example/vegeu/vegeu/model/Utf8", "isWellFormed", "([BII)Z"⟩ : MethodName) = true := plainFor_of_name (by first | (simp [plainName, overriddenIn]; done) | decide +kernel)
theorem ef_rm3_0 (m : MethodId) (x0 : Addr) (x1 : Int32) (x2 : Int32) : entryFrame m #[(.ref x0), (.int x1), (.int x2)] 10 = mkF m 0 #[.val (.ref x0), .val (.int x1), .val (.int x2), .unset, .unset, .unset, .unset, .unset, .unset, .unset] [] := by first | (simp [entryFrame, mkF, argsToLocals, Value.category]; done) | rfl
set_option maxRecDepth 65536 in
set_option maxHeartbeats 4000000 in
theorem rm3_0 (l : Launch) (Z : State) (a0 : Array Value) (hw : ∀ d ∈ tables_1, d.before a0 Z = true) (n0 : Nat) (a : Addr) (fr : Int32) (to : Int32) (h0 : Heap) (hn0 : n0 ≤ h0.size) (vs : List Int32) (A : own_A Z h0 a .byte vs) (ht : 0 ≤ fr.toInt ∧ fr.toInt + 0 ≤ 5 ∧ to.toInt = fr.toInt + 0) (H : ∀ (t : Nat) (i : Int32), t < 0 → i.toInt = fr.toInt + t → own_in i vs.length = true ∧ vs.getD i.toNatClampNeg 0 = [].getD t 0)  :
    own_Met l (⟨"com/example/vegeu/vegeu/model/Utf8", "isWellFormed", "([BII)Z"⟩ : MethodName) prog_75_method_6_code 10 (some .boolean) ({ frames := 0, cells := 0, slots := 0, locals := 0 } : Room) Z n0 #[(.ref a), (.int fr), (.int to)] h0 (some (.int (own_w 4 []))) (fun h' => h' = h0) := by
  refine own_met pn_rm3_0 hn0 ?_
  intro p e s m below meth c T X
  refine own_cast (ef_rm3_0 m a fr to) ?_
  generalize hΦ : own_Q n0 below s _ _ _ = Φ
  refine own_iloadN X (pc' := 1) d3_0 rfl rfl ?_
  refine own_istoreN X (pc' := 2) (Ls' := #[.val (.ref a), .val (.int fr), .val (.int to), .val (.int fr), .unset, .unset, .unset, .unset, .unset, .unset]) d3_1 rfl rfl ?_
  subst hΦ
  exact wf_0 l Z n0 X A fr to fr  4 .unset .unset .unset .unset .unset .unset One.u One.u One.u One.u One.u One.u ht H 
theorem pn_rm3_1 : plainFor (⟨"com/example/vegeu/vegeu/model/Utf8", "isWellFormed", "([BII)Z"⟩ : MethodName) = true := plainFor_of_name (by first | (simp [plainName, overriddenIn]; done) | decide +kernel)
theorem ef_rm3_1 (m : MethodId) (x0 : Addr) (x1 : Int32) (x2 : Int32) : entryFrame m #[(.ref x0), (.int x1), (.int x2)] 10 = mkF m 0 #[.val (.ref x0), .val (.int x1), .val (.int x2), .unset, .unset, .unset, .unset, .unset, .unset, .unset] [] := by first | (simp [entryFrame, mkF, argsToLocals, Value.category]; done) | rfl
set_option maxRecDepth 65536 in
set_option maxHeartbeats 4000000 in
theorem rm3_1 (l : Launch) (Z : State) (a0 : Array Value) (hw : ∀ d ∈ tables_1, d.before a0 Z = true) (n0 : Nat) (a : Addr) (fr : Int32) (to : Int32) (h0 : Heap) (hn0 : n0 ≤ h0.size) (vs : List Int32) (A : own_A Z h0 a .byte vs) (c0 : Int32) (ht : 0 ≤ fr.toInt ∧ fr.toInt + 1 ≤ 5 ∧ to.toInt = fr.toInt + 1) (H : ∀ (t : Nat) (i : Int32), t < 1 → i.toInt = fr.toInt + t → own_in i vs.length = true ∧ vs.getD i.toNatClampNeg 0 = [c0].getD t 0) (b0 : -128 ≤ c0.toInt ∧ c0.toInt < 128) :
    own_Met l (⟨"com/example/vegeu/vegeu/model/Utf8", "isWellFormed", "([BII)Z"⟩ : MethodName) prog_75_method_6_code 10 (some .boolean) ({ frames := 0, cells := 0, slots := 0, locals := 0 } : Room) Z n0 #[(.ref a), (.int fr), (.int to)] h0 (some (.int (own_w 4 [(c0 &&& (255 : Int32))]))) (fun h' => h' = h0) := by
  refine own_met pn_rm3_1 hn0 ?_
  intro p e s m below meth c T X
  refine own_cast (ef_rm3_1 m a fr to) ?_
  generalize hΦ : own_Q n0 below s _ _ _ = Φ
  refine own_iloadN X (pc' := 1) d3_0 rfl rfl ?_
  refine own_istoreN X (pc' := 2) (Ls' := #[.val (.ref a), .val (.int fr), .val (.int to), .val (.int fr), .unset, .unset, .unset, .unset, .unset, .unset]) d3_1 rfl rfl ?_
  subst hΦ
  exact wf_1 l Z n0 X A fr to fr c0 3 .unset .unset .unset .unset .unset .unset One.u One.u One.u One.u One.u One.u ht H b0
theorem pn_rm3_2 : plainFor (⟨"com/example/vegeu/vegeu/model/Utf8", "isWellFormed", "([BII)Z"⟩ : MethodName) = true := plainFor_of_name (by first | (simp [plainName, overriddenIn]; done) | decide +kernel)
theorem ef_rm3_2 (m : MethodId) (x0 : Addr) (x1 : Int32) (x2 : Int32) : entryFrame m #[(.ref x0), (.int x1), (.int x2)] 10 = mkF m 0 #[.val (.ref x0), .val (.int x1), .val (.int x2), .unset, .unset, .unset, .unset, .unset, .unset, .unset] [] := by first | (simp [entryFrame, mkF, argsToLocals, Value.category]; done) | rfl
set_option maxRecDepth 65536 in
set_option maxHeartbeats 4000000 in
theorem rm3_2 (l : Launch) (Z : State) (a0 : Array Value) (hw : ∀ d ∈ tables_1, d.before a0 Z = true) (n0 : Nat) (a : Addr) (fr : Int32) (to : Int32) (h0 : Heap) (hn0 : n0 ≤ h0.size) (vs : List Int32) (A : own_A Z h0 a .byte vs) (c0 c1 : Int32) (ht : 0 ≤ fr.toInt ∧ fr.toInt + 2 ≤ 5 ∧ to.toInt = fr.toInt + 2) (H : ∀ (t : Nat) (i : Int32), t < 2 → i.toInt = fr.toInt + t → own_in i vs.length = true ∧ vs.getD i.toNatClampNeg 0 = [c0, c1].getD t 0) (b0 : -128 ≤ c0.toInt ∧ c0.toInt < 128) (b1 : -128 ≤ c1.toInt ∧ c1.toInt < 128) :
    own_Met l (⟨"com/example/vegeu/vegeu/model/Utf8", "isWellFormed", "([BII)Z"⟩ : MethodName) prog_75_method_6_code 10 (some .boolean) ({ frames := 0, cells := 0, slots := 0, locals := 0 } : Room) Z n0 #[(.ref a), (.int fr), (.int to)] h0 (some (.int (own_w 4 [(c0 &&& (255 : Int32)), (c1 &&& (255 : Int32))]))) (fun h' => h' = h0) := by
  refine own_met pn_rm3_2 hn0 ?_
  intro p e s m below meth c T X
  refine own_cast (ef_rm3_2 m a fr to) ?_
  generalize hΦ : own_Q n0 below s _ _ _ = Φ
  refine own_iloadN X (pc' := 1) d3_0 rfl rfl ?_
  refine own_istoreN X (pc' := 2) (Ls' := #[.val (.ref a), .val (.int fr), .val (.int to), .val (.int fr), .unset, .unset, .unset, .unset, .unset, .unset]) d3_1 rfl rfl ?_
  subst hΦ
  exact wf_2 l Z n0 X A fr to fr c0 c1 2 .unset .unset .unset .unset .unset .unset One.u One.u One.u One.u One.u One.u ht H b0 b1
theorem pn_rm3_3 : plainFor (⟨"com/example/vegeu/vegeu/model/Utf8", "isWellFormed", "([BII)Z"⟩ : MethodName) = true := plainFor_of_name (by first | (simp [plainName, overriddenIn]; done) | decide +kernel)
theorem ef_rm3_3 (m : MethodId) (x0 : Addr) (x1 : Int32) (x2 : Int32) : entryFrame m #[(.ref x0), (.int x1), (.int x2)] 10 = mkF m 0 #[.val (.ref x0), .val (.int x1), .val (.int x2), .unset, .unset, .unset, .unset, .unset, .unset, .unset] [] := by first | (simp [entryFrame, mkF, argsToLocals, Value.category]; done) | rfl
set_option maxRecDepth 65536 in
set_option maxHeartbeats 4000000 in
theorem rm3_3 (l : Launch) (Z : State) (a0 : Array Value) (hw : ∀ d ∈ tables_1, d.before a0 Z = true) (n0 : Nat) (a : Addr) (fr : Int32) (to : Int32) (h0 : Heap) (hn0 : n0 ≤ h0.size) (vs : List Int32) (A : own_A Z h0 a .byte vs) (c0 c1 c2 : Int32) (ht : 0 ≤ fr.toInt ∧ fr.toInt + 3 ≤ 5 ∧ to.toInt = fr.toInt + 3) (H : ∀ (t : Nat) (i : Int32), t < 3 → i.toInt = fr.toInt + t → own_in i vs.length = true ∧ vs.getD i.toNatClampNeg 0 = [c0, c1, c2].getD t 0) (b0 : -128 ≤ c0.toInt ∧ c0.toInt < 128) (b1 : -128 ≤ c1.toInt ∧ c1.toInt < 128) (b2 : -128 ≤ c2.toInt ∧ c2.toInt < 128) :
    own_Met l (⟨"com/example/vegeu/vegeu/model/Utf8", "isWellFormed", "([BII)Z"⟩ : MethodName) prog_75_method_6_code 10 (some .boolean) ({ frames := 0, cells := 0, slots := 0, locals := 0 } : Room) Z n0 #[(.ref a), (.int fr), (.int to)] h0 (some (.int (own_w 4 [(c0 &&& (255 : Int32)), (c1 &&& (255 : Int32)), (c2 &&& (255 : Int32))]))) (fun h' => h' = h0) := by
  refine own_met pn_rm3_3 hn0 ?_
  intro p e s m below meth c T X
  refine own_cast (ef_rm3_3 m a fr to) ?_
  generalize hΦ : own_Q n0 below s _ _ _ = Φ
  refine own_iloadN X (pc' := 1) d3_0 rfl rfl ?_
  refine own_istoreN X (pc' := 2) (Ls' := #[.val (.ref a), .val (.int fr), .val (.int to), .val (.int fr), .unset, .unset, .unset, .unset, .unset, .unset]) d3_1 rfl rfl ?_
  subst hΦ
  exact wf_3 l Z n0 X A fr to fr c0 c1 c2 1 .unset .unset .unset .unset .unset .unset One.u One.u One.u One.u One.u One.u ht H b0 b1 b2
theorem pn_rm3_4 : plainFor (⟨"com/example/vegeu/vegeu/model/Utf8", "isWellFormed", "([BII)Z"⟩ : MethodName) = true := plainFor_of_name (by first | (simp [plainName, overriddenIn]; done) | decide +kernel)
theorem ef_rm3_4 (m : MethodId) (x0 : Addr) (x1 : Int32) (x2 : Int32) : entryFrame m #[(.ref x0), (.int x1), (.int x2)] 10 = mkF m 0 #[.val (.ref x0), .val (.int x1), .val (.int x2), .unset, .unset, .unset, .unset, .unset, .unset, .unset] [] := by first | (simp [entryFrame, mkF, argsToLocals, Value.category]; done) | rfl
set_option maxRecDepth 65536 in
set_option maxHeartbeats 4000000 in
theorem rm3_4 (l : Launch) (Z : State) (a0 : Array Value) (hw : ∀ d ∈ tables_1, d.before a0 Z = true) (n0 : Nat) (a : Addr) (fr : Int32) (to : Int32) (h0 : Heap) (hn0 : n0 ≤ h0.size) (vs : List Int32) (A : own_A Z h0 a .byte vs) (c0 c1 c2 c3 : Int32) (ht : 0 ≤ fr.toInt ∧ fr.toInt + 4 ≤ 5 ∧ to.toInt = fr.toInt + 4) (H : ∀ (t : Nat) (i : Int32), t < 4 → i.toInt = fr.toInt + t → own_in i vs.length = true ∧ vs.getD i.toNatClampNeg 0 = [c0, c1, c2, c3].getD t 0) (b0 : -128 ≤ c0.toInt ∧ c0.toInt < 128) (b1 : -128 ≤ c1.toInt ∧ c1.toInt < 128) (b2 : -128 ≤ c2.toInt ∧ c2.toInt < 128) (b3 : -128 ≤ c3.toInt ∧ c3.toInt < 128) :
    own_Met l (⟨"com/example/vegeu/vegeu/model/Utf8", "isWellFormed", "([BII)Z"⟩ : MethodName) prog_75_method_6_code 10 (some .boolean) ({ frames := 0, cells := 0, slots := 0, locals := 0 } : Room) Z n0 #[(.ref a), (.int fr), (.int to)] h0 (some (.int (own_w 4 [(c0 &&& (255 : Int32)), (c1 &&& (255 : Int32)), (c2 &&& (255 : Int32)), (c3 &&& (255 : Int32))]))) (fun h' => h' = h0) := by
  refine own_met pn_rm3_4 hn0 ?_
  intro p e s m below meth c T X
  refine own_cast (ef_rm3_4 m a fr to) ?_
  generalize hΦ : own_Q n0 below s _ _ _ = Φ
  refine own_iloadN X (pc' := 1) d3_0 rfl rfl ?_
  refine own_istoreN X (pc' := 2) (Ls' := #[.val (.ref a), .val (.int fr), .val (.int to), .val (.int fr), .unset, .unset, .unset, .unset, .unset, .unset]) d3_1 rfl rfl ?_
  subst hΦ
  exact wf_4 l Z n0 X A fr to fr c0 c1 c2 c3 0 .unset .unset .unset .unset .unset .unset One.u One.u One.u One.u One.u One.u ht H b0 b1 b2 b3
theorem own_H00 (c0 c1 c2 c3 c4 : Int32) (t : Nat) (i : Int32) (ht : t < 0) (hi : i.toInt = (0 : Int32).toInt + t) : own_in i [c0, c1, c2, c3, c4].length = true ∧ [c0, c1, c2, c3, c4].getD i.toNatClampNeg 0 = [].getD t 0 := by
  have e : ∀ v : Int32, i.toInt = v.toInt → i = v := fun v h => Int32.toInt_inj.mp h
  simp only [Int32.reduceToInt] at hi
  omega
theorem own_H01 (c0 c1 c2 c3 c4 : Int32) (t : Nat) (i : Int32) (ht : t < 1) (hi : i.toInt = (0 : Int32).toInt + t) : own_in i [c0, c1, c2, c3, c4].length = true ∧ [c0, c1, c2, c3, c4].getD i.toNatClampNeg 0 = [c0].getD t 0 := by
  have e : ∀ v : Int32, i.toInt = v.toInt → i = v := fun v h => Int32.toInt_inj.mp h
  simp only [Int32.reduceToInt] at hi
  match t, ht with
  | 0, _ => obtain rfl := e 0 (by simp only [Int32.reduceToInt]; omega); exact ⟨rfl, rfl⟩
theorem own_H02 (c0 c1 c2 c3 c4 : Int32) (t : Nat) (i : Int32) (ht : t < 2) (hi : i.toInt = (0 : Int32).toInt + t) : own_in i [c0, c1, c2, c3, c4].length = true ∧ [c0, c1, c2, c3, c4].getD i.toNatClampNeg 0 = [c0, c1].getD t 0 := by
  have e : ∀ v : Int32, i.toInt = v.toInt → i = v := fun v h => Int32.toInt_inj.mp h
  simp only [Int32.reduceToInt] at hi
  match t, ht with
  | 0, _ => obtain rfl := e 0 (by simp only [Int32.reduceToInt]; omega); exact ⟨rfl, rfl⟩
  | 1, _ => obtain rfl := e 1 (by simp only [Int32.reduceToInt]; omega); exact ⟨rfl, rfl⟩
theorem own_H03 (c0 c1 c2 c3 c4 : Int32) (t : Nat) (i : Int32) (ht : t < 3) (hi : i.toInt = (0 : Int32).toInt + t) : own_in i [c0, c1, c2, c3, c4].length = true ∧ [c0, c1, c2, c3, c4].getD i.toNatClampNeg 0 = [c0, c1, c2].getD t 0 := by
  have e : ∀ v : Int32, i.toInt = v.toInt → i = v := fun v h => Int32.toInt_inj.mp h
  simp only [Int32.reduceToInt] at hi
  match t, ht with
  | 0, _ => obtain rfl := e 0 (by simp only [Int32.reduceToInt]; omega); exact ⟨rfl, rfl⟩
  | 1, _ => obtain rfl := e 1 (by simp only [Int32.reduceToInt]; omega); exact ⟨rfl, rfl⟩
  | 2, _ => obtain rfl := e 2 (by simp only [Int32.reduceToInt]; omega); exact ⟨rfl, rfl⟩
theorem own_H04 (c0 c1 c2 c3 c4 : Int32) (t : Nat) (i : Int32) (ht : t < 4) (hi : i.toInt = (0 : Int32).toInt + t) : own_in i [c0, c1, c2, c3, c4].length = true ∧ [c0, c1, c2, c3, c4].getD i.toNatClampNeg 0 = [c0, c1, c2, c3].getD t 0 := by
  have e : ∀ v : Int32, i.toInt = v.toInt → i = v := fun v h => Int32.toInt_inj.mp h
  simp only [Int32.reduceToInt] at hi
  match t, ht with
  | 0, _ => obtain rfl := e 0 (by simp only [Int32.reduceToInt]; omega); exact ⟨rfl, rfl⟩
  | 1, _ => obtain rfl := e 1 (by simp only [Int32.reduceToInt]; omega); exact ⟨rfl, rfl⟩
  | 2, _ => obtain rfl := e 2 (by simp only [Int32.reduceToInt]; omega); exact ⟨rfl, rfl⟩
  | 3, _ => obtain rfl := e 3 (by simp only [Int32.reduceToInt]; omega); exact ⟨rfl, rfl⟩
theorem own_H11 (c0 c1 c2 c3 c4 : Int32) (t : Nat) (i : Int32) (ht : t < 0) (hi : i.toInt = (1 : Int32).toInt + t) : own_in i [c0, c1, c2, c3, c4].length = true ∧ [c0, c1, c2, c3, c4].getD i.toNatClampNeg 0 = [].getD t 0 := by
  have e : ∀ v : Int32, i.toInt = v.toInt → i = v := fun v h => Int32.toInt_inj.mp h
  simp only [Int32.reduceToInt] at hi
  omega
theorem own_H12 (c0 c1 c2 c3 c4 : Int32) (t : Nat) (i : Int32) (ht : t < 1) (hi : i.toInt = (1 : Int32).toInt + t) : own_in i [c0, c1, c2, c3, c4].length = true ∧ [c0, c1, c2, c3, c4].getD i.toNatClampNeg 0 = [c1].getD t 0 := by
  have e : ∀ v : Int32, i.toInt = v.toInt → i = v := fun v h => Int32.toInt_inj.mp h
  simp only [Int32.reduceToInt] at hi
  match t, ht with
  | 0, _ => obtain rfl := e 1 (by simp only [Int32.reduceToInt]; omega); exact ⟨rfl, rfl⟩
theorem own_H13 (c0 c1 c2 c3 c4 : Int32) (t : Nat) (i : Int32) (ht : t < 2) (hi : i.toInt = (1 : Int32).toInt + t) : own_in i [c0, c1, c2, c3, c4].length = true ∧ [c0, c1, c2, c3, c4].getD i.toNatClampNeg 0 = [c1, c2].getD t 0 := by
  have e : ∀ v : Int32, i.toInt = v.toInt → i = v := fun v h => Int32.toInt_inj.mp h
  simp only [Int32.reduceToInt] at hi
  match t, ht with
  | 0, _ => obtain rfl := e 1 (by simp only [Int32.reduceToInt]; omega); exact ⟨rfl, rfl⟩
  | 1, _ => obtain rfl := e 2 (by simp only [Int32.reduceToInt]; omega); exact ⟨rfl, rfl⟩
theorem own_H14 (c0 c1 c2 c3 c4 : Int32) (t : Nat) (i : Int32) (ht : t < 3) (hi : i.toInt = (1 : Int32).toInt + t) : own_in i [c0, c1, c2, c3, c4].length = true ∧ [c0, c1, c2, c3, c4].getD i.toNatClampNeg 0 = [c1, c2, c3].getD t 0 := by
  have e : ∀ v : Int32, i.toInt = v.toInt → i = v := fun v h => Int32.toInt_inj.mp h
  simp only [Int32.reduceToInt] at hi
  match t, ht with
  | 0, _ => obtain rfl := e 1 (by simp only [Int32.reduceToInt]; omega); exact ⟨rfl, rfl⟩
  | 1, _ => obtain rfl := e 2 (by simp only [Int32.reduceToInt]; omega); exact ⟨rfl, rfl⟩
  | 2, _ => obtain rfl := e 3 (by simp only [Int32.reduceToInt]; omega); exact ⟨rfl, rfl⟩
theorem own_H15 (c0 c1 c2 c3 c4 : Int32) (t : Nat) (i : Int32) (ht : t < 4) (hi : i.toInt = (1 : Int32).toInt + t) : own_in i [c0, c1, c2, c3, c4].length = true ∧ [c0, c1, c2, c3, c4].getD i.toNatClampNeg 0 = [c1, c2, c3, c4].getD t 0 := by
  have e : ∀ v : Int32, i.toInt = v.toInt → i = v := fun v h => Int32.toInt_inj.mp h
  simp only [Int32.reduceToInt] at hi
  match t, ht with
  | 0, _ => obtain rfl := e 1 (by simp only [Int32.reduceToInt]; omega); exact ⟨rfl, rfl⟩
  | 1, _ => obtain rfl := e 2 (by simp only [Int32.reduceToInt]; omega); exact ⟨rfl, rfl⟩
  | 2, _ => obtain rfl := e 3 (by simp only [Int32.reduceToInt]; omega); exact ⟨rfl, rfl⟩
  | 3, _ => obtain rfl := e 4 (by simp only [Int32.reduceToInt]; omega); exact ⟨rfl, rfl⟩
theorem pd_1 : parseMethodDescriptor "([BII)Z" = some ⟨[(.array .byte), .int, .int], some .boolean⟩ := by decide +kernel
theorem pn_rm0 : plainFor (⟨"com/example/vegeu/vegeu/model/Utf8IsWellFormedPinLaw", "law", "(IIIIII)Z"⟩ : MethodName) = true := plainFor_of_name (by first | (simp [plainName, overriddenIn]; done) | decide +kernel)
theorem ef_rm0 (m : MethodId) (x0 : Int32) (x1 : Int32) (x2 : Int32) (x3 : Int32) (x4 : Int32) (x5 : Int32) : entryFrame m #[(.int x0), (.int x1), (.int x2), (.int x3), (.int x4), (.int x5)] maxLocals = mkF m 0 #[.val (.int x0), .val (.int x1), .val (.int x2), .val (.int x3), .val (.int x4), .val (.int x5), .unset, .unset, .unset, .unset, .unset, .unset, .unset] [] := by first | (simp [entryFrame, mkF, argsToLocals, Value.category, maxLocals]; done) | rfl
set_option maxRecDepth 65536 in
set_option maxHeartbeats 4000000 in
theorem rm0 (l : Launch) (Z : State) (a0 : Array Value) (hw : ∀ d ∈ tables_1, d.before a0 Z = true) (n0 : Nat) (b0 : Int32) (b1 : Int32) (b2 : Int32) (b3 : Int32) (b4 : Int32) (ctl : Int32) (h0 : Heap) (hn0 : n0 ≤ h0.size) :
    own_Met l x code maxLocals ret room_1 Z n0 #[(.int b0), (.int b1), (.int b2), (.int b3), (.int b4), (.int ctl)] h0 (some (.int 1)) (fun _ => True) := by
  refine own_met pn_rm0 hn0 ?_
  intro p e s m below meth c T X
  refine own_cast (ef_rm0 m b0 b1 b2 b3 b4 ctl) ?_
  change own_S Z n0 code x 13 ret p l e room_1 s m _ below meth c T 0 0 h0 at X
  generalize hΦ : own_Q n0 below s _ _ _ = Φ
  refine own_iconst X (v := (5 : Int32)) (pc' := 1) at_0 rfl (by decide) ?_
  refine own_newarr X (len := 5) (vs := [0, 0, 0, 0, 0]) (pc' := 3) (hw _ (List.mem_of_getElem? (i := 0) rfl)) rfl (by decide) (by decide) rfl (by decide) at_1 rfl (by decide) (by decide) ?_
  intro T1 h1 ad1 X1 ge_ad1 g_ad1 E1 A1
  refine own_astore X1 (pc' := 5) (Ls' := #[.val (.int b0), .val (.int b1), .val (.int b2), .val (.int b3), .val (.int b4), .val (.int ctl), .val (.ref ad1), .unset, .unset, .unset, .unset, .unset, .unset]) at_3 rfl rfl rfl ?_
  refine own_aload X1 (pc' := 7) at_5 rfl rfl rfl ?_
  refine own_iconst X1 (v := (0 : Int32)) (pc' := 8) at_7 rfl (by decide) ?_
  refine own_iloadN X1 (pc' := 9) at_8 rfl rfl ?_
  refine own_i2b X1 (r := (b0.toInt8.toInt32)) (pc' := 10) at_9 rfl rfl ?_
  refine own_bastore X1 (vs' := [(b0.toInt8.toInt32), (0 : Int32), (0 : Int32), (0 : Int32), (0 : Int32)]) (pc' := 11) A1 ge_ad1 rfl (own_b8 _) rfl at_10 rfl ?_
  intro T2 h2 X2 A2 W2
  refine own_aload X2 (pc' := 13) at_11 rfl rfl rfl ?_
  refine own_iconst X2 (v := (1 : Int32)) (pc' := 14) at_13 rfl (by decide) ?_
  refine own_iloadN X2 (pc' := 15) at_14 rfl rfl ?_
  refine own_i2b X2 (r := (b1.toInt8.toInt32)) (pc' := 16) at_15 rfl rfl ?_
  refine own_bastore X2 (vs' := [(b0.toInt8.toInt32), (b1.toInt8.toInt32), (0 : Int32), (0 : Int32), (0 : Int32)]) (pc' := 17) A2 ge_ad1 rfl (own_b8 _) rfl at_16 rfl ?_
  intro T3 h3 X3 A3 W3
  refine own_aload X3 (pc' := 19) at_17 rfl rfl rfl ?_
  refine own_iconst X3 (v := (2 : Int32)) (pc' := 20) at_19 rfl (by decide) ?_
  refine own_iloadN X3 (pc' := 21) at_20 rfl rfl ?_
  refine own_i2b X3 (r := (b2.toInt8.toInt32)) (pc' := 22) at_21 rfl rfl ?_
  refine own_bastore X3 (vs' := [(b0.toInt8.toInt32), (b1.toInt8.toInt32), (b2.toInt8.toInt32), (0 : Int32), (0 : Int32)]) (pc' := 23) A3 ge_ad1 rfl (own_b8 _) rfl at_22 rfl ?_
  intro T4 h4 X4 A4 W4
  refine own_aload X4 (pc' := 25) at_23 rfl rfl rfl ?_
  refine own_iconst X4 (v := (3 : Int32)) (pc' := 26) at_25 rfl (by decide) ?_
  refine own_iloadN X4 (pc' := 27) at_26 rfl rfl ?_
  refine own_i2b X4 (r := (b3.toInt8.toInt32)) (pc' := 28) at_27 rfl rfl ?_
  refine own_bastore X4 (vs' := [(b0.toInt8.toInt32), (b1.toInt8.toInt32), (b2.toInt8.toInt32), (b3.toInt8.toInt32), (0 : Int32)]) (pc' := 29) A4 ge_ad1 rfl (own_b8 _) rfl at_28 rfl ?_
  intro T5 h5 X5 A5 W5
  refine own_aload X5 (pc' := 31) at_29 rfl rfl rfl ?_
  refine own_iconst X5 (v := (4 : Int32)) (pc' := 32) at_31 rfl (by decide) ?_
  refine own_iload X5 (pc' := 34) at_32 rfl rfl ?_
  refine own_i2b X5 (r := (b4.toInt8.toInt32)) (pc' := 35) at_34 rfl rfl ?_
  refine own_bastore X5 (vs' := [(b0.toInt8.toInt32), (b1.toInt8.toInt32), (b2.toInt8.toInt32), (b3.toInt8.toInt32), (b4.toInt8.toInt32)]) (pc' := 36) A5 ge_ad1 rfl (own_b8 _) rfl at_35 rfl ?_
  intro T6 h6 X6 A6 W6
  refine own_iconst X6 (v := (5 : Int32)) (pc' := 37) at_36 rfl (by decide) ?_
  refine own_newarr X6 (len := 5) (vs := [0, 0, 0, 0, 0]) (pc' := 39) (hw _ (List.mem_of_getElem? (i := 1) rfl)) rfl (by decide) (by decide) rfl (by decide) at_37 rfl (by decide) (by decide) ?_
  intro T7 h7 ad7 X7 ge_ad7 g_ad7 E7 A7
  have ne_ad1_ad7 : ad1 ≠ ad7 := Nat.ne_of_lt (Nat.lt_of_lt_of_le A6.lt (Nat.le_of_eq g_ad7.symm))
  have A8 := A6.ext E7
  refine own_astore X7 (pc' := 41) (Ls' := #[.val (.int b0), .val (.int b1), .val (.int b2), .val (.int b3), .val (.int b4), .val (.int ctl), .val (.ref ad1), .val (.ref ad7), .unset, .unset, .unset, .unset, .unset]) at_39 rfl rfl rfl ?_
  refine own_aload X7 (pc' := 43) at_41 rfl rfl rfl ?_
  refine own_iconst X7 (v := (0 : Int32)) (pc' := 44) at_43 rfl (by decide) ?_
  refine own_iloadN X7 (pc' := 45) at_44 rfl rfl ?_
  refine own_sipush X7 (v := (255 : Int32)) (pc' := 48) at_45 rfl (by decide) ?_
  refine own_iand X7 (r := (b0 &&& (255 : Int32))) (pc' := 49) at_48 rfl rfl ?_
  refine own_iastore X7 (vs' := [(b0 &&& (255 : Int32)), (0 : Int32), (0 : Int32), (0 : Int32), (0 : Int32)]) (pc' := 50) A7 ge_ad7 rfl rfl at_49 rfl ?_
  intro T9 h9 X9 A9 W9
  have A10 := A8.other W9 ne_ad1_ad7
  refine own_aload X9 (pc' := 52) at_50 rfl rfl rfl ?_
  refine own_iconst X9 (v := (1 : Int32)) (pc' := 53) at_52 rfl (by decide) ?_
  refine own_iloadN X9 (pc' := 54) at_53 rfl rfl ?_
  refine own_sipush X9 (v := (255 : Int32)) (pc' := 57) at_54 rfl (by decide) ?_
  refine own_iand X9 (r := (b1 &&& (255 : Int32))) (pc' := 58) at_57 rfl rfl ?_
  refine own_iastore X9 (vs' := [(b0 &&& (255 : Int32)), (b1 &&& (255 : Int32)), (0 : Int32), (0 : Int32), (0 : Int32)]) (pc' := 59) A9 ge_ad7 rfl rfl at_58 rfl ?_
  intro T11 h11 X11 A11 W11
  have A12 := A10.other W11 ne_ad1_ad7
  refine own_aload X11 (pc' := 61) at_59 rfl rfl rfl ?_
  refine own_iconst X11 (v := (2 : Int32)) (pc' := 62) at_61 rfl (by decide) ?_
  refine own_iloadN X11 (pc' := 63) at_62 rfl rfl ?_
  refine own_sipush X11 (v := (255 : Int32)) (pc' := 66) at_63 rfl (by decide) ?_
  refine own_iand X11 (r := (b2 &&& (255 : Int32))) (pc' := 67) at_66 rfl rfl ?_
  refine own_iastore X11 (vs' := [(b0 &&& (255 : Int32)), (b1 &&& (255 : Int32)), (b2 &&& (255 : Int32)), (0 : Int32), (0 : Int32)]) (pc' := 68) A11 ge_ad7 rfl rfl at_67 rfl ?_
  intro T13 h13 X13 A13 W13
  have A14 := A12.other W13 ne_ad1_ad7
  refine own_aload X13 (pc' := 70) at_68 rfl rfl rfl ?_
  refine own_iconst X13 (v := (3 : Int32)) (pc' := 71) at_70 rfl (by decide) ?_
  refine own_iloadN X13 (pc' := 72) at_71 rfl rfl ?_
  refine own_sipush X13 (v := (255 : Int32)) (pc' := 75) at_72 rfl (by decide) ?_
  refine own_iand X13 (r := (b3 &&& (255 : Int32))) (pc' := 76) at_75 rfl rfl ?_
  refine own_iastore X13 (vs' := [(b0 &&& (255 : Int32)), (b1 &&& (255 : Int32)), (b2 &&& (255 : Int32)), (b3 &&& (255 : Int32)), (0 : Int32)]) (pc' := 77) A13 ge_ad7 rfl rfl at_76 rfl ?_
  intro T15 h15 X15 A15 W15
  have A16 := A14.other W15 ne_ad1_ad7
  refine own_aload X15 (pc' := 79) at_77 rfl rfl rfl ?_
  refine own_iconst X15 (v := (4 : Int32)) (pc' := 80) at_79 rfl (by decide) ?_
  refine own_iload X15 (pc' := 82) at_80 rfl rfl ?_
  refine own_sipush X15 (v := (255 : Int32)) (pc' := 85) at_82 rfl (by decide) ?_
  refine own_iand X15 (r := (b4 &&& (255 : Int32))) (pc' := 86) at_85 rfl rfl ?_
  refine own_iastore X15 (vs' := [(b0 &&& (255 : Int32)), (b1 &&& (255 : Int32)), (b2 &&& (255 : Int32)), (b3 &&& (255 : Int32)), (b4 &&& (255 : Int32))]) (pc' := 87) A15 ge_ad7 rfl rfl at_86 rfl ?_
  intro T17 h17 X17 A17 W17
  have A18 := A16.other W17 ne_ad1_ad7
  refine own_iload X17 (pc' := 89) at_87 rfl rfl ?_
  refine own_iconst X17 (v := (1 : Int32)) (pc' := 90) at_89 rfl (by decide) ?_
  refine own_iand X17 (r := (ctl &&& (1 : Int32))) (pc' := 91) at_90 rfl rfl ?_
  refine own_istore X17 (pc' := 93) (Ls' := #[.val (.int b0), .val (.int b1), .val (.int b2), .val (.int b3), .val (.int b4), .val (.int ctl), .val (.ref ad1), .val (.ref ad7), .val (.int (ctl &&& (1 : Int32))), .unset, .unset, .unset, .unset]) at_91 rfl rfl ?_
  generalize e19 : (ctl &&& (1 : Int32)) = v19
  rcases own_and1 e19 with rfl | rfl
  · refine own_iload X17 (pc' := 95) at_93 rfl rfl ?_
    refine own_iconst X17 (v := (1 : Int32)) (pc' := 96) at_95 rfl (by decide) ?_
    refine own_iushr X17 (r := ((ctl.toUInt32 >>> ((1 : Int32) &&& 31).toUInt32).toInt32)) (pc' := 97) at_96 rfl rfl ?_
    refine own_bipush X17 (v := (7 : Int32)) (pc' := 99) at_97 rfl (by decide) ?_
    refine own_iand X17 (r := (((ctl.toUInt32 >>> ((1 : Int32) &&& 31).toUInt32).toInt32) &&& (7 : Int32))) (pc' := 100) at_99 rfl rfl ?_
    refine own_iconst X17 (v := (5 : Int32)) (pc' := 101) at_100 rfl (by decide) ?_
    refine own_irem X17 (r := ((((ctl.toUInt32 >>> ((1 : Int32) &&& 31).toUInt32).toInt32) &&& (7 : Int32)) - ((((ctl.toUInt32 >>> ((1 : Int32) &&& 31).toUInt32).toInt32) &&& (7 : Int32)) / (5 : Int32)) * (5 : Int32))) (pc' := 102) at_101 rfl (by decide) rfl ?_
    refine own_istore X17 (pc' := 104) (Ls' := #[.val (.int b0), .val (.int b1), .val (.int b2), .val (.int b3), .val (.int b4), .val (.int ctl), .val (.ref ad1), .val (.ref ad7), .val (.int (0 : Int32)), .val (.int ((((ctl.toUInt32 >>> ((1 : Int32) &&& 31).toUInt32).toInt32) &&& (7 : Int32)) - ((((ctl.toUInt32 >>> ((1 : Int32) &&& 31).toUInt32).toInt32) &&& (7 : Int32)) / (5 : Int32)) * (5 : Int32))), .unset, .unset, .unset]) at_102 rfl rfl ?_
    generalize e20 : ((((ctl.toUInt32 >>> ((1 : Int32) &&& 31).toUInt32).toInt32) &&& (7 : Int32)) - ((((ctl.toUInt32 >>> ((1 : Int32) &&& 31).toUInt32).toInt32) &&& (7 : Int32)) / (5 : Int32)) * (5 : Int32)) = v20
    rcases own_rem5 e20 with rfl | rfl | rfl | rfl | rfl
    · refine own_iload X17 (pc' := 106) at_104 rfl rfl ?_
      refine own_iload X17 (pc' := 108) at_106 rfl rfl ?_
      refine own_iadd X17 (r := (0 : Int32)) (pc' := 109) at_108 rfl (by decide) ?_
      refine own_istore X17 (pc' := 111) (Ls' := #[.val (.int b0), .val (.int b1), .val (.int b2), .val (.int b3), .val (.int b4), .val (.int ctl), .val (.ref ad1), .val (.ref ad7), .val (.int (0 : Int32)), .val (.int (0 : Int32)), .val (.int (0 : Int32)), .unset, .unset]) at_109 rfl rfl ?_
      refine own_aload X17 (pc' := 113) at_111 rfl rfl rfl ?_
      refine own_aload X17 (pc' := 115) at_113 rfl rfl rfl ?_
      refine own_aload X17 (pc' := 117) at_115 rfl rfl rfl ?_
      refine own_aload X17 (pc' := 119) at_117 rfl rfl rfl ?_
      refine own_iload X17 (pc' := 121) at_119 rfl rfl ?_
      refine own_iload X17 (pc' := 123) at_121 rfl rfl ?_
      refine own_callS X17 (W := 3) (argsL := [(.ref ad7), (.int (0 : Int32)), (.int (0 : Int32))]) (rest := [(.ref ad7), (.ref ad7), (.ref ad7)]) (S' := [(.int (0 : Int32)), (.ref ad7), (.ref ad7), (.ref ad7)]) (pc' := 126) (rm1_B l Z a0 hw n0 ad7 (0 : Int32) (0 : Int32) h17 X17.size (by decide) (by decide)) (hw _ (List.mem_of_getElem? (i := 2) rfl)) (hw _ (List.mem_of_getElem? (i := 3) rfl)) (hw _ (List.mem_of_getElem? (i := 4) rfl)) (hw _ (List.mem_of_getElem? (i := 5) rfl)) (by decide) (by decide) (by decide) rfl rfl (by decide) (by decide) (lenOf pd_0 rfl) rfl (by first | decide | exact Nat.le_of_eq rfl) rfl at_123 rfl rfl ?_
      intro T21 h21 X21 qq21
      rw [show h21 = h17 from qq21] at X21
      refine own_iload X21 (pc' := 128) at_126 rfl rfl ?_
      refine own_callS X21 (W := 2) (argsL := [(.ref ad7), (.int (0 : Int32)), (.int (0 : Int32))]) (rest := [(.ref ad7), (.ref ad7)]) (S' := [(.int (0 : Int32)), (.ref ad7), (.ref ad7)]) (pc' := 131) (rm1_B l Z a0 hw n0 ad7 (0 : Int32) (0 : Int32) h17 X21.size (by decide) (by decide)) (hw _ (List.mem_of_getElem? (i := 2) rfl)) (hw _ (List.mem_of_getElem? (i := 3) rfl)) (hw _ (List.mem_of_getElem? (i := 4) rfl)) (hw _ (List.mem_of_getElem? (i := 5) rfl)) (by decide) (by decide) (by decide) rfl rfl (by decide) (by decide) (lenOf pd_0 rfl) rfl (by first | decide | exact Nat.le_of_eq rfl) rfl at_128 rfl rfl ?_
      intro T22 h22 X22 qq22
      rw [show h22 = h17 from qq22] at X22
      refine own_iload X22 (pc' := 133) at_131 rfl rfl ?_
      refine own_callS X22 (W := 1) (argsL := [(.ref ad7), (.int (0 : Int32)), (.int (0 : Int32))]) (rest := [(.ref ad7)]) (S' := [(.int (0 : Int32)), (.ref ad7)]) (pc' := 136) (rm1_B l Z a0 hw n0 ad7 (0 : Int32) (0 : Int32) h17 X22.size (by decide) (by decide)) (hw _ (List.mem_of_getElem? (i := 2) rfl)) (hw _ (List.mem_of_getElem? (i := 3) rfl)) (hw _ (List.mem_of_getElem? (i := 4) rfl)) (hw _ (List.mem_of_getElem? (i := 5) rfl)) (by decide) (by decide) (by decide) rfl rfl (by decide) (by decide) (lenOf pd_0 rfl) rfl (by first | decide | exact Nat.le_of_eq rfl) rfl at_133 rfl rfl ?_
      intro T23 h23 X23 qq23
      rw [show h23 = h17 from qq23] at X23
      refine own_iload X23 (pc' := 138) at_136 rfl rfl ?_
      refine own_callS X23 (W := 0) (argsL := [(.ref ad7), (.int (0 : Int32)), (.int (0 : Int32))]) (rest := []) (S' := [(.int (0 : Int32))]) (pc' := 141) (rm1_B l Z a0 hw n0 ad7 (0 : Int32) (0 : Int32) h17 X23.size (by decide) (by decide)) (hw _ (List.mem_of_getElem? (i := 2) rfl)) (hw _ (List.mem_of_getElem? (i := 3) rfl)) (hw _ (List.mem_of_getElem? (i := 4) rfl)) (hw _ (List.mem_of_getElem? (i := 5) rfl)) (by decide) (by decide) (by decide) rfl rfl (by decide) (by decide) (lenOf pd_0 rfl) rfl (by first | decide | exact Nat.le_of_eq rfl) rfl at_138 rfl rfl ?_
      intro T24 h24 X24 qq24
      rw [show h24 = h17 from qq24] at X24
      refine own_istore X24 (pc' := 143) (Ls' := #[.val (.int b0), .val (.int b1), .val (.int b2), .val (.int b3), .val (.int b4), .val (.int ctl), .val (.ref ad1), .val (.ref ad7), .val (.int (0 : Int32)), .val (.int (0 : Int32)), .val (.int (0 : Int32)), .val (.int (0 : Int32)), .unset]) at_141 rfl rfl ?_
      refine own_iload X24 (pc' := 145) at_143 rfl rfl ?_
      refine own_iload X24 (pc' := 147) at_145 rfl rfl ?_
      refine own_icmp_ne X24 (pct := 154) (pc' := 150) at_147 rfl (by decide) (by decide) (fun hc => absurd hc (by decide)) (fun _ => ?_)
      refine own_iconst X24 (v := (1 : Int32)) (pc' := 151) at_150 rfl (by decide) ?_
      refine own_goto X24 (pc' := 155) at_151 (by decide) (by decide) ?_
      refine own_istore X24 (pc' := 157) (Ls' := #[.val (.int b0), .val (.int b1), .val (.int b2), .val (.int b3), .val (.int b4), .val (.int ctl), .val (.ref ad1), .val (.ref ad7), .val (.int (0 : Int32)), .val (.int (0 : Int32)), .val (.int (0 : Int32)), .val (.int (0 : Int32)), .val (.int (1 : Int32))]) at_155 rfl rfl ?_
      refine own_aload X24 (pc' := 159) at_157 rfl rfl rfl ?_
      refine own_iload X24 (pc' := 161) at_159 rfl rfl ?_
      refine own_iload X24 (pc' := 163) at_161 rfl rfl ?_
      refine own_callS X24 (W := 0) (argsL := [(.ref ad1), (.int (0 : Int32)), (.int (0 : Int32))]) (rest := []) (S' := [(.int (own_w 4 []))]) (pc' := 166) (rm3_0 l Z a0 hw n0 ad1 (0 : Int32) (0 : Int32) h17 X24.size _ A18  (by decide) (fun t i ht hi => own_H00 _ _ _ _ _ t i ht hi) ) (hw _ (List.mem_of_getElem? (i := 9) rfl)) (hw _ (List.mem_of_getElem? (i := 10) rfl)) (hw _ (List.mem_of_getElem? (i := 11) rfl)) (hw _ (List.mem_of_getElem? (i := 12) rfl)) (by decide) (by decide) (by decide) rfl rfl (by decide) (by decide) (lenOf pd_1 rfl) rfl (by first | decide | exact Nat.le_of_eq rfl) rfl at_163 rfl rfl ?_
      intro T25 h25 X25 qq25
      rw [show h25 = h17 from qq25] at X25
      refine own_iload X25 (pc' := 168) at_166 rfl rfl ?_
      refine own_icmp_ne X25 (pct := 175) (pc' := 171) at_168 rfl (by decide) (by decide) (fun hc => absurd hc (fun q => q (by (try simp only [own_m8]); exact (own_wn _)))) (fun _ => ?_)
      refine own_iconst X25 (v := (1 : Int32)) (pc' := 172) at_171 rfl (by decide) ?_
      refine own_goto X25 (pc' := 176) at_172 (by decide) (by decide) ?_
      subst hΦ
      exact own_retZ X25 at_176 (by decide) (by decide) (by decide) rfl trivial
    · refine own_iload X17 (pc' := 106) at_104 rfl rfl ?_
      refine own_iload X17 (pc' := 108) at_106 rfl rfl ?_
      refine own_iadd X17 (r := (1 : Int32)) (pc' := 109) at_108 rfl (by decide) ?_
      refine own_istore X17 (pc' := 111) (Ls' := #[.val (.int b0), .val (.int b1), .val (.int b2), .val (.int b3), .val (.int b4), .val (.int ctl), .val (.ref ad1), .val (.ref ad7), .val (.int (0 : Int32)), .val (.int (1 : Int32)), .val (.int (1 : Int32)), .unset, .unset]) at_109 rfl rfl ?_
      refine own_aload X17 (pc' := 113) at_111 rfl rfl rfl ?_
      refine own_aload X17 (pc' := 115) at_113 rfl rfl rfl ?_
      refine own_aload X17 (pc' := 117) at_115 rfl rfl rfl ?_
      refine own_aload X17 (pc' := 119) at_117 rfl rfl rfl ?_
      refine own_iload X17 (pc' := 121) at_119 rfl rfl ?_
      refine own_iload X17 (pc' := 123) at_121 rfl rfl ?_
      refine own_callS X17 (W := 3) (argsL := [(.ref ad7), (.int (0 : Int32)), (.int (1 : Int32))]) (rest := [(.ref ad7), (.ref ad7), (.ref ad7)]) (S' := [(.int (own_nv (0 : Int32) [(b0 &&& (255 : Int32))])), (.ref ad7), (.ref ad7), (.ref ad7)]) (pc' := 126) (rm1_1 l Z a0 hw n0 ad7 (0 : Int32) (1 : Int32) h17 X17.size _ A17 (b0 &&& (255 : Int32)) (by decide) (by decide) (by decide) rfl rfl (own_mr _)) (hw _ (List.mem_of_getElem? (i := 2) rfl)) (hw _ (List.mem_of_getElem? (i := 3) rfl)) (hw _ (List.mem_of_getElem? (i := 4) rfl)) (hw _ (List.mem_of_getElem? (i := 5) rfl)) (by decide) (by decide) (by decide) rfl rfl (by decide) (by decide) (lenOf pd_0 rfl) rfl (by first | decide | exact Nat.le_of_eq rfl) rfl at_123 rfl rfl ?_
      intro T26 h26 X26 qq26
      rw [show h26 = h17 from qq26] at X26
      rcases own_s1 (b0 &&& (255 : Int32)) with e27 | e27
      · rw [show own_nv (0 : Int32) [(b0 &&& (255 : Int32))] = (-1 : Int32) from by rw [own_nv, e27]; decide]
        refine own_iload X26 (pc' := 128) at_126 rfl rfl ?_
        refine own_callS X26 (W := 2) (argsL := [(.ref ad7), (.int (-1 : Int32)), (.int (1 : Int32))]) (rest := [(.ref ad7), (.ref ad7)]) (S' := [(.int (-1 : Int32)), (.ref ad7), (.ref ad7)]) (pc' := 131) (rm1_A l Z a0 hw n0 ad7 (-1 : Int32) (1 : Int32) h17 X26.size (by decide)) (hw _ (List.mem_of_getElem? (i := 2) rfl)) (hw _ (List.mem_of_getElem? (i := 3) rfl)) (hw _ (List.mem_of_getElem? (i := 4) rfl)) (hw _ (List.mem_of_getElem? (i := 5) rfl)) (by decide) (by decide) (by decide) rfl rfl (by decide) (by decide) (lenOf pd_0 rfl) rfl (by first | decide | exact Nat.le_of_eq rfl) rfl at_128 rfl rfl ?_
        intro T28 h28 X28 qq28
        rw [show h28 = h17 from qq28] at X28
        refine own_iload X28 (pc' := 133) at_131 rfl rfl ?_
        refine own_callS X28 (W := 1) (argsL := [(.ref ad7), (.int (-1 : Int32)), (.int (1 : Int32))]) (rest := [(.ref ad7)]) (S' := [(.int (-1 : Int32)), (.ref ad7)]) (pc' := 136) (rm1_A l Z a0 hw n0 ad7 (-1 : Int32) (1 : Int32) h17 X28.size (by decide)) (hw _ (List.mem_of_getElem? (i := 2) rfl)) (hw _ (List.mem_of_getElem? (i := 3) rfl)) (hw _ (List.mem_of_getElem? (i := 4) rfl)) (hw _ (List.mem_of_getElem? (i := 5) rfl)) (by decide) (by decide) (by decide) rfl rfl (by decide) (by decide) (lenOf pd_0 rfl) rfl (by first | decide | exact Nat.le_of_eq rfl) rfl at_133 rfl rfl ?_
        intro T29 h29 X29 qq29
        rw [show h29 = h17 from qq29] at X29
        refine own_iload X29 (pc' := 138) at_136 rfl rfl ?_
        refine own_callS X29 (W := 0) (argsL := [(.ref ad7), (.int (-1 : Int32)), (.int (1 : Int32))]) (rest := []) (S' := [(.int (-1 : Int32))]) (pc' := 141) (rm1_A l Z a0 hw n0 ad7 (-1 : Int32) (1 : Int32) h17 X29.size (by decide)) (hw _ (List.mem_of_getElem? (i := 2) rfl)) (hw _ (List.mem_of_getElem? (i := 3) rfl)) (hw _ (List.mem_of_getElem? (i := 4) rfl)) (hw _ (List.mem_of_getElem? (i := 5) rfl)) (by decide) (by decide) (by decide) rfl rfl (by decide) (by decide) (lenOf pd_0 rfl) rfl (by first | decide | exact Nat.le_of_eq rfl) rfl at_138 rfl rfl ?_
        intro T30 h30 X30 qq30
        rw [show h30 = h17 from qq30] at X30
        refine own_istore X30 (pc' := 143) (Ls' := #[.val (.int b0), .val (.int b1), .val (.int b2), .val (.int b3), .val (.int b4), .val (.int ctl), .val (.ref ad1), .val (.ref ad7), .val (.int (0 : Int32)), .val (.int (1 : Int32)), .val (.int (1 : Int32)), .val (.int (-1 : Int32)), .unset]) at_141 rfl rfl ?_
        refine own_iload X30 (pc' := 145) at_143 rfl rfl ?_
        refine own_iload X30 (pc' := 147) at_145 rfl rfl ?_
        refine own_icmp_ne X30 (pct := 154) (pc' := 150) at_147 rfl (by decide) (by decide) (fun _ => ?_) (fun hc => absurd hc (by decide))
        refine own_iconst X30 (v := (0 : Int32)) (pc' := 155) at_154 rfl (by decide) ?_
        refine own_istore X30 (pc' := 157) (Ls' := #[.val (.int b0), .val (.int b1), .val (.int b2), .val (.int b3), .val (.int b4), .val (.int ctl), .val (.ref ad1), .val (.ref ad7), .val (.int (0 : Int32)), .val (.int (1 : Int32)), .val (.int (1 : Int32)), .val (.int (-1 : Int32)), .val (.int (0 : Int32))]) at_155 rfl rfl ?_
        refine own_aload X30 (pc' := 159) at_157 rfl rfl rfl ?_
        refine own_iload X30 (pc' := 161) at_159 rfl rfl ?_
        refine own_iload X30 (pc' := 163) at_161 rfl rfl ?_
        refine own_callS X30 (W := 0) (argsL := [(.ref ad1), (.int (0 : Int32)), (.int (1 : Int32))]) (rest := []) (S' := [(.int (own_w 4 [((b0.toInt8.toInt32) &&& (255 : Int32))]))]) (pc' := 166) (rm3_1 l Z a0 hw n0 ad1 (0 : Int32) (1 : Int32) h17 X30.size _ A18 (b0.toInt8.toInt32) (by decide) (fun t i ht hi => own_H01 _ _ _ _ _ t i ht hi) (c_i2b _).2) (hw _ (List.mem_of_getElem? (i := 9) rfl)) (hw _ (List.mem_of_getElem? (i := 10) rfl)) (hw _ (List.mem_of_getElem? (i := 11) rfl)) (hw _ (List.mem_of_getElem? (i := 12) rfl)) (by decide) (by decide) (by decide) rfl rfl (by decide) (by decide) (lenOf pd_1 rfl) rfl (by first | decide | exact Nat.le_of_eq rfl) rfl at_163 rfl rfl ?_
        intro T31 h31 X31 qq31
        rw [show h31 = h17 from qq31] at X31
        refine own_iload X31 (pc' := 168) at_166 rfl rfl ?_
        refine own_icmp_ne X31 (pct := 175) (pc' := 171) at_168 rfl (by decide) (by decide) (fun hc => absurd hc (fun q => q (by (try simp only [own_m8]); exact (own_w0 e27)))) (fun _ => ?_)
        refine own_iconst X31 (v := (1 : Int32)) (pc' := 172) at_171 rfl (by decide) ?_
        refine own_goto X31 (pc' := 176) at_172 (by decide) (by decide) ?_
        subst hΦ
        exact own_retZ X31 at_176 (by decide) (by decide) (by decide) rfl trivial
      · rw [show own_nv (0 : Int32) [(b0 &&& (255 : Int32))] = (1 : Int32) from by rw [own_nv, e27]; decide]
        refine own_iload X26 (pc' := 128) at_126 rfl rfl ?_
        refine own_callS X26 (W := 2) (argsL := [(.ref ad7), (.int (1 : Int32)), (.int (1 : Int32))]) (rest := [(.ref ad7), (.ref ad7)]) (S' := [(.int (1 : Int32)), (.ref ad7), (.ref ad7)]) (pc' := 131) (rm1_B l Z a0 hw n0 ad7 (1 : Int32) (1 : Int32) h17 X26.size (by decide) (by decide)) (hw _ (List.mem_of_getElem? (i := 2) rfl)) (hw _ (List.mem_of_getElem? (i := 3) rfl)) (hw _ (List.mem_of_getElem? (i := 4) rfl)) (hw _ (List.mem_of_getElem? (i := 5) rfl)) (by decide) (by decide) (by decide) rfl rfl (by decide) (by decide) (lenOf pd_0 rfl) rfl (by first | decide | exact Nat.le_of_eq rfl) rfl at_128 rfl rfl ?_
        intro T32 h32 X32 qq32
        rw [show h32 = h17 from qq32] at X32
        refine own_iload X32 (pc' := 133) at_131 rfl rfl ?_
        refine own_callS X32 (W := 1) (argsL := [(.ref ad7), (.int (1 : Int32)), (.int (1 : Int32))]) (rest := [(.ref ad7)]) (S' := [(.int (1 : Int32)), (.ref ad7)]) (pc' := 136) (rm1_B l Z a0 hw n0 ad7 (1 : Int32) (1 : Int32) h17 X32.size (by decide) (by decide)) (hw _ (List.mem_of_getElem? (i := 2) rfl)) (hw _ (List.mem_of_getElem? (i := 3) rfl)) (hw _ (List.mem_of_getElem? (i := 4) rfl)) (hw _ (List.mem_of_getElem? (i := 5) rfl)) (by decide) (by decide) (by decide) rfl rfl (by decide) (by decide) (lenOf pd_0 rfl) rfl (by first | decide | exact Nat.le_of_eq rfl) rfl at_133 rfl rfl ?_
        intro T33 h33 X33 qq33
        rw [show h33 = h17 from qq33] at X33
        refine own_iload X33 (pc' := 138) at_136 rfl rfl ?_
        refine own_callS X33 (W := 0) (argsL := [(.ref ad7), (.int (1 : Int32)), (.int (1 : Int32))]) (rest := []) (S' := [(.int (1 : Int32))]) (pc' := 141) (rm1_B l Z a0 hw n0 ad7 (1 : Int32) (1 : Int32) h17 X33.size (by decide) (by decide)) (hw _ (List.mem_of_getElem? (i := 2) rfl)) (hw _ (List.mem_of_getElem? (i := 3) rfl)) (hw _ (List.mem_of_getElem? (i := 4) rfl)) (hw _ (List.mem_of_getElem? (i := 5) rfl)) (by decide) (by decide) (by decide) rfl rfl (by decide) (by decide) (lenOf pd_0 rfl) rfl (by first | decide | exact Nat.le_of_eq rfl) rfl at_138 rfl rfl ?_
        intro T34 h34 X34 qq34
        rw [show h34 = h17 from qq34] at X34
        refine own_istore X34 (pc' := 143) (Ls' := #[.val (.int b0), .val (.int b1), .val (.int b2), .val (.int b3), .val (.int b4), .val (.int ctl), .val (.ref ad1), .val (.ref ad7), .val (.int (0 : Int32)), .val (.int (1 : Int32)), .val (.int (1 : Int32)), .val (.int (1 : Int32)), .unset]) at_141 rfl rfl ?_
        refine own_iload X34 (pc' := 145) at_143 rfl rfl ?_
        refine own_iload X34 (pc' := 147) at_145 rfl rfl ?_
        refine own_icmp_ne X34 (pct := 154) (pc' := 150) at_147 rfl (by decide) (by decide) (fun hc => absurd hc (by decide)) (fun _ => ?_)
        refine own_iconst X34 (v := (1 : Int32)) (pc' := 151) at_150 rfl (by decide) ?_
        refine own_goto X34 (pc' := 155) at_151 (by decide) (by decide) ?_
        refine own_istore X34 (pc' := 157) (Ls' := #[.val (.int b0), .val (.int b1), .val (.int b2), .val (.int b3), .val (.int b4), .val (.int ctl), .val (.ref ad1), .val (.ref ad7), .val (.int (0 : Int32)), .val (.int (1 : Int32)), .val (.int (1 : Int32)), .val (.int (1 : Int32)), .val (.int (1 : Int32))]) at_155 rfl rfl ?_
        refine own_aload X34 (pc' := 159) at_157 rfl rfl rfl ?_
        refine own_iload X34 (pc' := 161) at_159 rfl rfl ?_
        refine own_iload X34 (pc' := 163) at_161 rfl rfl ?_
        refine own_callS X34 (W := 0) (argsL := [(.ref ad1), (.int (0 : Int32)), (.int (1 : Int32))]) (rest := []) (S' := [(.int (own_w 4 [((b0.toInt8.toInt32) &&& (255 : Int32))]))]) (pc' := 166) (rm3_1 l Z a0 hw n0 ad1 (0 : Int32) (1 : Int32) h17 X34.size _ A18 (b0.toInt8.toInt32) (by decide) (fun t i ht hi => own_H01 _ _ _ _ _ t i ht hi) (c_i2b _).2) (hw _ (List.mem_of_getElem? (i := 9) rfl)) (hw _ (List.mem_of_getElem? (i := 10) rfl)) (hw _ (List.mem_of_getElem? (i := 11) rfl)) (hw _ (List.mem_of_getElem? (i := 12) rfl)) (by decide) (by decide) (by decide) rfl rfl (by decide) (by decide) (lenOf pd_1 rfl) rfl (by first | decide | exact Nat.le_of_eq rfl) rfl at_163 rfl rfl ?_
        intro T35 h35 X35 qq35
        rw [show h35 = h17 from qq35] at X35
        refine own_iload X35 (pc' := 168) at_166 rfl rfl ?_
        refine own_icmp_ne X35 (pct := 175) (pc' := 171) at_168 rfl (by decide) (by decide) (fun hc => absurd hc (fun q => q (by (try simp only [own_m8]); exact (Eq.trans (own_wc e27 (by decide) rfl) (own_wn _))))) (fun _ => ?_)
        refine own_iconst X35 (v := (1 : Int32)) (pc' := 172) at_171 rfl (by decide) ?_
        refine own_goto X35 (pc' := 176) at_172 (by decide) (by decide) ?_
        subst hΦ
        exact own_retZ X35 at_176 (by decide) (by decide) (by decide) rfl trivial
    · refine own_iload X17 (pc' := 106) at_104 rfl rfl ?_
      refine own_iload X17 (pc' := 108) at_106 rfl rfl ?_
      refine own_iadd X17 (r := (2 : Int32)) (pc' := 109) at_108 rfl (by decide) ?_
      refine own_istore X17 (pc' := 111) (Ls' := #[.val (.int b0), .val (.int b1), .val (.int b2), .val (.int b3), .val (.int b4), .val (.int ctl), .val (.ref ad1), .val (.ref ad7), .val (.int (0 : Int32)), .val (.int (2 : Int32)), .val (.int (2 : Int32)), .unset, .unset]) at_109 rfl rfl ?_
      refine own_aload X17 (pc' := 113) at_111 rfl rfl rfl ?_
      refine own_aload X17 (pc' := 115) at_113 rfl rfl rfl ?_
      refine own_aload X17 (pc' := 117) at_115 rfl rfl rfl ?_
      refine own_aload X17 (pc' := 119) at_117 rfl rfl rfl ?_
      refine own_iload X17 (pc' := 121) at_119 rfl rfl ?_
      refine own_iload X17 (pc' := 123) at_121 rfl rfl ?_
      refine own_callS X17 (W := 3) (argsL := [(.ref ad7), (.int (0 : Int32)), (.int (2 : Int32))]) (rest := [(.ref ad7), (.ref ad7), (.ref ad7)]) (S' := [(.int (own_nv (0 : Int32) [(b0 &&& (255 : Int32)), (b1 &&& (255 : Int32))])), (.ref ad7), (.ref ad7), (.ref ad7)]) (pc' := 126) (rm1_2 l Z a0 hw n0 ad7 (0 : Int32) (2 : Int32) h17 X17.size _ A17 (b0 &&& (255 : Int32)) (b1 &&& (255 : Int32)) (by decide) (by decide) (by decide) rfl rfl rfl rfl (own_mr _) (own_mr _)) (hw _ (List.mem_of_getElem? (i := 2) rfl)) (hw _ (List.mem_of_getElem? (i := 3) rfl)) (hw _ (List.mem_of_getElem? (i := 4) rfl)) (hw _ (List.mem_of_getElem? (i := 5) rfl)) (by decide) (by decide) (by decide) rfl rfl (by decide) (by decide) (lenOf pd_0 rfl) rfl (by first | decide | exact Nat.le_of_eq rfl) rfl at_123 rfl rfl ?_
      intro T36 h36 X36 qq36
      rw [show h36 = h17 from qq36] at X36
      rcases own_s2 (b0 &&& (255 : Int32)) (b1 &&& (255 : Int32)) with e37 | e37 | e37
      · rw [show own_nv (0 : Int32) [(b0 &&& (255 : Int32)), (b1 &&& (255 : Int32))] = (-1 : Int32) from by rw [own_nv, e37]; decide]
        refine own_iload X36 (pc' := 128) at_126 rfl rfl ?_
        refine own_callS X36 (W := 2) (argsL := [(.ref ad7), (.int (-1 : Int32)), (.int (2 : Int32))]) (rest := [(.ref ad7), (.ref ad7)]) (S' := [(.int (-1 : Int32)), (.ref ad7), (.ref ad7)]) (pc' := 131) (rm1_A l Z a0 hw n0 ad7 (-1 : Int32) (2 : Int32) h17 X36.size (by decide)) (hw _ (List.mem_of_getElem? (i := 2) rfl)) (hw _ (List.mem_of_getElem? (i := 3) rfl)) (hw _ (List.mem_of_getElem? (i := 4) rfl)) (hw _ (List.mem_of_getElem? (i := 5) rfl)) (by decide) (by decide) (by decide) rfl rfl (by decide) (by decide) (lenOf pd_0 rfl) rfl (by first | decide | exact Nat.le_of_eq rfl) rfl at_128 rfl rfl ?_
        intro T38 h38 X38 qq38
        rw [show h38 = h17 from qq38] at X38
        refine own_iload X38 (pc' := 133) at_131 rfl rfl ?_
        refine own_callS X38 (W := 1) (argsL := [(.ref ad7), (.int (-1 : Int32)), (.int (2 : Int32))]) (rest := [(.ref ad7)]) (S' := [(.int (-1 : Int32)), (.ref ad7)]) (pc' := 136) (rm1_A l Z a0 hw n0 ad7 (-1 : Int32) (2 : Int32) h17 X38.size (by decide)) (hw _ (List.mem_of_getElem? (i := 2) rfl)) (hw _ (List.mem_of_getElem? (i := 3) rfl)) (hw _ (List.mem_of_getElem? (i := 4) rfl)) (hw _ (List.mem_of_getElem? (i := 5) rfl)) (by decide) (by decide) (by decide) rfl rfl (by decide) (by decide) (lenOf pd_0 rfl) rfl (by first | decide | exact Nat.le_of_eq rfl) rfl at_133 rfl rfl ?_
        intro T39 h39 X39 qq39
        rw [show h39 = h17 from qq39] at X39
        refine own_iload X39 (pc' := 138) at_136 rfl rfl ?_
        refine own_callS X39 (W := 0) (argsL := [(.ref ad7), (.int (-1 : Int32)), (.int (2 : Int32))]) (rest := []) (S' := [(.int (-1 : Int32))]) (pc' := 141) (rm1_A l Z a0 hw n0 ad7 (-1 : Int32) (2 : Int32) h17 X39.size (by decide)) (hw _ (List.mem_of_getElem? (i := 2) rfl)) (hw _ (List.mem_of_getElem? (i := 3) rfl)) (hw _ (List.mem_of_getElem? (i := 4) rfl)) (hw _ (List.mem_of_getElem? (i := 5) rfl)) (by decide) (by decide) (by decide) rfl rfl (by decide) (by decide) (lenOf pd_0 rfl) rfl (by first | decide | exact Nat.le_of_eq rfl) rfl at_138 rfl rfl ?_
        intro T40 h40 X40 qq40
        rw [show h40 = h17 from qq40] at X40
        refine own_istore X40 (pc' := 143) (Ls' := #[.val (.int b0), .val (.int b1), .val (.int b2), .val (.int b3), .val (.int b4), .val (.int ctl), .val (.ref ad1), .val (.ref ad7), .val (.int (0 : Int32)), .val (.int (2 : Int32)), .val (.int (2 : Int32)), .val (.int (-1 : Int32)), .unset]) at_141 rfl rfl ?_
        refine own_iload X40 (pc' := 145) at_143 rfl rfl ?_
        refine own_iload X40 (pc' := 147) at_145 rfl rfl ?_
        refine own_icmp_ne X40 (pct := 154) (pc' := 150) at_147 rfl (by decide) (by decide) (fun _ => ?_) (fun hc => absurd hc (by decide))
        refine own_iconst X40 (v := (0 : Int32)) (pc' := 155) at_154 rfl (by decide) ?_
        refine own_istore X40 (pc' := 157) (Ls' := #[.val (.int b0), .val (.int b1), .val (.int b2), .val (.int b3), .val (.int b4), .val (.int ctl), .val (.ref ad1), .val (.ref ad7), .val (.int (0 : Int32)), .val (.int (2 : Int32)), .val (.int (2 : Int32)), .val (.int (-1 : Int32)), .val (.int (0 : Int32))]) at_155 rfl rfl ?_
        refine own_aload X40 (pc' := 159) at_157 rfl rfl rfl ?_
        refine own_iload X40 (pc' := 161) at_159 rfl rfl ?_
        refine own_iload X40 (pc' := 163) at_161 rfl rfl ?_
        refine own_callS X40 (W := 0) (argsL := [(.ref ad1), (.int (0 : Int32)), (.int (2 : Int32))]) (rest := []) (S' := [(.int (own_w 4 [((b0.toInt8.toInt32) &&& (255 : Int32)), ((b1.toInt8.toInt32) &&& (255 : Int32))]))]) (pc' := 166) (rm3_2 l Z a0 hw n0 ad1 (0 : Int32) (2 : Int32) h17 X40.size _ A18 (b0.toInt8.toInt32) (b1.toInt8.toInt32) (by decide) (fun t i ht hi => own_H02 _ _ _ _ _ t i ht hi) (c_i2b _).2 (c_i2b _).2) (hw _ (List.mem_of_getElem? (i := 9) rfl)) (hw _ (List.mem_of_getElem? (i := 10) rfl)) (hw _ (List.mem_of_getElem? (i := 11) rfl)) (hw _ (List.mem_of_getElem? (i := 12) rfl)) (by decide) (by decide) (by decide) rfl rfl (by decide) (by decide) (lenOf pd_1 rfl) rfl (by first | decide | exact Nat.le_of_eq rfl) rfl at_163 rfl rfl ?_
        intro T41 h41 X41 qq41
        rw [show h41 = h17 from qq41] at X41
        refine own_iload X41 (pc' := 168) at_166 rfl rfl ?_
        refine own_icmp_ne X41 (pct := 175) (pc' := 171) at_168 rfl (by decide) (by decide) (fun hc => absurd hc (fun q => q (by (try simp only [own_m8]); exact (own_w0 e37)))) (fun _ => ?_)
        refine own_iconst X41 (v := (1 : Int32)) (pc' := 172) at_171 rfl (by decide) ?_
        refine own_goto X41 (pc' := 176) at_172 (by decide) (by decide) ?_
        subst hΦ
        exact own_retZ X41 at_176 (by decide) (by decide) (by decide) rfl trivial
      · rw [show own_nv (0 : Int32) [(b0 &&& (255 : Int32)), (b1 &&& (255 : Int32))] = (1 : Int32) from by rw [own_nv, e37]; decide]
        refine own_iload X36 (pc' := 128) at_126 rfl rfl ?_
        refine own_callS X36 (W := 2) (argsL := [(.ref ad7), (.int (1 : Int32)), (.int (2 : Int32))]) (rest := [(.ref ad7), (.ref ad7)]) (S' := [(.int (own_nv (1 : Int32) [(b1 &&& (255 : Int32))])), (.ref ad7), (.ref ad7)]) (pc' := 131) (rm1_1 l Z a0 hw n0 ad7 (1 : Int32) (2 : Int32) h17 X36.size _ A17 (b1 &&& (255 : Int32)) (by decide) (by decide) (by decide) rfl rfl (own_mr _)) (hw _ (List.mem_of_getElem? (i := 2) rfl)) (hw _ (List.mem_of_getElem? (i := 3) rfl)) (hw _ (List.mem_of_getElem? (i := 4) rfl)) (hw _ (List.mem_of_getElem? (i := 5) rfl)) (by decide) (by decide) (by decide) rfl rfl (by decide) (by decide) (lenOf pd_0 rfl) rfl (by first | decide | exact Nat.le_of_eq rfl) rfl at_128 rfl rfl ?_
        intro T42 h42 X42 qq42
        rw [show h42 = h17 from qq42] at X42
        rcases own_s1 (b1 &&& (255 : Int32)) with e43 | e43
        · rw [show own_nv (1 : Int32) [(b1 &&& (255 : Int32))] = (-1 : Int32) from by rw [own_nv, e43]; decide]
          refine own_iload X42 (pc' := 133) at_131 rfl rfl ?_
          refine own_callS X42 (W := 1) (argsL := [(.ref ad7), (.int (-1 : Int32)), (.int (2 : Int32))]) (rest := [(.ref ad7)]) (S' := [(.int (-1 : Int32)), (.ref ad7)]) (pc' := 136) (rm1_A l Z a0 hw n0 ad7 (-1 : Int32) (2 : Int32) h17 X42.size (by decide)) (hw _ (List.mem_of_getElem? (i := 2) rfl)) (hw _ (List.mem_of_getElem? (i := 3) rfl)) (hw _ (List.mem_of_getElem? (i := 4) rfl)) (hw _ (List.mem_of_getElem? (i := 5) rfl)) (by decide) (by decide) (by decide) rfl rfl (by decide) (by decide) (lenOf pd_0 rfl) rfl (by first | decide | exact Nat.le_of_eq rfl) rfl at_133 rfl rfl ?_
          intro T44 h44 X44 qq44
          rw [show h44 = h17 from qq44] at X44
          refine own_iload X44 (pc' := 138) at_136 rfl rfl ?_
          refine own_callS X44 (W := 0) (argsL := [(.ref ad7), (.int (-1 : Int32)), (.int (2 : Int32))]) (rest := []) (S' := [(.int (-1 : Int32))]) (pc' := 141) (rm1_A l Z a0 hw n0 ad7 (-1 : Int32) (2 : Int32) h17 X44.size (by decide)) (hw _ (List.mem_of_getElem? (i := 2) rfl)) (hw _ (List.mem_of_getElem? (i := 3) rfl)) (hw _ (List.mem_of_getElem? (i := 4) rfl)) (hw _ (List.mem_of_getElem? (i := 5) rfl)) (by decide) (by decide) (by decide) rfl rfl (by decide) (by decide) (lenOf pd_0 rfl) rfl (by first | decide | exact Nat.le_of_eq rfl) rfl at_138 rfl rfl ?_
          intro T45 h45 X45 qq45
          rw [show h45 = h17 from qq45] at X45
          refine own_istore X45 (pc' := 143) (Ls' := #[.val (.int b0), .val (.int b1), .val (.int b2), .val (.int b3), .val (.int b4), .val (.int ctl), .val (.ref ad1), .val (.ref ad7), .val (.int (0 : Int32)), .val (.int (2 : Int32)), .val (.int (2 : Int32)), .val (.int (-1 : Int32)), .unset]) at_141 rfl rfl ?_
          refine own_iload X45 (pc' := 145) at_143 rfl rfl ?_
          refine own_iload X45 (pc' := 147) at_145 rfl rfl ?_
          refine own_icmp_ne X45 (pct := 154) (pc' := 150) at_147 rfl (by decide) (by decide) (fun _ => ?_) (fun hc => absurd hc (by decide))
          refine own_iconst X45 (v := (0 : Int32)) (pc' := 155) at_154 rfl (by decide) ?_
          refine own_istore X45 (pc' := 157) (Ls' := #[.val (.int b0), .val (.int b1), .val (.int b2), .val (.int b3), .val (.int b4), .val (.int ctl), .val (.ref ad1), .val (.ref ad7), .val (.int (0 : Int32)), .val (.int (2 : Int32)), .val (.int (2 : Int32)), .val (.int (-1 : Int32)), .val (.int (0 : Int32))]) at_155 rfl rfl ?_
          refine own_aload X45 (pc' := 159) at_157 rfl rfl rfl ?_
          refine own_iload X45 (pc' := 161) at_159 rfl rfl ?_
          refine own_iload X45 (pc' := 163) at_161 rfl rfl ?_
          refine own_callS X45 (W := 0) (argsL := [(.ref ad1), (.int (0 : Int32)), (.int (2 : Int32))]) (rest := []) (S' := [(.int (own_w 4 [((b0.toInt8.toInt32) &&& (255 : Int32)), ((b1.toInt8.toInt32) &&& (255 : Int32))]))]) (pc' := 166) (rm3_2 l Z a0 hw n0 ad1 (0 : Int32) (2 : Int32) h17 X45.size _ A18 (b0.toInt8.toInt32) (b1.toInt8.toInt32) (by decide) (fun t i ht hi => own_H02 _ _ _ _ _ t i ht hi) (c_i2b _).2 (c_i2b _).2) (hw _ (List.mem_of_getElem? (i := 9) rfl)) (hw _ (List.mem_of_getElem? (i := 10) rfl)) (hw _ (List.mem_of_getElem? (i := 11) rfl)) (hw _ (List.mem_of_getElem? (i := 12) rfl)) (by decide) (by decide) (by decide) rfl rfl (by decide) (by decide) (lenOf pd_1 rfl) rfl (by first | decide | exact Nat.le_of_eq rfl) rfl at_163 rfl rfl ?_
          intro T46 h46 X46 qq46
          rw [show h46 = h17 from qq46] at X46
          refine own_iload X46 (pc' := 168) at_166 rfl rfl ?_
          refine own_icmp_ne X46 (pct := 175) (pc' := 171) at_168 rfl (by decide) (by decide) (fun hc => absurd hc (fun q => q (by (try simp only [own_m8]); exact (Eq.trans (own_wc e37 (by decide) rfl) (own_w0 e43))))) (fun _ => ?_)
          refine own_iconst X46 (v := (1 : Int32)) (pc' := 172) at_171 rfl (by decide) ?_
          refine own_goto X46 (pc' := 176) at_172 (by decide) (by decide) ?_
          subst hΦ
          exact own_retZ X46 at_176 (by decide) (by decide) (by decide) rfl trivial
        · rw [show own_nv (1 : Int32) [(b1 &&& (255 : Int32))] = (2 : Int32) from by rw [own_nv, e43]; decide]
          refine own_iload X42 (pc' := 133) at_131 rfl rfl ?_
          refine own_callS X42 (W := 1) (argsL := [(.ref ad7), (.int (2 : Int32)), (.int (2 : Int32))]) (rest := [(.ref ad7)]) (S' := [(.int (2 : Int32)), (.ref ad7)]) (pc' := 136) (rm1_B l Z a0 hw n0 ad7 (2 : Int32) (2 : Int32) h17 X42.size (by decide) (by decide)) (hw _ (List.mem_of_getElem? (i := 2) rfl)) (hw _ (List.mem_of_getElem? (i := 3) rfl)) (hw _ (List.mem_of_getElem? (i := 4) rfl)) (hw _ (List.mem_of_getElem? (i := 5) rfl)) (by decide) (by decide) (by decide) rfl rfl (by decide) (by decide) (lenOf pd_0 rfl) rfl (by first | decide | exact Nat.le_of_eq rfl) rfl at_133 rfl rfl ?_
          intro T47 h47 X47 qq47
          rw [show h47 = h17 from qq47] at X47
          refine own_iload X47 (pc' := 138) at_136 rfl rfl ?_
          refine own_callS X47 (W := 0) (argsL := [(.ref ad7), (.int (2 : Int32)), (.int (2 : Int32))]) (rest := []) (S' := [(.int (2 : Int32))]) (pc' := 141) (rm1_B l Z a0 hw n0 ad7 (2 : Int32) (2 : Int32) h17 X47.size (by decide) (by decide)) (hw _ (List.mem_of_getElem? (i := 2) rfl)) (hw _ (List.mem_of_getElem? (i := 3) rfl)) (hw _ (List.mem_of_getElem? (i := 4) rfl)) (hw _ (List.mem_of_getElem? (i := 5) rfl)) (by decide) (by decide) (by decide) rfl rfl (by decide) (by decide) (lenOf pd_0 rfl) rfl (by first | decide | exact Nat.le_of_eq rfl) rfl at_138 rfl rfl ?_
          intro T48 h48 X48 qq48
          rw [show h48 = h17 from qq48] at X48
          refine own_istore X48 (pc' := 143) (Ls' := #[.val (.int b0), .val (.int b1), .val (.int b2), .val (.int b3), .val (.int b4), .val (.int ctl), .val (.ref ad1), .val (.ref ad7), .val (.int (0 : Int32)), .val (.int (2 : Int32)), .val (.int (2 : Int32)), .val (.int (2 : Int32)), .unset]) at_141 rfl rfl ?_
          refine own_iload X48 (pc' := 145) at_143 rfl rfl ?_
          refine own_iload X48 (pc' := 147) at_145 rfl rfl ?_
          refine own_icmp_ne X48 (pct := 154) (pc' := 150) at_147 rfl (by decide) (by decide) (fun hc => absurd hc (by decide)) (fun _ => ?_)
          refine own_iconst X48 (v := (1 : Int32)) (pc' := 151) at_150 rfl (by decide) ?_
          refine own_goto X48 (pc' := 155) at_151 (by decide) (by decide) ?_
          refine own_istore X48 (pc' := 157) (Ls' := #[.val (.int b0), .val (.int b1), .val (.int b2), .val (.int b3), .val (.int b4), .val (.int ctl), .val (.ref ad1), .val (.ref ad7), .val (.int (0 : Int32)), .val (.int (2 : Int32)), .val (.int (2 : Int32)), .val (.int (2 : Int32)), .val (.int (1 : Int32))]) at_155 rfl rfl ?_
          refine own_aload X48 (pc' := 159) at_157 rfl rfl rfl ?_
          refine own_iload X48 (pc' := 161) at_159 rfl rfl ?_
          refine own_iload X48 (pc' := 163) at_161 rfl rfl ?_
          refine own_callS X48 (W := 0) (argsL := [(.ref ad1), (.int (0 : Int32)), (.int (2 : Int32))]) (rest := []) (S' := [(.int (own_w 4 [((b0.toInt8.toInt32) &&& (255 : Int32)), ((b1.toInt8.toInt32) &&& (255 : Int32))]))]) (pc' := 166) (rm3_2 l Z a0 hw n0 ad1 (0 : Int32) (2 : Int32) h17 X48.size _ A18 (b0.toInt8.toInt32) (b1.toInt8.toInt32) (by decide) (fun t i ht hi => own_H02 _ _ _ _ _ t i ht hi) (c_i2b _).2 (c_i2b _).2) (hw _ (List.mem_of_getElem? (i := 9) rfl)) (hw _ (List.mem_of_getElem? (i := 10) rfl)) (hw _ (List.mem_of_getElem? (i := 11) rfl)) (hw _ (List.mem_of_getElem? (i := 12) rfl)) (by decide) (by decide) (by decide) rfl rfl (by decide) (by decide) (lenOf pd_1 rfl) rfl (by first | decide | exact Nat.le_of_eq rfl) rfl at_163 rfl rfl ?_
          intro T49 h49 X49 qq49
          rw [show h49 = h17 from qq49] at X49
          refine own_iload X49 (pc' := 168) at_166 rfl rfl ?_
          refine own_icmp_ne X49 (pct := 175) (pc' := 171) at_168 rfl (by decide) (by decide) (fun hc => absurd hc (fun q => q (by (try simp only [own_m8]); exact (Eq.trans (own_wc e37 (by decide) rfl) (Eq.trans (own_wc e43 (by decide) rfl) (own_wn _)))))) (fun _ => ?_)
          refine own_iconst X49 (v := (1 : Int32)) (pc' := 172) at_171 rfl (by decide) ?_
          refine own_goto X49 (pc' := 176) at_172 (by decide) (by decide) ?_
          subst hΦ
          exact own_retZ X49 at_176 (by decide) (by decide) (by decide) rfl trivial
      · rw [show own_nv (0 : Int32) [(b0 &&& (255 : Int32)), (b1 &&& (255 : Int32))] = (2 : Int32) from by rw [own_nv, e37]; decide]
        refine own_iload X36 (pc' := 128) at_126 rfl rfl ?_
        refine own_callS X36 (W := 2) (argsL := [(.ref ad7), (.int (2 : Int32)), (.int (2 : Int32))]) (rest := [(.ref ad7), (.ref ad7)]) (S' := [(.int (2 : Int32)), (.ref ad7), (.ref ad7)]) (pc' := 131) (rm1_B l Z a0 hw n0 ad7 (2 : Int32) (2 : Int32) h17 X36.size (by decide) (by decide)) (hw _ (List.mem_of_getElem? (i := 2) rfl)) (hw _ (List.mem_of_getElem? (i := 3) rfl)) (hw _ (List.mem_of_getElem? (i := 4) rfl)) (hw _ (List.mem_of_getElem? (i := 5) rfl)) (by decide) (by decide) (by decide) rfl rfl (by decide) (by decide) (lenOf pd_0 rfl) rfl (by first | decide | exact Nat.le_of_eq rfl) rfl at_128 rfl rfl ?_
        intro T50 h50 X50 qq50
        rw [show h50 = h17 from qq50] at X50
        refine own_iload X50 (pc' := 133) at_131 rfl rfl ?_
        refine own_callS X50 (W := 1) (argsL := [(.ref ad7), (.int (2 : Int32)), (.int (2 : Int32))]) (rest := [(.ref ad7)]) (S' := [(.int (2 : Int32)), (.ref ad7)]) (pc' := 136) (rm1_B l Z a0 hw n0 ad7 (2 : Int32) (2 : Int32) h17 X50.size (by decide) (by decide)) (hw _ (List.mem_of_getElem? (i := 2) rfl)) (hw _ (List.mem_of_getElem? (i := 3) rfl)) (hw _ (List.mem_of_getElem? (i := 4) rfl)) (hw _ (List.mem_of_getElem? (i := 5) rfl)) (by decide) (by decide) (by decide) rfl rfl (by decide) (by decide) (lenOf pd_0 rfl) rfl (by first | decide | exact Nat.le_of_eq rfl) rfl at_133 rfl rfl ?_
        intro T51 h51 X51 qq51
        rw [show h51 = h17 from qq51] at X51
        refine own_iload X51 (pc' := 138) at_136 rfl rfl ?_
        refine own_callS X51 (W := 0) (argsL := [(.ref ad7), (.int (2 : Int32)), (.int (2 : Int32))]) (rest := []) (S' := [(.int (2 : Int32))]) (pc' := 141) (rm1_B l Z a0 hw n0 ad7 (2 : Int32) (2 : Int32) h17 X51.size (by decide) (by decide)) (hw _ (List.mem_of_getElem? (i := 2) rfl)) (hw _ (List.mem_of_getElem? (i := 3) rfl)) (hw _ (List.mem_of_getElem? (i := 4) rfl)) (hw _ (List.mem_of_getElem? (i := 5) rfl)) (by decide) (by decide) (by decide) rfl rfl (by decide) (by decide) (lenOf pd_0 rfl) rfl (by first | decide | exact Nat.le_of_eq rfl) rfl at_138 rfl rfl ?_
        intro T52 h52 X52 qq52
        rw [show h52 = h17 from qq52] at X52
        refine own_istore X52 (pc' := 143) (Ls' := #[.val (.int b0), .val (.int b1), .val (.int b2), .val (.int b3), .val (.int b4), .val (.int ctl), .val (.ref ad1), .val (.ref ad7), .val (.int (0 : Int32)), .val (.int (2 : Int32)), .val (.int (2 : Int32)), .val (.int (2 : Int32)), .unset]) at_141 rfl rfl ?_
        refine own_iload X52 (pc' := 145) at_143 rfl rfl ?_
        refine own_iload X52 (pc' := 147) at_145 rfl rfl ?_
        refine own_icmp_ne X52 (pct := 154) (pc' := 150) at_147 rfl (by decide) (by decide) (fun hc => absurd hc (by decide)) (fun _ => ?_)
        refine own_iconst X52 (v := (1 : Int32)) (pc' := 151) at_150 rfl (by decide) ?_
        refine own_goto X52 (pc' := 155) at_151 (by decide) (by decide) ?_
        refine own_istore X52 (pc' := 157) (Ls' := #[.val (.int b0), .val (.int b1), .val (.int b2), .val (.int b3), .val (.int b4), .val (.int ctl), .val (.ref ad1), .val (.ref ad7), .val (.int (0 : Int32)), .val (.int (2 : Int32)), .val (.int (2 : Int32)), .val (.int (2 : Int32)), .val (.int (1 : Int32))]) at_155 rfl rfl ?_
        refine own_aload X52 (pc' := 159) at_157 rfl rfl rfl ?_
        refine own_iload X52 (pc' := 161) at_159 rfl rfl ?_
        refine own_iload X52 (pc' := 163) at_161 rfl rfl ?_
        refine own_callS X52 (W := 0) (argsL := [(.ref ad1), (.int (0 : Int32)), (.int (2 : Int32))]) (rest := []) (S' := [(.int (own_w 4 [((b0.toInt8.toInt32) &&& (255 : Int32)), ((b1.toInt8.toInt32) &&& (255 : Int32))]))]) (pc' := 166) (rm3_2 l Z a0 hw n0 ad1 (0 : Int32) (2 : Int32) h17 X52.size _ A18 (b0.toInt8.toInt32) (b1.toInt8.toInt32) (by decide) (fun t i ht hi => own_H02 _ _ _ _ _ t i ht hi) (c_i2b _).2 (c_i2b _).2) (hw _ (List.mem_of_getElem? (i := 9) rfl)) (hw _ (List.mem_of_getElem? (i := 10) rfl)) (hw _ (List.mem_of_getElem? (i := 11) rfl)) (hw _ (List.mem_of_getElem? (i := 12) rfl)) (by decide) (by decide) (by decide) rfl rfl (by decide) (by decide) (lenOf pd_1 rfl) rfl (by first | decide | exact Nat.le_of_eq rfl) rfl at_163 rfl rfl ?_
        intro T53 h53 X53 qq53
        rw [show h53 = h17 from qq53] at X53
        refine own_iload X53 (pc' := 168) at_166 rfl rfl ?_
        refine own_icmp_ne X53 (pct := 175) (pc' := 171) at_168 rfl (by decide) (by decide) (fun hc => absurd hc (fun q => q (by (try simp only [own_m8]); exact (Eq.trans (own_wc e37 (by decide) rfl) (own_wn _))))) (fun _ => ?_)
        refine own_iconst X53 (v := (1 : Int32)) (pc' := 172) at_171 rfl (by decide) ?_
        refine own_goto X53 (pc' := 176) at_172 (by decide) (by decide) ?_
        subst hΦ
        exact own_retZ X53 at_176 (by decide) (by decide) (by decide) rfl trivial
    · refine own_iload X17 (pc' := 106) at_104 rfl rfl ?_
      refine own_iload X17 (pc' := 108) at_106 rfl rfl ?_
      refine own_iadd X17 (r := (3 : Int32)) (pc' := 109) at_108 rfl (by decide) ?_
      refine own_istore X17 (pc' := 111) (Ls' := #[.val (.int b0), .val (.int b1), .val (.int b2), .val (.int b3), .val (.int b4), .val (.int ctl), .val (.ref ad1), .val (.ref ad7), .val (.int (0 : Int32)), .val (.int (3 : Int32)), .val (.int (3 : Int32)), .unset, .unset]) at_109 rfl rfl ?_
      refine own_aload X17 (pc' := 113) at_111 rfl rfl rfl ?_
      refine own_aload X17 (pc' := 115) at_113 rfl rfl rfl ?_
      refine own_aload X17 (pc' := 117) at_115 rfl rfl rfl ?_
      refine own_aload X17 (pc' := 119) at_117 rfl rfl rfl ?_
      refine own_iload X17 (pc' := 121) at_119 rfl rfl ?_
      refine own_iload X17 (pc' := 123) at_121 rfl rfl ?_
      refine own_callS X17 (W := 3) (argsL := [(.ref ad7), (.int (0 : Int32)), (.int (3 : Int32))]) (rest := [(.ref ad7), (.ref ad7), (.ref ad7)]) (S' := [(.int (own_nv (0 : Int32) [(b0 &&& (255 : Int32)), (b1 &&& (255 : Int32)), (b2 &&& (255 : Int32))])), (.ref ad7), (.ref ad7), (.ref ad7)]) (pc' := 126) (rm1_3 l Z a0 hw n0 ad7 (0 : Int32) (3 : Int32) h17 X17.size _ A17 (b0 &&& (255 : Int32)) (b1 &&& (255 : Int32)) (b2 &&& (255 : Int32)) (by decide) (by decide) (by decide) rfl rfl rfl rfl rfl rfl (own_mr _) (own_mr _) (own_mr _)) (hw _ (List.mem_of_getElem? (i := 2) rfl)) (hw _ (List.mem_of_getElem? (i := 3) rfl)) (hw _ (List.mem_of_getElem? (i := 4) rfl)) (hw _ (List.mem_of_getElem? (i := 5) rfl)) (by decide) (by decide) (by decide) rfl rfl (by decide) (by decide) (lenOf pd_0 rfl) rfl (by first | decide | exact Nat.le_of_eq rfl) rfl at_123 rfl rfl ?_
      intro T54 h54 X54 qq54
      rw [show h54 = h17 from qq54] at X54
      rcases own_s3 (b0 &&& (255 : Int32)) (b1 &&& (255 : Int32)) (b2 &&& (255 : Int32)) with e55 | e55 | e55 | e55
      · rw [show own_nv (0 : Int32) [(b0 &&& (255 : Int32)), (b1 &&& (255 : Int32)), (b2 &&& (255 : Int32))] = (-1 : Int32) from by rw [own_nv, e55]; decide]
        refine own_iload X54 (pc' := 128) at_126 rfl rfl ?_
        refine own_callS X54 (W := 2) (argsL := [(.ref ad7), (.int (-1 : Int32)), (.int (3 : Int32))]) (rest := [(.ref ad7), (.ref ad7)]) (S' := [(.int (-1 : Int32)), (.ref ad7), (.ref ad7)]) (pc' := 131) (rm1_A l Z a0 hw n0 ad7 (-1 : Int32) (3 : Int32) h17 X54.size (by decide)) (hw _ (List.mem_of_getElem? (i := 2) rfl)) (hw _ (List.mem_of_getElem? (i := 3) rfl)) (hw _ (List.mem_of_getElem? (i := 4) rfl)) (hw _ (List.mem_of_getElem? (i := 5) rfl)) (by decide) (by decide) (by decide) rfl rfl (by decide) (by decide) (lenOf pd_0 rfl) rfl (by first | decide | exact Nat.le_of_eq rfl) rfl at_128 rfl rfl ?_
        intro T56 h56 X56 qq56
        rw [show h56 = h17 from qq56] at X56
        refine own_iload X56 (pc' := 133) at_131 rfl rfl ?_
        refine own_callS X56 (W := 1) (argsL := [(.ref ad7), (.int (-1 : Int32)), (.int (3 : Int32))]) (rest := [(.ref ad7)]) (S' := [(.int (-1 : Int32)), (.ref ad7)]) (pc' := 136) (rm1_A l Z a0 hw n0 ad7 (-1 : Int32) (3 : Int32) h17 X56.size (by decide)) (hw _ (List.mem_of_getElem? (i := 2) rfl)) (hw _ (List.mem_of_getElem? (i := 3) rfl)) (hw _ (List.mem_of_getElem? (i := 4) rfl)) (hw _ (List.mem_of_getElem? (i := 5) rfl)) (by decide) (by decide) (by decide) rfl rfl (by decide) (by decide) (lenOf pd_0 rfl) rfl (by first | decide | exact Nat.le_of_eq rfl) rfl at_133 rfl rfl ?_
        intro T57 h57 X57 qq57
        rw [show h57 = h17 from qq57] at X57
        refine own_iload X57 (pc' := 138) at_136 rfl rfl ?_
        refine own_callS X57 (W := 0) (argsL := [(.ref ad7), (.int (-1 : Int32)), (.int (3 : Int32))]) (rest := []) (S' := [(.int (-1 : Int32))]) (pc' := 141) (rm1_A l Z a0 hw n0 ad7 (-1 : Int32) (3 : Int32) h17 X57.size (by decide)) (hw _ (List.mem_of_getElem? (i := 2) rfl)) (hw _ (List.mem_of_getElem? (i := 3) rfl)) (hw _ (List.mem_of_getElem? (i := 4) rfl)) (hw _ (List.mem_of_getElem? (i := 5) rfl)) (by decide) (by decide) (by decide) rfl rfl (by decide) (by decide) (lenOf pd_0 rfl) rfl (by first | decide | exact Nat.le_of_eq rfl) rfl at_138 rfl rfl ?_
        intro T58 h58 X58 qq58
        rw [show h58 = h17 from qq58] at X58
        refine own_istore X58 (pc' := 143) (Ls' := #[.val (.int b0), .val (.int b1), .val (.int b2), .val (.int b3), .val (.int b4), .val (.int ctl), .val (.ref ad1), .val (.ref ad7), .val (.int (0 : Int32)), .val (.int (3 : Int32)), .val (.int (3 : Int32)), .val (.int (-1 : Int32)), .unset]) at_141 rfl rfl ?_
        refine own_iload X58 (pc' := 145) at_143 rfl rfl ?_
        refine own_iload X58 (pc' := 147) at_145 rfl rfl ?_
        refine own_icmp_ne X58 (pct := 154) (pc' := 150) at_147 rfl (by decide) (by decide) (fun _ => ?_) (fun hc => absurd hc (by decide))
        refine own_iconst X58 (v := (0 : Int32)) (pc' := 155) at_154 rfl (by decide) ?_
        refine own_istore X58 (pc' := 157) (Ls' := #[.val (.int b0), .val (.int b1), .val (.int b2), .val (.int b3), .val (.int b4), .val (.int ctl), .val (.ref ad1), .val (.ref ad7), .val (.int (0 : Int32)), .val (.int (3 : Int32)), .val (.int (3 : Int32)), .val (.int (-1 : Int32)), .val (.int (0 : Int32))]) at_155 rfl rfl ?_
        refine own_aload X58 (pc' := 159) at_157 rfl rfl rfl ?_
        refine own_iload X58 (pc' := 161) at_159 rfl rfl ?_
        refine own_iload X58 (pc' := 163) at_161 rfl rfl ?_
        refine own_callS X58 (W := 0) (argsL := [(.ref ad1), (.int (0 : Int32)), (.int (3 : Int32))]) (rest := []) (S' := [(.int (own_w 4 [((b0.toInt8.toInt32) &&& (255 : Int32)), ((b1.toInt8.toInt32) &&& (255 : Int32)), ((b2.toInt8.toInt32) &&& (255 : Int32))]))]) (pc' := 166) (rm3_3 l Z a0 hw n0 ad1 (0 : Int32) (3 : Int32) h17 X58.size _ A18 (b0.toInt8.toInt32) (b1.toInt8.toInt32) (b2.toInt8.toInt32) (by decide) (fun t i ht hi => own_H03 _ _ _ _ _ t i ht hi) (c_i2b _).2 (c_i2b _).2 (c_i2b _).2) (hw _ (List.mem_of_getElem? (i := 9) rfl)) (hw _ (List.mem_of_getElem? (i := 10) rfl)) (hw _ (List.mem_of_getElem? (i := 11) rfl)) (hw _ (List.mem_of_getElem? (i := 12) rfl)) (by decide) (by decide) (by decide) rfl rfl (by decide) (by decide) (lenOf pd_1 rfl) rfl (by first | decide | exact Nat.le_of_eq rfl) rfl at_163 rfl rfl ?_
        intro T59 h59 X59 qq59
        rw [show h59 = h17 from qq59] at X59
        refine own_iload X59 (pc' := 168) at_166 rfl rfl ?_
        refine own_icmp_ne X59 (pct := 175) (pc' := 171) at_168 rfl (by decide) (by decide) (fun hc => absurd hc (fun q => q (by (try simp only [own_m8]); exact (own_w0 e55)))) (fun _ => ?_)
        refine own_iconst X59 (v := (1 : Int32)) (pc' := 172) at_171 rfl (by decide) ?_
        refine own_goto X59 (pc' := 176) at_172 (by decide) (by decide) ?_
        subst hΦ
        exact own_retZ X59 at_176 (by decide) (by decide) (by decide) rfl trivial
      · rw [show own_nv (0 : Int32) [(b0 &&& (255 : Int32)), (b1 &&& (255 : Int32)), (b2 &&& (255 : Int32))] = (1 : Int32) from by rw [own_nv, e55]; decide]
        refine own_iload X54 (pc' := 128) at_126 rfl rfl ?_
        refine own_callS X54 (W := 2) (argsL := [(.ref ad7), (.int (1 : Int32)), (.int (3 : Int32))]) (rest := [(.ref ad7), (.ref ad7)]) (S' := [(.int (own_nv (1 : Int32) [(b1 &&& (255 : Int32)), (b2 &&& (255 : Int32))])), (.ref ad7), (.ref ad7)]) (pc' := 131) (rm1_2 l Z a0 hw n0 ad7 (1 : Int32) (3 : Int32) h17 X54.size _ A17 (b1 &&& (255 : Int32)) (b2 &&& (255 : Int32)) (by decide) (by decide) (by decide) rfl rfl rfl rfl (own_mr _) (own_mr _)) (hw _ (List.mem_of_getElem? (i := 2) rfl)) (hw _ (List.mem_of_getElem? (i := 3) rfl)) (hw _ (List.mem_of_getElem? (i := 4) rfl)) (hw _ (List.mem_of_getElem? (i := 5) rfl)) (by decide) (by decide) (by decide) rfl rfl (by decide) (by decide) (lenOf pd_0 rfl) rfl (by first | decide | exact Nat.le_of_eq rfl) rfl at_128 rfl rfl ?_
        intro T60 h60 X60 qq60
        rw [show h60 = h17 from qq60] at X60
        rcases own_s2 (b1 &&& (255 : Int32)) (b2 &&& (255 : Int32)) with e61 | e61 | e61
        · rw [show own_nv (1 : Int32) [(b1 &&& (255 : Int32)), (b2 &&& (255 : Int32))] = (-1 : Int32) from by rw [own_nv, e61]; decide]
          refine own_iload X60 (pc' := 133) at_131 rfl rfl ?_
          refine own_callS X60 (W := 1) (argsL := [(.ref ad7), (.int (-1 : Int32)), (.int (3 : Int32))]) (rest := [(.ref ad7)]) (S' := [(.int (-1 : Int32)), (.ref ad7)]) (pc' := 136) (rm1_A l Z a0 hw n0 ad7 (-1 : Int32) (3 : Int32) h17 X60.size (by decide)) (hw _ (List.mem_of_getElem? (i := 2) rfl)) (hw _ (List.mem_of_getElem? (i := 3) rfl)) (hw _ (List.mem_of_getElem? (i := 4) rfl)) (hw _ (List.mem_of_getElem? (i := 5) rfl)) (by decide) (by decide) (by decide) rfl rfl (by decide) (by decide) (lenOf pd_0 rfl) rfl (by first | decide | exact Nat.le_of_eq rfl) rfl at_133 rfl rfl ?_
          intro T62 h62 X62 qq62
          rw [show h62 = h17 from qq62] at X62
          refine own_iload X62 (pc' := 138) at_136 rfl rfl ?_
          refine own_callS X62 (W := 0) (argsL := [(.ref ad7), (.int (-1 : Int32)), (.int (3 : Int32))]) (rest := []) (S' := [(.int (-1 : Int32))]) (pc' := 141) (rm1_A l Z a0 hw n0 ad7 (-1 : Int32) (3 : Int32) h17 X62.size (by decide)) (hw _ (List.mem_of_getElem? (i := 2) rfl)) (hw _ (List.mem_of_getElem? (i := 3) rfl)) (hw _ (List.mem_of_getElem? (i := 4) rfl)) (hw _ (List.mem_of_getElem? (i := 5) rfl)) (by decide) (by decide) (by decide) rfl rfl (by decide) (by decide) (lenOf pd_0 rfl) rfl (by first | decide | exact Nat.le_of_eq rfl) rfl at_138 rfl rfl ?_
          intro T63 h63 X63 qq63
          rw [show h63 = h17 from qq63] at X63
          refine own_istore X63 (pc' := 143) (Ls' := #[.val (.int b0), .val (.int b1), .val (.int b2), .val (.int b3), .val (.int b4), .val (.int ctl), .val (.ref ad1), .val (.ref ad7), .val (.int (0 : Int32)), .val (.int (3 : Int32)), .val (.int (3 : Int32)), .val (.int (-1 : Int32)), .unset]) at_141 rfl rfl ?_
          refine own_iload X63 (pc' := 145) at_143 rfl rfl ?_
          refine own_iload X63 (pc' := 147) at_145 rfl rfl ?_
          refine own_icmp_ne X63 (pct := 154) (pc' := 150) at_147 rfl (by decide) (by decide) (fun _ => ?_) (fun hc => absurd hc (by decide))
          refine own_iconst X63 (v := (0 : Int32)) (pc' := 155) at_154 rfl (by decide) ?_
          refine own_istore X63 (pc' := 157) (Ls' := #[.val (.int b0), .val (.int b1), .val (.int b2), .val (.int b3), .val (.int b4), .val (.int ctl), .val (.ref ad1), .val (.ref ad7), .val (.int (0 : Int32)), .val (.int (3 : Int32)), .val (.int (3 : Int32)), .val (.int (-1 : Int32)), .val (.int (0 : Int32))]) at_155 rfl rfl ?_
          refine own_aload X63 (pc' := 159) at_157 rfl rfl rfl ?_
          refine own_iload X63 (pc' := 161) at_159 rfl rfl ?_
          refine own_iload X63 (pc' := 163) at_161 rfl rfl ?_
          refine own_callS X63 (W := 0) (argsL := [(.ref ad1), (.int (0 : Int32)), (.int (3 : Int32))]) (rest := []) (S' := [(.int (own_w 4 [((b0.toInt8.toInt32) &&& (255 : Int32)), ((b1.toInt8.toInt32) &&& (255 : Int32)), ((b2.toInt8.toInt32) &&& (255 : Int32))]))]) (pc' := 166) (rm3_3 l Z a0 hw n0 ad1 (0 : Int32) (3 : Int32) h17 X63.size _ A18 (b0.toInt8.toInt32) (b1.toInt8.toInt32) (b2.toInt8.toInt32) (by decide) (fun t i ht hi => own_H03 _ _ _ _ _ t i ht hi) (c_i2b _).2 (c_i2b _).2 (c_i2b _).2) (hw _ (List.mem_of_getElem? (i := 9) rfl)) (hw _ (List.mem_of_getElem? (i := 10) rfl)) (hw _ (List.mem_of_getElem? (i := 11) rfl)) (hw _ (List.mem_of_getElem? (i := 12) rfl)) (by decide) (by decide) (by decide) rfl rfl (by decide) (by decide) (lenOf pd_1 rfl) rfl (by first | decide | exact Nat.le_of_eq rfl) rfl at_163 rfl rfl ?_
          intro T64 h64 X64 qq64
          rw [show h64 = h17 from qq64] at X64
          refine own_iload X64 (pc' := 168) at_166 rfl rfl ?_
          refine own_icmp_ne X64 (pct := 175) (pc' := 171) at_168 rfl (by decide) (by decide) (fun hc => absurd hc (fun q => q (by (try simp only [own_m8]); exact (Eq.trans (own_wc e55 (by decide) rfl) (own_w0 e61))))) (fun _ => ?_)
          refine own_iconst X64 (v := (1 : Int32)) (pc' := 172) at_171 rfl (by decide) ?_
          refine own_goto X64 (pc' := 176) at_172 (by decide) (by decide) ?_
          subst hΦ
          exact own_retZ X64 at_176 (by decide) (by decide) (by decide) rfl trivial
        · rw [show own_nv (1 : Int32) [(b1 &&& (255 : Int32)), (b2 &&& (255 : Int32))] = (2 : Int32) from by rw [own_nv, e61]; decide]
          refine own_iload X60 (pc' := 133) at_131 rfl rfl ?_
          refine own_callS X60 (W := 1) (argsL := [(.ref ad7), (.int (2 : Int32)), (.int (3 : Int32))]) (rest := [(.ref ad7)]) (S' := [(.int (own_nv (2 : Int32) [(b2 &&& (255 : Int32))])), (.ref ad7)]) (pc' := 136) (rm1_1 l Z a0 hw n0 ad7 (2 : Int32) (3 : Int32) h17 X60.size _ A17 (b2 &&& (255 : Int32)) (by decide) (by decide) (by decide) rfl rfl (own_mr _)) (hw _ (List.mem_of_getElem? (i := 2) rfl)) (hw _ (List.mem_of_getElem? (i := 3) rfl)) (hw _ (List.mem_of_getElem? (i := 4) rfl)) (hw _ (List.mem_of_getElem? (i := 5) rfl)) (by decide) (by decide) (by decide) rfl rfl (by decide) (by decide) (lenOf pd_0 rfl) rfl (by first | decide | exact Nat.le_of_eq rfl) rfl at_133 rfl rfl ?_
          intro T65 h65 X65 qq65
          rw [show h65 = h17 from qq65] at X65
          rcases own_s1 (b2 &&& (255 : Int32)) with e66 | e66
          · rw [show own_nv (2 : Int32) [(b2 &&& (255 : Int32))] = (-1 : Int32) from by rw [own_nv, e66]; decide]
            refine own_iload X65 (pc' := 138) at_136 rfl rfl ?_
            refine own_callS X65 (W := 0) (argsL := [(.ref ad7), (.int (-1 : Int32)), (.int (3 : Int32))]) (rest := []) (S' := [(.int (-1 : Int32))]) (pc' := 141) (rm1_A l Z a0 hw n0 ad7 (-1 : Int32) (3 : Int32) h17 X65.size (by decide)) (hw _ (List.mem_of_getElem? (i := 2) rfl)) (hw _ (List.mem_of_getElem? (i := 3) rfl)) (hw _ (List.mem_of_getElem? (i := 4) rfl)) (hw _ (List.mem_of_getElem? (i := 5) rfl)) (by decide) (by decide) (by decide) rfl rfl (by decide) (by decide) (lenOf pd_0 rfl) rfl (by first | decide | exact Nat.le_of_eq rfl) rfl at_138 rfl rfl ?_
            intro T67 h67 X67 qq67
            rw [show h67 = h17 from qq67] at X67
            refine own_istore X67 (pc' := 143) (Ls' := #[.val (.int b0), .val (.int b1), .val (.int b2), .val (.int b3), .val (.int b4), .val (.int ctl), .val (.ref ad1), .val (.ref ad7), .val (.int (0 : Int32)), .val (.int (3 : Int32)), .val (.int (3 : Int32)), .val (.int (-1 : Int32)), .unset]) at_141 rfl rfl ?_
            refine own_iload X67 (pc' := 145) at_143 rfl rfl ?_
            refine own_iload X67 (pc' := 147) at_145 rfl rfl ?_
            refine own_icmp_ne X67 (pct := 154) (pc' := 150) at_147 rfl (by decide) (by decide) (fun _ => ?_) (fun hc => absurd hc (by decide))
            refine own_iconst X67 (v := (0 : Int32)) (pc' := 155) at_154 rfl (by decide) ?_
            refine own_istore X67 (pc' := 157) (Ls' := #[.val (.int b0), .val (.int b1), .val (.int b2), .val (.int b3), .val (.int b4), .val (.int ctl), .val (.ref ad1), .val (.ref ad7), .val (.int (0 : Int32)), .val (.int (3 : Int32)), .val (.int (3 : Int32)), .val (.int (-1 : Int32)), .val (.int (0 : Int32))]) at_155 rfl rfl ?_
            refine own_aload X67 (pc' := 159) at_157 rfl rfl rfl ?_
            refine own_iload X67 (pc' := 161) at_159 rfl rfl ?_
            refine own_iload X67 (pc' := 163) at_161 rfl rfl ?_
            refine own_callS X67 (W := 0) (argsL := [(.ref ad1), (.int (0 : Int32)), (.int (3 : Int32))]) (rest := []) (S' := [(.int (own_w 4 [((b0.toInt8.toInt32) &&& (255 : Int32)), ((b1.toInt8.toInt32) &&& (255 : Int32)), ((b2.toInt8.toInt32) &&& (255 : Int32))]))]) (pc' := 166) (rm3_3 l Z a0 hw n0 ad1 (0 : Int32) (3 : Int32) h17 X67.size _ A18 (b0.toInt8.toInt32) (b1.toInt8.toInt32) (b2.toInt8.toInt32) (by decide) (fun t i ht hi => own_H03 _ _ _ _ _ t i ht hi) (c_i2b _).2 (c_i2b _).2 (c_i2b _).2) (hw _ (List.mem_of_getElem? (i := 9) rfl)) (hw _ (List.mem_of_getElem? (i := 10) rfl)) (hw _ (List.mem_of_getElem? (i := 11) rfl)) (hw _ (List.mem_of_getElem? (i := 12) rfl)) (by decide) (by decide) (by decide) rfl rfl (by decide) (by decide) (lenOf pd_1 rfl) rfl (by first | decide | exact Nat.le_of_eq rfl) rfl at_163 rfl rfl ?_
            intro T68 h68 X68 qq68
            rw [show h68 = h17 from qq68] at X68
            refine own_iload X68 (pc' := 168) at_166 rfl rfl ?_
            refine own_icmp_ne X68 (pct := 175) (pc' := 171) at_168 rfl (by decide) (by decide) (fun hc => absurd hc (fun q => q (by (try simp only [own_m8]); exact (Eq.trans (own_wc e55 (by decide) rfl) (Eq.trans (own_wc e61 (by decide) rfl) (own_w0 e66)))))) (fun _ => ?_)
            refine own_iconst X68 (v := (1 : Int32)) (pc' := 172) at_171 rfl (by decide) ?_
            refine own_goto X68 (pc' := 176) at_172 (by decide) (by decide) ?_
            subst hΦ
            exact own_retZ X68 at_176 (by decide) (by decide) (by decide) rfl trivial
          · rw [show own_nv (2 : Int32) [(b2 &&& (255 : Int32))] = (3 : Int32) from by rw [own_nv, e66]; decide]
            refine own_iload X65 (pc' := 138) at_136 rfl rfl ?_
            refine own_callS X65 (W := 0) (argsL := [(.ref ad7), (.int (3 : Int32)), (.int (3 : Int32))]) (rest := []) (S' := [(.int (3 : Int32))]) (pc' := 141) (rm1_B l Z a0 hw n0 ad7 (3 : Int32) (3 : Int32) h17 X65.size (by decide) (by decide)) (hw _ (List.mem_of_getElem? (i := 2) rfl)) (hw _ (List.mem_of_getElem? (i := 3) rfl)) (hw _ (List.mem_of_getElem? (i := 4) rfl)) (hw _ (List.mem_of_getElem? (i := 5) rfl)) (by decide) (by decide) (by decide) rfl rfl (by decide) (by decide) (lenOf pd_0 rfl) rfl (by first | decide | exact Nat.le_of_eq rfl) rfl at_138 rfl rfl ?_
            intro T69 h69 X69 qq69
            rw [show h69 = h17 from qq69] at X69
            refine own_istore X69 (pc' := 143) (Ls' := #[.val (.int b0), .val (.int b1), .val (.int b2), .val (.int b3), .val (.int b4), .val (.int ctl), .val (.ref ad1), .val (.ref ad7), .val (.int (0 : Int32)), .val (.int (3 : Int32)), .val (.int (3 : Int32)), .val (.int (3 : Int32)), .unset]) at_141 rfl rfl ?_
            refine own_iload X69 (pc' := 145) at_143 rfl rfl ?_
            refine own_iload X69 (pc' := 147) at_145 rfl rfl ?_
            refine own_icmp_ne X69 (pct := 154) (pc' := 150) at_147 rfl (by decide) (by decide) (fun hc => absurd hc (by decide)) (fun _ => ?_)
            refine own_iconst X69 (v := (1 : Int32)) (pc' := 151) at_150 rfl (by decide) ?_
            refine own_goto X69 (pc' := 155) at_151 (by decide) (by decide) ?_
            refine own_istore X69 (pc' := 157) (Ls' := #[.val (.int b0), .val (.int b1), .val (.int b2), .val (.int b3), .val (.int b4), .val (.int ctl), .val (.ref ad1), .val (.ref ad7), .val (.int (0 : Int32)), .val (.int (3 : Int32)), .val (.int (3 : Int32)), .val (.int (3 : Int32)), .val (.int (1 : Int32))]) at_155 rfl rfl ?_
            refine own_aload X69 (pc' := 159) at_157 rfl rfl rfl ?_
            refine own_iload X69 (pc' := 161) at_159 rfl rfl ?_
            refine own_iload X69 (pc' := 163) at_161 rfl rfl ?_
            refine own_callS X69 (W := 0) (argsL := [(.ref ad1), (.int (0 : Int32)), (.int (3 : Int32))]) (rest := []) (S' := [(.int (own_w 4 [((b0.toInt8.toInt32) &&& (255 : Int32)), ((b1.toInt8.toInt32) &&& (255 : Int32)), ((b2.toInt8.toInt32) &&& (255 : Int32))]))]) (pc' := 166) (rm3_3 l Z a0 hw n0 ad1 (0 : Int32) (3 : Int32) h17 X69.size _ A18 (b0.toInt8.toInt32) (b1.toInt8.toInt32) (b2.toInt8.toInt32) (by decide) (fun t i ht hi => own_H03 _ _ _ _ _ t i ht hi) (c_i2b _).2 (c_i2b _).2 (c_i2b _).2) (hw _ (List.mem_of_getElem? (i := 9) rfl)) (hw _ (List.mem_of_getElem? (i := 10) rfl)) (hw _ (List.mem_of_getElem? (i := 11) rfl)) (hw _ (List.mem_of_getElem? (i := 12) rfl)) (by decide) (by decide) (by decide) rfl rfl (by decide) (by decide) (lenOf pd_1 rfl) rfl (by first | decide | exact Nat.le_of_eq rfl) rfl at_163 rfl rfl ?_
            intro T70 h70 X70 qq70
            rw [show h70 = h17 from qq70] at X70
            refine own_iload X70 (pc' := 168) at_166 rfl rfl ?_
            refine own_icmp_ne X70 (pct := 175) (pc' := 171) at_168 rfl (by decide) (by decide) (fun hc => absurd hc (fun q => q (by (try simp only [own_m8]); exact (Eq.trans (own_wc e55 (by decide) rfl) (Eq.trans (own_wc e61 (by decide) rfl) (Eq.trans (own_wc e66 (by decide) rfl) (own_wn _))))))) (fun _ => ?_)
            refine own_iconst X70 (v := (1 : Int32)) (pc' := 172) at_171 rfl (by decide) ?_
            refine own_goto X70 (pc' := 176) at_172 (by decide) (by decide) ?_
            subst hΦ
            exact own_retZ X70 at_176 (by decide) (by decide) (by decide) rfl trivial
        · rw [show own_nv (1 : Int32) [(b1 &&& (255 : Int32)), (b2 &&& (255 : Int32))] = (3 : Int32) from by rw [own_nv, e61]; decide]
          refine own_iload X60 (pc' := 133) at_131 rfl rfl ?_
          refine own_callS X60 (W := 1) (argsL := [(.ref ad7), (.int (3 : Int32)), (.int (3 : Int32))]) (rest := [(.ref ad7)]) (S' := [(.int (3 : Int32)), (.ref ad7)]) (pc' := 136) (rm1_B l Z a0 hw n0 ad7 (3 : Int32) (3 : Int32) h17 X60.size (by decide) (by decide)) (hw _ (List.mem_of_getElem? (i := 2) rfl)) (hw _ (List.mem_of_getElem? (i := 3) rfl)) (hw _ (List.mem_of_getElem? (i := 4) rfl)) (hw _ (List.mem_of_getElem? (i := 5) rfl)) (by decide) (by decide) (by decide) rfl rfl (by decide) (by decide) (lenOf pd_0 rfl) rfl (by first | decide | exact Nat.le_of_eq rfl) rfl at_133 rfl rfl ?_
          intro T71 h71 X71 qq71
          rw [show h71 = h17 from qq71] at X71
          refine own_iload X71 (pc' := 138) at_136 rfl rfl ?_
          refine own_callS X71 (W := 0) (argsL := [(.ref ad7), (.int (3 : Int32)), (.int (3 : Int32))]) (rest := []) (S' := [(.int (3 : Int32))]) (pc' := 141) (rm1_B l Z a0 hw n0 ad7 (3 : Int32) (3 : Int32) h17 X71.size (by decide) (by decide)) (hw _ (List.mem_of_getElem? (i := 2) rfl)) (hw _ (List.mem_of_getElem? (i := 3) rfl)) (hw _ (List.mem_of_getElem? (i := 4) rfl)) (hw _ (List.mem_of_getElem? (i := 5) rfl)) (by decide) (by decide) (by decide) rfl rfl (by decide) (by decide) (lenOf pd_0 rfl) rfl (by first | decide | exact Nat.le_of_eq rfl) rfl at_138 rfl rfl ?_
          intro T72 h72 X72 qq72
          rw [show h72 = h17 from qq72] at X72
          refine own_istore X72 (pc' := 143) (Ls' := #[.val (.int b0), .val (.int b1), .val (.int b2), .val (.int b3), .val (.int b4), .val (.int ctl), .val (.ref ad1), .val (.ref ad7), .val (.int (0 : Int32)), .val (.int (3 : Int32)), .val (.int (3 : Int32)), .val (.int (3 : Int32)), .unset]) at_141 rfl rfl ?_
          refine own_iload X72 (pc' := 145) at_143 rfl rfl ?_
          refine own_iload X72 (pc' := 147) at_145 rfl rfl ?_
          refine own_icmp_ne X72 (pct := 154) (pc' := 150) at_147 rfl (by decide) (by decide) (fun hc => absurd hc (by decide)) (fun _ => ?_)
          refine own_iconst X72 (v := (1 : Int32)) (pc' := 151) at_150 rfl (by decide) ?_
          refine own_goto X72 (pc' := 155) at_151 (by decide) (by decide) ?_
          refine own_istore X72 (pc' := 157) (Ls' := #[.val (.int b0), .val (.int b1), .val (.int b2), .val (.int b3), .val (.int b4), .val (.int ctl), .val (.ref ad1), .val (.ref ad7), .val (.int (0 : Int32)), .val (.int (3 : Int32)), .val (.int (3 : Int32)), .val (.int (3 : Int32)), .val (.int (1 : Int32))]) at_155 rfl rfl ?_
          refine own_aload X72 (pc' := 159) at_157 rfl rfl rfl ?_
          refine own_iload X72 (pc' := 161) at_159 rfl rfl ?_
          refine own_iload X72 (pc' := 163) at_161 rfl rfl ?_
          refine own_callS X72 (W := 0) (argsL := [(.ref ad1), (.int (0 : Int32)), (.int (3 : Int32))]) (rest := []) (S' := [(.int (own_w 4 [((b0.toInt8.toInt32) &&& (255 : Int32)), ((b1.toInt8.toInt32) &&& (255 : Int32)), ((b2.toInt8.toInt32) &&& (255 : Int32))]))]) (pc' := 166) (rm3_3 l Z a0 hw n0 ad1 (0 : Int32) (3 : Int32) h17 X72.size _ A18 (b0.toInt8.toInt32) (b1.toInt8.toInt32) (b2.toInt8.toInt32) (by decide) (fun t i ht hi => own_H03 _ _ _ _ _ t i ht hi) (c_i2b _).2 (c_i2b _).2 (c_i2b _).2) (hw _ (List.mem_of_getElem? (i := 9) rfl)) (hw _ (List.mem_of_getElem? (i := 10) rfl)) (hw _ (List.mem_of_getElem? (i := 11) rfl)) (hw _ (List.mem_of_getElem? (i := 12) rfl)) (by decide) (by decide) (by decide) rfl rfl (by decide) (by decide) (lenOf pd_1 rfl) rfl (by first | decide | exact Nat.le_of_eq rfl) rfl at_163 rfl rfl ?_
          intro T73 h73 X73 qq73
          rw [show h73 = h17 from qq73] at X73
          refine own_iload X73 (pc' := 168) at_166 rfl rfl ?_
          refine own_icmp_ne X73 (pct := 175) (pc' := 171) at_168 rfl (by decide) (by decide) (fun hc => absurd hc (fun q => q (by (try simp only [own_m8]); exact (Eq.trans (own_wc e55 (by decide) rfl) (Eq.trans (own_wc e61 (by decide) rfl) (own_wn _)))))) (fun _ => ?_)
          refine own_iconst X73 (v := (1 : Int32)) (pc' := 172) at_171 rfl (by decide) ?_
          refine own_goto X73 (pc' := 176) at_172 (by decide) (by decide) ?_
          subst hΦ
          exact own_retZ X73 at_176 (by decide) (by decide) (by decide) rfl trivial
      · rw [show own_nv (0 : Int32) [(b0 &&& (255 : Int32)), (b1 &&& (255 : Int32)), (b2 &&& (255 : Int32))] = (2 : Int32) from by rw [own_nv, e55]; decide]
        refine own_iload X54 (pc' := 128) at_126 rfl rfl ?_
        refine own_callS X54 (W := 2) (argsL := [(.ref ad7), (.int (2 : Int32)), (.int (3 : Int32))]) (rest := [(.ref ad7), (.ref ad7)]) (S' := [(.int (own_nv (2 : Int32) [(b2 &&& (255 : Int32))])), (.ref ad7), (.ref ad7)]) (pc' := 131) (rm1_1 l Z a0 hw n0 ad7 (2 : Int32) (3 : Int32) h17 X54.size _ A17 (b2 &&& (255 : Int32)) (by decide) (by decide) (by decide) rfl rfl (own_mr _)) (hw _ (List.mem_of_getElem? (i := 2) rfl)) (hw _ (List.mem_of_getElem? (i := 3) rfl)) (hw _ (List.mem_of_getElem? (i := 4) rfl)) (hw _ (List.mem_of_getElem? (i := 5) rfl)) (by decide) (by decide) (by decide) rfl rfl (by decide) (by decide) (lenOf pd_0 rfl) rfl (by first | decide | exact Nat.le_of_eq rfl) rfl at_128 rfl rfl ?_
        intro T74 h74 X74 qq74
        rw [show h74 = h17 from qq74] at X74
        rcases own_s1 (b2 &&& (255 : Int32)) with e75 | e75
        · rw [show own_nv (2 : Int32) [(b2 &&& (255 : Int32))] = (-1 : Int32) from by rw [own_nv, e75]; decide]
          refine own_iload X74 (pc' := 133) at_131 rfl rfl ?_
          refine own_callS X74 (W := 1) (argsL := [(.ref ad7), (.int (-1 : Int32)), (.int (3 : Int32))]) (rest := [(.ref ad7)]) (S' := [(.int (-1 : Int32)), (.ref ad7)]) (pc' := 136) (rm1_A l Z a0 hw n0 ad7 (-1 : Int32) (3 : Int32) h17 X74.size (by decide)) (hw _ (List.mem_of_getElem? (i := 2) rfl)) (hw _ (List.mem_of_getElem? (i := 3) rfl)) (hw _ (List.mem_of_getElem? (i := 4) rfl)) (hw _ (List.mem_of_getElem? (i := 5) rfl)) (by decide) (by decide) (by decide) rfl rfl (by decide) (by decide) (lenOf pd_0 rfl) rfl (by first | decide | exact Nat.le_of_eq rfl) rfl at_133 rfl rfl ?_
          intro T76 h76 X76 qq76
          rw [show h76 = h17 from qq76] at X76
          refine own_iload X76 (pc' := 138) at_136 rfl rfl ?_
          refine own_callS X76 (W := 0) (argsL := [(.ref ad7), (.int (-1 : Int32)), (.int (3 : Int32))]) (rest := []) (S' := [(.int (-1 : Int32))]) (pc' := 141) (rm1_A l Z a0 hw n0 ad7 (-1 : Int32) (3 : Int32) h17 X76.size (by decide)) (hw _ (List.mem_of_getElem? (i := 2) rfl)) (hw _ (List.mem_of_getElem? (i := 3) rfl)) (hw _ (List.mem_of_getElem? (i := 4) rfl)) (hw _ (List.mem_of_getElem? (i := 5) rfl)) (by decide) (by decide) (by decide) rfl rfl (by decide) (by decide) (lenOf pd_0 rfl) rfl (by first | decide | exact Nat.le_of_eq rfl) rfl at_138 rfl rfl ?_
          intro T77 h77 X77 qq77
          rw [show h77 = h17 from qq77] at X77
          refine own_istore X77 (pc' := 143) (Ls' := #[.val (.int b0), .val (.int b1), .val (.int b2), .val (.int b3), .val (.int b4), .val (.int ctl), .val (.ref ad1), .val (.ref ad7), .val (.int (0 : Int32)), .val (.int (3 : Int32)), .val (.int (3 : Int32)), .val (.int (-1 : Int32)), .unset]) at_141 rfl rfl ?_
          refine own_iload X77 (pc' := 145) at_143 rfl rfl ?_
          refine own_iload X77 (pc' := 147) at_145 rfl rfl ?_
          refine own_icmp_ne X77 (pct := 154) (pc' := 150) at_147 rfl (by decide) (by decide) (fun _ => ?_) (fun hc => absurd hc (by decide))
          refine own_iconst X77 (v := (0 : Int32)) (pc' := 155) at_154 rfl (by decide) ?_
          refine own_istore X77 (pc' := 157) (Ls' := #[.val (.int b0), .val (.int b1), .val (.int b2), .val (.int b3), .val (.int b4), .val (.int ctl), .val (.ref ad1), .val (.ref ad7), .val (.int (0 : Int32)), .val (.int (3 : Int32)), .val (.int (3 : Int32)), .val (.int (-1 : Int32)), .val (.int (0 : Int32))]) at_155 rfl rfl ?_
          refine own_aload X77 (pc' := 159) at_157 rfl rfl rfl ?_
          refine own_iload X77 (pc' := 161) at_159 rfl rfl ?_
          refine own_iload X77 (pc' := 163) at_161 rfl rfl ?_
          refine own_callS X77 (W := 0) (argsL := [(.ref ad1), (.int (0 : Int32)), (.int (3 : Int32))]) (rest := []) (S' := [(.int (own_w 4 [((b0.toInt8.toInt32) &&& (255 : Int32)), ((b1.toInt8.toInt32) &&& (255 : Int32)), ((b2.toInt8.toInt32) &&& (255 : Int32))]))]) (pc' := 166) (rm3_3 l Z a0 hw n0 ad1 (0 : Int32) (3 : Int32) h17 X77.size _ A18 (b0.toInt8.toInt32) (b1.toInt8.toInt32) (b2.toInt8.toInt32) (by decide) (fun t i ht hi => own_H03 _ _ _ _ _ t i ht hi) (c_i2b _).2 (c_i2b _).2 (c_i2b _).2) (hw _ (List.mem_of_getElem? (i := 9) rfl)) (hw _ (List.mem_of_getElem? (i := 10) rfl)) (hw _ (List.mem_of_getElem? (i := 11) rfl)) (hw _ (List.mem_of_getElem? (i := 12) rfl)) (by decide) (by decide) (by decide) rfl rfl (by decide) (by decide) (lenOf pd_1 rfl) rfl (by first | decide | exact Nat.le_of_eq rfl) rfl at_163 rfl rfl ?_
          intro T78 h78 X78 qq78
          rw [show h78 = h17 from qq78] at X78
          refine own_iload X78 (pc' := 168) at_166 rfl rfl ?_
          refine own_icmp_ne X78 (pct := 175) (pc' := 171) at_168 rfl (by decide) (by decide) (fun hc => absurd hc (fun q => q (by (try simp only [own_m8]); exact (Eq.trans (own_wc e55 (by decide) rfl) (own_w0 e75))))) (fun _ => ?_)
          refine own_iconst X78 (v := (1 : Int32)) (pc' := 172) at_171 rfl (by decide) ?_
          refine own_goto X78 (pc' := 176) at_172 (by decide) (by decide) ?_
          subst hΦ
          exact own_retZ X78 at_176 (by decide) (by decide) (by decide) rfl trivial
        · rw [show own_nv (2 : Int32) [(b2 &&& (255 : Int32))] = (3 : Int32) from by rw [own_nv, e75]; decide]
          refine own_iload X74 (pc' := 133) at_131 rfl rfl ?_
          refine own_callS X74 (W := 1) (argsL := [(.ref ad7), (.int (3 : Int32)), (.int (3 : Int32))]) (rest := [(.ref ad7)]) (S' := [(.int (3 : Int32)), (.ref ad7)]) (pc' := 136) (rm1_B l Z a0 hw n0 ad7 (3 : Int32) (3 : Int32) h17 X74.size (by decide) (by decide)) (hw _ (List.mem_of_getElem? (i := 2) rfl)) (hw _ (List.mem_of_getElem? (i := 3) rfl)) (hw _ (List.mem_of_getElem? (i := 4) rfl)) (hw _ (List.mem_of_getElem? (i := 5) rfl)) (by decide) (by decide) (by decide) rfl rfl (by decide) (by decide) (lenOf pd_0 rfl) rfl (by first | decide | exact Nat.le_of_eq rfl) rfl at_133 rfl rfl ?_
          intro T79 h79 X79 qq79
          rw [show h79 = h17 from qq79] at X79
          refine own_iload X79 (pc' := 138) at_136 rfl rfl ?_
          refine own_callS X79 (W := 0) (argsL := [(.ref ad7), (.int (3 : Int32)), (.int (3 : Int32))]) (rest := []) (S' := [(.int (3 : Int32))]) (pc' := 141) (rm1_B l Z a0 hw n0 ad7 (3 : Int32) (3 : Int32) h17 X79.size (by decide) (by decide)) (hw _ (List.mem_of_getElem? (i := 2) rfl)) (hw _ (List.mem_of_getElem? (i := 3) rfl)) (hw _ (List.mem_of_getElem? (i := 4) rfl)) (hw _ (List.mem_of_getElem? (i := 5) rfl)) (by decide) (by decide) (by decide) rfl rfl (by decide) (by decide) (lenOf pd_0 rfl) rfl (by first | decide | exact Nat.le_of_eq rfl) rfl at_138 rfl rfl ?_
          intro T80 h80 X80 qq80
          rw [show h80 = h17 from qq80] at X80
          refine own_istore X80 (pc' := 143) (Ls' := #[.val (.int b0), .val (.int b1), .val (.int b2), .val (.int b3), .val (.int b4), .val (.int ctl), .val (.ref ad1), .val (.ref ad7), .val (.int (0 : Int32)), .val (.int (3 : Int32)), .val (.int (3 : Int32)), .val (.int (3 : Int32)), .unset]) at_141 rfl rfl ?_
          refine own_iload X80 (pc' := 145) at_143 rfl rfl ?_
          refine own_iload X80 (pc' := 147) at_145 rfl rfl ?_
          refine own_icmp_ne X80 (pct := 154) (pc' := 150) at_147 rfl (by decide) (by decide) (fun hc => absurd hc (by decide)) (fun _ => ?_)
          refine own_iconst X80 (v := (1 : Int32)) (pc' := 151) at_150 rfl (by decide) ?_
          refine own_goto X80 (pc' := 155) at_151 (by decide) (by decide) ?_
          refine own_istore X80 (pc' := 157) (Ls' := #[.val (.int b0), .val (.int b1), .val (.int b2), .val (.int b3), .val (.int b4), .val (.int ctl), .val (.ref ad1), .val (.ref ad7), .val (.int (0 : Int32)), .val (.int (3 : Int32)), .val (.int (3 : Int32)), .val (.int (3 : Int32)), .val (.int (1 : Int32))]) at_155 rfl rfl ?_
          refine own_aload X80 (pc' := 159) at_157 rfl rfl rfl ?_
          refine own_iload X80 (pc' := 161) at_159 rfl rfl ?_
          refine own_iload X80 (pc' := 163) at_161 rfl rfl ?_
          refine own_callS X80 (W := 0) (argsL := [(.ref ad1), (.int (0 : Int32)), (.int (3 : Int32))]) (rest := []) (S' := [(.int (own_w 4 [((b0.toInt8.toInt32) &&& (255 : Int32)), ((b1.toInt8.toInt32) &&& (255 : Int32)), ((b2.toInt8.toInt32) &&& (255 : Int32))]))]) (pc' := 166) (rm3_3 l Z a0 hw n0 ad1 (0 : Int32) (3 : Int32) h17 X80.size _ A18 (b0.toInt8.toInt32) (b1.toInt8.toInt32) (b2.toInt8.toInt32) (by decide) (fun t i ht hi => own_H03 _ _ _ _ _ t i ht hi) (c_i2b _).2 (c_i2b _).2 (c_i2b _).2) (hw _ (List.mem_of_getElem? (i := 9) rfl)) (hw _ (List.mem_of_getElem? (i := 10) rfl)) (hw _ (List.mem_of_getElem? (i := 11) rfl)) (hw _ (List.mem_of_getElem? (i := 12) rfl)) (by decide) (by decide) (by decide) rfl rfl (by decide) (by decide) (lenOf pd_1 rfl) rfl (by first | decide | exact Nat.le_of_eq rfl) rfl at_163 rfl rfl ?_
          intro T81 h81 X81 qq81
          rw [show h81 = h17 from qq81] at X81
          refine own_iload X81 (pc' := 168) at_166 rfl rfl ?_
          refine own_icmp_ne X81 (pct := 175) (pc' := 171) at_168 rfl (by decide) (by decide) (fun hc => absurd hc (fun q => q (by (try simp only [own_m8]); exact (Eq.trans (own_wc e55 (by decide) rfl) (Eq.trans (own_wc e75 (by decide) rfl) (own_wn _)))))) (fun _ => ?_)
          refine own_iconst X81 (v := (1 : Int32)) (pc' := 172) at_171 rfl (by decide) ?_
          refine own_goto X81 (pc' := 176) at_172 (by decide) (by decide) ?_
          subst hΦ
          exact own_retZ X81 at_176 (by decide) (by decide) (by decide) rfl trivial
      · rw [show own_nv (0 : Int32) [(b0 &&& (255 : Int32)), (b1 &&& (255 : Int32)), (b2 &&& (255 : Int32))] = (3 : Int32) from by rw [own_nv, e55]; decide]
        refine own_iload X54 (pc' := 128) at_126 rfl rfl ?_
        refine own_callS X54 (W := 2) (argsL := [(.ref ad7), (.int (3 : Int32)), (.int (3 : Int32))]) (rest := [(.ref ad7), (.ref ad7)]) (S' := [(.int (3 : Int32)), (.ref ad7), (.ref ad7)]) (pc' := 131) (rm1_B l Z a0 hw n0 ad7 (3 : Int32) (3 : Int32) h17 X54.size (by decide) (by decide)) (hw _ (List.mem_of_getElem? (i := 2) rfl)) (hw _ (List.mem_of_getElem? (i := 3) rfl)) (hw _ (List.mem_of_getElem? (i := 4) rfl)) (hw _ (List.mem_of_getElem? (i := 5) rfl)) (by decide) (by decide) (by decide) rfl rfl (by decide) (by decide) (lenOf pd_0 rfl) rfl (by first | decide | exact Nat.le_of_eq rfl) rfl at_128 rfl rfl ?_
        intro T82 h82 X82 qq82
        rw [show h82 = h17 from qq82] at X82
        refine own_iload X82 (pc' := 133) at_131 rfl rfl ?_
        refine own_callS X82 (W := 1) (argsL := [(.ref ad7), (.int (3 : Int32)), (.int (3 : Int32))]) (rest := [(.ref ad7)]) (S' := [(.int (3 : Int32)), (.ref ad7)]) (pc' := 136) (rm1_B l Z a0 hw n0 ad7 (3 : Int32) (3 : Int32) h17 X82.size (by decide) (by decide)) (hw _ (List.mem_of_getElem? (i := 2) rfl)) (hw _ (List.mem_of_getElem? (i := 3) rfl)) (hw _ (List.mem_of_getElem? (i := 4) rfl)) (hw _ (List.mem_of_getElem? (i := 5) rfl)) (by decide) (by decide) (by decide) rfl rfl (by decide) (by decide) (lenOf pd_0 rfl) rfl (by first | decide | exact Nat.le_of_eq rfl) rfl at_133 rfl rfl ?_
        intro T83 h83 X83 qq83
        rw [show h83 = h17 from qq83] at X83
        refine own_iload X83 (pc' := 138) at_136 rfl rfl ?_
        refine own_callS X83 (W := 0) (argsL := [(.ref ad7), (.int (3 : Int32)), (.int (3 : Int32))]) (rest := []) (S' := [(.int (3 : Int32))]) (pc' := 141) (rm1_B l Z a0 hw n0 ad7 (3 : Int32) (3 : Int32) h17 X83.size (by decide) (by decide)) (hw _ (List.mem_of_getElem? (i := 2) rfl)) (hw _ (List.mem_of_getElem? (i := 3) rfl)) (hw _ (List.mem_of_getElem? (i := 4) rfl)) (hw _ (List.mem_of_getElem? (i := 5) rfl)) (by decide) (by decide) (by decide) rfl rfl (by decide) (by decide) (lenOf pd_0 rfl) rfl (by first | decide | exact Nat.le_of_eq rfl) rfl at_138 rfl rfl ?_
        intro T84 h84 X84 qq84
        rw [show h84 = h17 from qq84] at X84
        refine own_istore X84 (pc' := 143) (Ls' := #[.val (.int b0), .val (.int b1), .val (.int b2), .val (.int b3), .val (.int b4), .val (.int ctl), .val (.ref ad1), .val (.ref ad7), .val (.int (0 : Int32)), .val (.int (3 : Int32)), .val (.int (3 : Int32)), .val (.int (3 : Int32)), .unset]) at_141 rfl rfl ?_
        refine own_iload X84 (pc' := 145) at_143 rfl rfl ?_
        refine own_iload X84 (pc' := 147) at_145 rfl rfl ?_
        refine own_icmp_ne X84 (pct := 154) (pc' := 150) at_147 rfl (by decide) (by decide) (fun hc => absurd hc (by decide)) (fun _ => ?_)
        refine own_iconst X84 (v := (1 : Int32)) (pc' := 151) at_150 rfl (by decide) ?_
        refine own_goto X84 (pc' := 155) at_151 (by decide) (by decide) ?_
        refine own_istore X84 (pc' := 157) (Ls' := #[.val (.int b0), .val (.int b1), .val (.int b2), .val (.int b3), .val (.int b4), .val (.int ctl), .val (.ref ad1), .val (.ref ad7), .val (.int (0 : Int32)), .val (.int (3 : Int32)), .val (.int (3 : Int32)), .val (.int (3 : Int32)), .val (.int (1 : Int32))]) at_155 rfl rfl ?_
        refine own_aload X84 (pc' := 159) at_157 rfl rfl rfl ?_
        refine own_iload X84 (pc' := 161) at_159 rfl rfl ?_
        refine own_iload X84 (pc' := 163) at_161 rfl rfl ?_
        refine own_callS X84 (W := 0) (argsL := [(.ref ad1), (.int (0 : Int32)), (.int (3 : Int32))]) (rest := []) (S' := [(.int (own_w 4 [((b0.toInt8.toInt32) &&& (255 : Int32)), ((b1.toInt8.toInt32) &&& (255 : Int32)), ((b2.toInt8.toInt32) &&& (255 : Int32))]))]) (pc' := 166) (rm3_3 l Z a0 hw n0 ad1 (0 : Int32) (3 : Int32) h17 X84.size _ A18 (b0.toInt8.toInt32) (b1.toInt8.toInt32) (b2.toInt8.toInt32) (by decide) (fun t i ht hi => own_H03 _ _ _ _ _ t i ht hi) (c_i2b _).2 (c_i2b _).2 (c_i2b _).2) (hw _ (List.mem_of_getElem? (i := 9) rfl)) (hw _ (List.mem_of_getElem? (i := 10) rfl)) (hw _ (List.mem_of_getElem? (i := 11) rfl)) (hw _ (List.mem_of_getElem? (i := 12) rfl)) (by decide) (by decide) (by decide) rfl rfl (by decide) (by decide) (lenOf pd_1 rfl) rfl (by first | decide | exact Nat.le_of_eq rfl) rfl at_163 rfl rfl ?_
        intro T85 h85 X85 qq85
        rw [show h85 = h17 from qq85] at X85
        refine own_iload X85 (pc' := 168) at_166 rfl rfl ?_
        refine own_icmp_ne X85 (pct := 175) (pc' := 171) at_168 rfl (by decide) (by decide) (fun hc => absurd hc (fun q => q (by (try simp only [own_m8]); exact (Eq.trans (own_wc e55 (by decide) rfl) (own_wn _))))) (fun _ => ?_)
        refine own_iconst X85 (v := (1 : Int32)) (pc' := 172) at_171 rfl (by decide) ?_
        refine own_goto X85 (pc' := 176) at_172 (by decide) (by decide) ?_
        subst hΦ
        exact own_retZ X85 at_176 (by decide) (by decide) (by decide) rfl trivial
    · refine own_iload X17 (pc' := 106) at_104 rfl rfl ?_
      refine own_iload X17 (pc' := 108) at_106 rfl rfl ?_
      refine own_iadd X17 (r := (4 : Int32)) (pc' := 109) at_108 rfl (by decide) ?_
      refine own_istore X17 (pc' := 111) (Ls' := #[.val (.int b0), .val (.int b1), .val (.int b2), .val (.int b3), .val (.int b4), .val (.int ctl), .val (.ref ad1), .val (.ref ad7), .val (.int (0 : Int32)), .val (.int (4 : Int32)), .val (.int (4 : Int32)), .unset, .unset]) at_109 rfl rfl ?_
      refine own_aload X17 (pc' := 113) at_111 rfl rfl rfl ?_
      refine own_aload X17 (pc' := 115) at_113 rfl rfl rfl ?_
      refine own_aload X17 (pc' := 117) at_115 rfl rfl rfl ?_
      refine own_aload X17 (pc' := 119) at_117 rfl rfl rfl ?_
      refine own_iload X17 (pc' := 121) at_119 rfl rfl ?_
      refine own_iload X17 (pc' := 123) at_121 rfl rfl ?_
      refine own_callS X17 (W := 3) (argsL := [(.ref ad7), (.int (0 : Int32)), (.int (4 : Int32))]) (rest := [(.ref ad7), (.ref ad7), (.ref ad7)]) (S' := [(.int (own_nv (0 : Int32) [(b0 &&& (255 : Int32)), (b1 &&& (255 : Int32)), (b2 &&& (255 : Int32)), (b3 &&& (255 : Int32))])), (.ref ad7), (.ref ad7), (.ref ad7)]) (pc' := 126) (rm1_4 l Z a0 hw n0 ad7 (0 : Int32) (4 : Int32) h17 X17.size _ A17 (b0 &&& (255 : Int32)) (b1 &&& (255 : Int32)) (b2 &&& (255 : Int32)) (b3 &&& (255 : Int32)) (by decide) (by decide) (by decide) rfl rfl rfl rfl rfl rfl rfl rfl (own_mr _) (own_mr _) (own_mr _) (own_mr _)) (hw _ (List.mem_of_getElem? (i := 2) rfl)) (hw _ (List.mem_of_getElem? (i := 3) rfl)) (hw _ (List.mem_of_getElem? (i := 4) rfl)) (hw _ (List.mem_of_getElem? (i := 5) rfl)) (by decide) (by decide) (by decide) rfl rfl (by decide) (by decide) (lenOf pd_0 rfl) rfl (by first | decide | exact Nat.le_of_eq rfl) rfl at_123 rfl rfl ?_
      intro T86 h86 X86 qq86
      rw [show h86 = h17 from qq86] at X86
      rcases own_s4 (b0 &&& (255 : Int32)) (b1 &&& (255 : Int32)) (b2 &&& (255 : Int32)) (b3 &&& (255 : Int32)) with e87 | e87 | e87 | e87 | e87
      · rw [show own_nv (0 : Int32) [(b0 &&& (255 : Int32)), (b1 &&& (255 : Int32)), (b2 &&& (255 : Int32)), (b3 &&& (255 : Int32))] = (-1 : Int32) from by rw [own_nv, e87]; decide]
        refine own_iload X86 (pc' := 128) at_126 rfl rfl ?_
        refine own_callS X86 (W := 2) (argsL := [(.ref ad7), (.int (-1 : Int32)), (.int (4 : Int32))]) (rest := [(.ref ad7), (.ref ad7)]) (S' := [(.int (-1 : Int32)), (.ref ad7), (.ref ad7)]) (pc' := 131) (rm1_A l Z a0 hw n0 ad7 (-1 : Int32) (4 : Int32) h17 X86.size (by decide)) (hw _ (List.mem_of_getElem? (i := 2) rfl)) (hw _ (List.mem_of_getElem? (i := 3) rfl)) (hw _ (List.mem_of_getElem? (i := 4) rfl)) (hw _ (List.mem_of_getElem? (i := 5) rfl)) (by decide) (by decide) (by decide) rfl rfl (by decide) (by decide) (lenOf pd_0 rfl) rfl (by first | decide | exact Nat.le_of_eq rfl) rfl at_128 rfl rfl ?_
        intro T88 h88 X88 qq88
        rw [show h88 = h17 from qq88] at X88
        refine own_iload X88 (pc' := 133) at_131 rfl rfl ?_
        refine own_callS X88 (W := 1) (argsL := [(.ref ad7), (.int (-1 : Int32)), (.int (4 : Int32))]) (rest := [(.ref ad7)]) (S' := [(.int (-1 : Int32)), (.ref ad7)]) (pc' := 136) (rm1_A l Z a0 hw n0 ad7 (-1 : Int32) (4 : Int32) h17 X88.size (by decide)) (hw _ (List.mem_of_getElem? (i := 2) rfl)) (hw _ (List.mem_of_getElem? (i := 3) rfl)) (hw _ (List.mem_of_getElem? (i := 4) rfl)) (hw _ (List.mem_of_getElem? (i := 5) rfl)) (by decide) (by decide) (by decide) rfl rfl (by decide) (by decide) (lenOf pd_0 rfl) rfl (by first | decide | exact Nat.le_of_eq rfl) rfl at_133 rfl rfl ?_
        intro T89 h89 X89 qq89
        rw [show h89 = h17 from qq89] at X89
        refine own_iload X89 (pc' := 138) at_136 rfl rfl ?_
        refine own_callS X89 (W := 0) (argsL := [(.ref ad7), (.int (-1 : Int32)), (.int (4 : Int32))]) (rest := []) (S' := [(.int (-1 : Int32))]) (pc' := 141) (rm1_A l Z a0 hw n0 ad7 (-1 : Int32) (4 : Int32) h17 X89.size (by decide)) (hw _ (List.mem_of_getElem? (i := 2) rfl)) (hw _ (List.mem_of_getElem? (i := 3) rfl)) (hw _ (List.mem_of_getElem? (i := 4) rfl)) (hw _ (List.mem_of_getElem? (i := 5) rfl)) (by decide) (by decide) (by decide) rfl rfl (by decide) (by decide) (lenOf pd_0 rfl) rfl (by first | decide | exact Nat.le_of_eq rfl) rfl at_138 rfl rfl ?_
        intro T90 h90 X90 qq90
        rw [show h90 = h17 from qq90] at X90
        refine own_istore X90 (pc' := 143) (Ls' := #[.val (.int b0), .val (.int b1), .val (.int b2), .val (.int b3), .val (.int b4), .val (.int ctl), .val (.ref ad1), .val (.ref ad7), .val (.int (0 : Int32)), .val (.int (4 : Int32)), .val (.int (4 : Int32)), .val (.int (-1 : Int32)), .unset]) at_141 rfl rfl ?_
        refine own_iload X90 (pc' := 145) at_143 rfl rfl ?_
        refine own_iload X90 (pc' := 147) at_145 rfl rfl ?_
        refine own_icmp_ne X90 (pct := 154) (pc' := 150) at_147 rfl (by decide) (by decide) (fun _ => ?_) (fun hc => absurd hc (by decide))
        refine own_iconst X90 (v := (0 : Int32)) (pc' := 155) at_154 rfl (by decide) ?_
        refine own_istore X90 (pc' := 157) (Ls' := #[.val (.int b0), .val (.int b1), .val (.int b2), .val (.int b3), .val (.int b4), .val (.int ctl), .val (.ref ad1), .val (.ref ad7), .val (.int (0 : Int32)), .val (.int (4 : Int32)), .val (.int (4 : Int32)), .val (.int (-1 : Int32)), .val (.int (0 : Int32))]) at_155 rfl rfl ?_
        refine own_aload X90 (pc' := 159) at_157 rfl rfl rfl ?_
        refine own_iload X90 (pc' := 161) at_159 rfl rfl ?_
        refine own_iload X90 (pc' := 163) at_161 rfl rfl ?_
        refine own_callS X90 (W := 0) (argsL := [(.ref ad1), (.int (0 : Int32)), (.int (4 : Int32))]) (rest := []) (S' := [(.int (own_w 4 [((b0.toInt8.toInt32) &&& (255 : Int32)), ((b1.toInt8.toInt32) &&& (255 : Int32)), ((b2.toInt8.toInt32) &&& (255 : Int32)), ((b3.toInt8.toInt32) &&& (255 : Int32))]))]) (pc' := 166) (rm3_4 l Z a0 hw n0 ad1 (0 : Int32) (4 : Int32) h17 X90.size _ A18 (b0.toInt8.toInt32) (b1.toInt8.toInt32) (b2.toInt8.toInt32) (b3.toInt8.toInt32) (by decide) (fun t i ht hi => own_H04 _ _ _ _ _ t i ht hi) (c_i2b _).2 (c_i2b _).2 (c_i2b _).2 (c_i2b _).2) (hw _ (List.mem_of_getElem? (i := 9) rfl)) (hw _ (List.mem_of_getElem? (i := 10) rfl)) (hw _ (List.mem_of_getElem? (i := 11) rfl)) (hw _ (List.mem_of_getElem? (i := 12) rfl)) (by decide) (by decide) (by decide) rfl rfl (by decide) (by decide) (lenOf pd_1 rfl) rfl (by first | decide | exact Nat.le_of_eq rfl) rfl at_163 rfl rfl ?_
        intro T91 h91 X91 qq91
        rw [show h91 = h17 from qq91] at X91
        refine own_iload X91 (pc' := 168) at_166 rfl rfl ?_
        refine own_icmp_ne X91 (pct := 175) (pc' := 171) at_168 rfl (by decide) (by decide) (fun hc => absurd hc (fun q => q (by (try simp only [own_m8]); exact (own_w0 e87)))) (fun _ => ?_)
        refine own_iconst X91 (v := (1 : Int32)) (pc' := 172) at_171 rfl (by decide) ?_
        refine own_goto X91 (pc' := 176) at_172 (by decide) (by decide) ?_
        subst hΦ
        exact own_retZ X91 at_176 (by decide) (by decide) (by decide) rfl trivial
      · rw [show own_nv (0 : Int32) [(b0 &&& (255 : Int32)), (b1 &&& (255 : Int32)), (b2 &&& (255 : Int32)), (b3 &&& (255 : Int32))] = (1 : Int32) from by rw [own_nv, e87]; decide]
        refine own_iload X86 (pc' := 128) at_126 rfl rfl ?_
        refine own_callS X86 (W := 2) (argsL := [(.ref ad7), (.int (1 : Int32)), (.int (4 : Int32))]) (rest := [(.ref ad7), (.ref ad7)]) (S' := [(.int (own_nv (1 : Int32) [(b1 &&& (255 : Int32)), (b2 &&& (255 : Int32)), (b3 &&& (255 : Int32))])), (.ref ad7), (.ref ad7)]) (pc' := 131) (rm1_3 l Z a0 hw n0 ad7 (1 : Int32) (4 : Int32) h17 X86.size _ A17 (b1 &&& (255 : Int32)) (b2 &&& (255 : Int32)) (b3 &&& (255 : Int32)) (by decide) (by decide) (by decide) rfl rfl rfl rfl rfl rfl (own_mr _) (own_mr _) (own_mr _)) (hw _ (List.mem_of_getElem? (i := 2) rfl)) (hw _ (List.mem_of_getElem? (i := 3) rfl)) (hw _ (List.mem_of_getElem? (i := 4) rfl)) (hw _ (List.mem_of_getElem? (i := 5) rfl)) (by decide) (by decide) (by decide) rfl rfl (by decide) (by decide) (lenOf pd_0 rfl) rfl (by first | decide | exact Nat.le_of_eq rfl) rfl at_128 rfl rfl ?_
        intro T92 h92 X92 qq92
        rw [show h92 = h17 from qq92] at X92
        rcases own_s3 (b1 &&& (255 : Int32)) (b2 &&& (255 : Int32)) (b3 &&& (255 : Int32)) with e93 | e93 | e93 | e93
        · rw [show own_nv (1 : Int32) [(b1 &&& (255 : Int32)), (b2 &&& (255 : Int32)), (b3 &&& (255 : Int32))] = (-1 : Int32) from by rw [own_nv, e93]; decide]
          refine own_iload X92 (pc' := 133) at_131 rfl rfl ?_
          refine own_callS X92 (W := 1) (argsL := [(.ref ad7), (.int (-1 : Int32)), (.int (4 : Int32))]) (rest := [(.ref ad7)]) (S' := [(.int (-1 : Int32)), (.ref ad7)]) (pc' := 136) (rm1_A l Z a0 hw n0 ad7 (-1 : Int32) (4 : Int32) h17 X92.size (by decide)) (hw _ (List.mem_of_getElem? (i := 2) rfl)) (hw _ (List.mem_of_getElem? (i := 3) rfl)) (hw _ (List.mem_of_getElem? (i := 4) rfl)) (hw _ (List.mem_of_getElem? (i := 5) rfl)) (by decide) (by decide) (by decide) rfl rfl (by decide) (by decide) (lenOf pd_0 rfl) rfl (by first | decide | exact Nat.le_of_eq rfl) rfl at_133 rfl rfl ?_
          intro T94 h94 X94 qq94
          rw [show h94 = h17 from qq94] at X94
          refine own_iload X94 (pc' := 138) at_136 rfl rfl ?_
          refine own_callS X94 (W := 0) (argsL := [(.ref ad7), (.int (-1 : Int32)), (.int (4 : Int32))]) (rest := []) (S' := [(.int (-1 : Int32))]) (pc' := 141) (rm1_A l Z a0 hw n0 ad7 (-1 : Int32) (4 : Int32) h17 X94.size (by decide)) (hw _ (List.mem_of_getElem? (i := 2) rfl)) (hw _ (List.mem_of_getElem? (i := 3) rfl)) (hw _ (List.mem_of_getElem? (i := 4) rfl)) (hw _ (List.mem_of_getElem? (i := 5) rfl)) (by decide) (by decide) (by decide) rfl rfl (by decide) (by decide) (lenOf pd_0 rfl) rfl (by first | decide | exact Nat.le_of_eq rfl) rfl at_138 rfl rfl ?_
          intro T95 h95 X95 qq95
          rw [show h95 = h17 from qq95] at X95
          refine own_istore X95 (pc' := 143) (Ls' := #[.val (.int b0), .val (.int b1), .val (.int b2), .val (.int b3), .val (.int b4), .val (.int ctl), .val (.ref ad1), .val (.ref ad7), .val (.int (0 : Int32)), .val (.int (4 : Int32)), .val (.int (4 : Int32)), .val (.int (-1 : Int32)), .unset]) at_141 rfl rfl ?_
          refine own_iload X95 (pc' := 145) at_143 rfl rfl ?_
          refine own_iload X95 (pc' := 147) at_145 rfl rfl ?_
          refine own_icmp_ne X95 (pct := 154) (pc' := 150) at_147 rfl (by decide) (by decide) (fun _ => ?_) (fun hc => absurd hc (by decide))
          refine own_iconst X95 (v := (0 : Int32)) (pc' := 155) at_154 rfl (by decide) ?_
          refine own_istore X95 (pc' := 157) (Ls' := #[.val (.int b0), .val (.int b1), .val (.int b2), .val (.int b3), .val (.int b4), .val (.int ctl), .val (.ref ad1), .val (.ref ad7), .val (.int (0 : Int32)), .val (.int (4 : Int32)), .val (.int (4 : Int32)), .val (.int (-1 : Int32)), .val (.int (0 : Int32))]) at_155 rfl rfl ?_
          refine own_aload X95 (pc' := 159) at_157 rfl rfl rfl ?_
          refine own_iload X95 (pc' := 161) at_159 rfl rfl ?_
          refine own_iload X95 (pc' := 163) at_161 rfl rfl ?_
          refine own_callS X95 (W := 0) (argsL := [(.ref ad1), (.int (0 : Int32)), (.int (4 : Int32))]) (rest := []) (S' := [(.int (own_w 4 [((b0.toInt8.toInt32) &&& (255 : Int32)), ((b1.toInt8.toInt32) &&& (255 : Int32)), ((b2.toInt8.toInt32) &&& (255 : Int32)), ((b3.toInt8.toInt32) &&& (255 : Int32))]))]) (pc' := 166) (rm3_4 l Z a0 hw n0 ad1 (0 : Int32) (4 : Int32) h17 X95.size _ A18 (b0.toInt8.toInt32) (b1.toInt8.toInt32) (b2.toInt8.toInt32) (b3.toInt8.toInt32) (by decide) (fun t i ht hi => own_H04 _ _ _ _ _ t i ht hi) (c_i2b _).2 (c_i2b _).2 (c_i2b _).2 (c_i2b _).2) (hw _ (List.mem_of_getElem? (i := 9) rfl)) (hw _ (List.mem_of_getElem? (i := 10) rfl)) (hw _ (List.mem_of_getElem? (i := 11) rfl)) (hw _ (List.mem_of_getElem? (i := 12) rfl)) (by decide) (by decide) (by decide) rfl rfl (by decide) (by decide) (lenOf pd_1 rfl) rfl (by first | decide | exact Nat.le_of_eq rfl) rfl at_163 rfl rfl ?_
          intro T96 h96 X96 qq96
          rw [show h96 = h17 from qq96] at X96
          refine own_iload X96 (pc' := 168) at_166 rfl rfl ?_
          refine own_icmp_ne X96 (pct := 175) (pc' := 171) at_168 rfl (by decide) (by decide) (fun hc => absurd hc (fun q => q (by (try simp only [own_m8]); exact (Eq.trans (own_wc e87 (by decide) rfl) (own_w0 e93))))) (fun _ => ?_)
          refine own_iconst X96 (v := (1 : Int32)) (pc' := 172) at_171 rfl (by decide) ?_
          refine own_goto X96 (pc' := 176) at_172 (by decide) (by decide) ?_
          subst hΦ
          exact own_retZ X96 at_176 (by decide) (by decide) (by decide) rfl trivial
        · rw [show own_nv (1 : Int32) [(b1 &&& (255 : Int32)), (b2 &&& (255 : Int32)), (b3 &&& (255 : Int32))] = (2 : Int32) from by rw [own_nv, e93]; decide]
          refine own_iload X92 (pc' := 133) at_131 rfl rfl ?_
          refine own_callS X92 (W := 1) (argsL := [(.ref ad7), (.int (2 : Int32)), (.int (4 : Int32))]) (rest := [(.ref ad7)]) (S' := [(.int (own_nv (2 : Int32) [(b2 &&& (255 : Int32)), (b3 &&& (255 : Int32))])), (.ref ad7)]) (pc' := 136) (rm1_2 l Z a0 hw n0 ad7 (2 : Int32) (4 : Int32) h17 X92.size _ A17 (b2 &&& (255 : Int32)) (b3 &&& (255 : Int32)) (by decide) (by decide) (by decide) rfl rfl rfl rfl (own_mr _) (own_mr _)) (hw _ (List.mem_of_getElem? (i := 2) rfl)) (hw _ (List.mem_of_getElem? (i := 3) rfl)) (hw _ (List.mem_of_getElem? (i := 4) rfl)) (hw _ (List.mem_of_getElem? (i := 5) rfl)) (by decide) (by decide) (by decide) rfl rfl (by decide) (by decide) (lenOf pd_0 rfl) rfl (by first | decide | exact Nat.le_of_eq rfl) rfl at_133 rfl rfl ?_
          intro T97 h97 X97 qq97
          rw [show h97 = h17 from qq97] at X97
          rcases own_s2 (b2 &&& (255 : Int32)) (b3 &&& (255 : Int32)) with e98 | e98 | e98
          · rw [show own_nv (2 : Int32) [(b2 &&& (255 : Int32)), (b3 &&& (255 : Int32))] = (-1 : Int32) from by rw [own_nv, e98]; decide]
            refine own_iload X97 (pc' := 138) at_136 rfl rfl ?_
            refine own_callS X97 (W := 0) (argsL := [(.ref ad7), (.int (-1 : Int32)), (.int (4 : Int32))]) (rest := []) (S' := [(.int (-1 : Int32))]) (pc' := 141) (rm1_A l Z a0 hw n0 ad7 (-1 : Int32) (4 : Int32) h17 X97.size (by decide)) (hw _ (List.mem_of_getElem? (i := 2) rfl)) (hw _ (List.mem_of_getElem? (i := 3) rfl)) (hw _ (List.mem_of_getElem? (i := 4) rfl)) (hw _ (List.mem_of_getElem? (i := 5) rfl)) (by decide) (by decide) (by decide) rfl rfl (by decide) (by decide) (lenOf pd_0 rfl) rfl (by first | decide | exact Nat.le_of_eq rfl) rfl at_138 rfl rfl ?_
            intro T99 h99 X99 qq99
            rw [show h99 = h17 from qq99] at X99
            refine own_istore X99 (pc' := 143) (Ls' := #[.val (.int b0), .val (.int b1), .val (.int b2), .val (.int b3), .val (.int b4), .val (.int ctl), .val (.ref ad1), .val (.ref ad7), .val (.int (0 : Int32)), .val (.int (4 : Int32)), .val (.int (4 : Int32)), .val (.int (-1 : Int32)), .unset]) at_141 rfl rfl ?_
            refine own_iload X99 (pc' := 145) at_143 rfl rfl ?_
            refine own_iload X99 (pc' := 147) at_145 rfl rfl ?_
            refine own_icmp_ne X99 (pct := 154) (pc' := 150) at_147 rfl (by decide) (by decide) (fun _ => ?_) (fun hc => absurd hc (by decide))
            refine own_iconst X99 (v := (0 : Int32)) (pc' := 155) at_154 rfl (by decide) ?_
            refine own_istore X99 (pc' := 157) (Ls' := #[.val (.int b0), .val (.int b1), .val (.int b2), .val (.int b3), .val (.int b4), .val (.int ctl), .val (.ref ad1), .val (.ref ad7), .val (.int (0 : Int32)), .val (.int (4 : Int32)), .val (.int (4 : Int32)), .val (.int (-1 : Int32)), .val (.int (0 : Int32))]) at_155 rfl rfl ?_
            refine own_aload X99 (pc' := 159) at_157 rfl rfl rfl ?_
            refine own_iload X99 (pc' := 161) at_159 rfl rfl ?_
            refine own_iload X99 (pc' := 163) at_161 rfl rfl ?_
            refine own_callS X99 (W := 0) (argsL := [(.ref ad1), (.int (0 : Int32)), (.int (4 : Int32))]) (rest := []) (S' := [(.int (own_w 4 [((b0.toInt8.toInt32) &&& (255 : Int32)), ((b1.toInt8.toInt32) &&& (255 : Int32)), ((b2.toInt8.toInt32) &&& (255 : Int32)), ((b3.toInt8.toInt32) &&& (255 : Int32))]))]) (pc' := 166) (rm3_4 l Z a0 hw n0 ad1 (0 : Int32) (4 : Int32) h17 X99.size _ A18 (b0.toInt8.toInt32) (b1.toInt8.toInt32) (b2.toInt8.toInt32) (b3.toInt8.toInt32) (by decide) (fun t i ht hi => own_H04 _ _ _ _ _ t i ht hi) (c_i2b _).2 (c_i2b _).2 (c_i2b _).2 (c_i2b _).2) (hw _ (List.mem_of_getElem? (i := 9) rfl)) (hw _ (List.mem_of_getElem? (i := 10) rfl)) (hw _ (List.mem_of_getElem? (i := 11) rfl)) (hw _ (List.mem_of_getElem? (i := 12) rfl)) (by decide) (by decide) (by decide) rfl rfl (by decide) (by decide) (lenOf pd_1 rfl) rfl (by first | decide | exact Nat.le_of_eq rfl) rfl at_163 rfl rfl ?_
            intro T100 h100 X100 qq100
            rw [show h100 = h17 from qq100] at X100
            refine own_iload X100 (pc' := 168) at_166 rfl rfl ?_
            refine own_icmp_ne X100 (pct := 175) (pc' := 171) at_168 rfl (by decide) (by decide) (fun hc => absurd hc (fun q => q (by (try simp only [own_m8]); exact (Eq.trans (own_wc e87 (by decide) rfl) (Eq.trans (own_wc e93 (by decide) rfl) (own_w0 e98)))))) (fun _ => ?_)
            refine own_iconst X100 (v := (1 : Int32)) (pc' := 172) at_171 rfl (by decide) ?_
            refine own_goto X100 (pc' := 176) at_172 (by decide) (by decide) ?_
            subst hΦ
            exact own_retZ X100 at_176 (by decide) (by decide) (by decide) rfl trivial
          · rw [show own_nv (2 : Int32) [(b2 &&& (255 : Int32)), (b3 &&& (255 : Int32))] = (3 : Int32) from by rw [own_nv, e98]; decide]
            refine own_iload X97 (pc' := 138) at_136 rfl rfl ?_
            refine own_callS X97 (W := 0) (argsL := [(.ref ad7), (.int (3 : Int32)), (.int (4 : Int32))]) (rest := []) (S' := [(.int (own_nv (3 : Int32) [(b3 &&& (255 : Int32))]))]) (pc' := 141) (rm1_1 l Z a0 hw n0 ad7 (3 : Int32) (4 : Int32) h17 X97.size _ A17 (b3 &&& (255 : Int32)) (by decide) (by decide) (by decide) rfl rfl (own_mr _)) (hw _ (List.mem_of_getElem? (i := 2) rfl)) (hw _ (List.mem_of_getElem? (i := 3) rfl)) (hw _ (List.mem_of_getElem? (i := 4) rfl)) (hw _ (List.mem_of_getElem? (i := 5) rfl)) (by decide) (by decide) (by decide) rfl rfl (by decide) (by decide) (lenOf pd_0 rfl) rfl (by first | decide | exact Nat.le_of_eq rfl) rfl at_138 rfl rfl ?_
            intro T101 h101 X101 qq101
            rw [show h101 = h17 from qq101] at X101
            rcases own_s1 (b3 &&& (255 : Int32)) with e102 | e102
            · rw [show own_nv (3 : Int32) [(b3 &&& (255 : Int32))] = (-1 : Int32) from by rw [own_nv, e102]; decide]
              refine own_istore X101 (pc' := 143) (Ls' := #[.val (.int b0), .val (.int b1), .val (.int b2), .val (.int b3), .val (.int b4), .val (.int ctl), .val (.ref ad1), .val (.ref ad7), .val (.int (0 : Int32)), .val (.int (4 : Int32)), .val (.int (4 : Int32)), .val (.int (-1 : Int32)), .unset]) at_141 rfl rfl ?_
              refine own_iload X101 (pc' := 145) at_143 rfl rfl ?_
              refine own_iload X101 (pc' := 147) at_145 rfl rfl ?_
              refine own_icmp_ne X101 (pct := 154) (pc' := 150) at_147 rfl (by decide) (by decide) (fun _ => ?_) (fun hc => absurd hc (by decide))
              refine own_iconst X101 (v := (0 : Int32)) (pc' := 155) at_154 rfl (by decide) ?_
              refine own_istore X101 (pc' := 157) (Ls' := #[.val (.int b0), .val (.int b1), .val (.int b2), .val (.int b3), .val (.int b4), .val (.int ctl), .val (.ref ad1), .val (.ref ad7), .val (.int (0 : Int32)), .val (.int (4 : Int32)), .val (.int (4 : Int32)), .val (.int (-1 : Int32)), .val (.int (0 : Int32))]) at_155 rfl rfl ?_
              refine own_aload X101 (pc' := 159) at_157 rfl rfl rfl ?_
              refine own_iload X101 (pc' := 161) at_159 rfl rfl ?_
              refine own_iload X101 (pc' := 163) at_161 rfl rfl ?_
              refine own_callS X101 (W := 0) (argsL := [(.ref ad1), (.int (0 : Int32)), (.int (4 : Int32))]) (rest := []) (S' := [(.int (own_w 4 [((b0.toInt8.toInt32) &&& (255 : Int32)), ((b1.toInt8.toInt32) &&& (255 : Int32)), ((b2.toInt8.toInt32) &&& (255 : Int32)), ((b3.toInt8.toInt32) &&& (255 : Int32))]))]) (pc' := 166) (rm3_4 l Z a0 hw n0 ad1 (0 : Int32) (4 : Int32) h17 X101.size _ A18 (b0.toInt8.toInt32) (b1.toInt8.toInt32) (b2.toInt8.toInt32) (b3.toInt8.toInt32) (by decide) (fun t i ht hi => own_H04 _ _ _ _ _ t i ht hi) (c_i2b _).2 (c_i2b _).2 (c_i2b _).2 (c_i2b _).2) (hw _ (List.mem_of_getElem? (i := 9) rfl)) (hw _ (List.mem_of_getElem? (i := 10) rfl)) (hw _ (List.mem_of_getElem? (i := 11) rfl)) (hw _ (List.mem_of_getElem? (i := 12) rfl)) (by decide) (by decide) (by decide) rfl rfl (by decide) (by decide) (lenOf pd_1 rfl) rfl (by first | decide | exact Nat.le_of_eq rfl) rfl at_163 rfl rfl ?_
              intro T103 h103 X103 qq103
              rw [show h103 = h17 from qq103] at X103
              refine own_iload X103 (pc' := 168) at_166 rfl rfl ?_
              refine own_icmp_ne X103 (pct := 175) (pc' := 171) at_168 rfl (by decide) (by decide) (fun hc => absurd hc (fun q => q (by (try simp only [own_m8]); exact (Eq.trans (own_wc e87 (by decide) rfl) (Eq.trans (own_wc e93 (by decide) rfl) (Eq.trans (own_wc e98 (by decide) rfl) (own_w0 e102))))))) (fun _ => ?_)
              refine own_iconst X103 (v := (1 : Int32)) (pc' := 172) at_171 rfl (by decide) ?_
              refine own_goto X103 (pc' := 176) at_172 (by decide) (by decide) ?_
              subst hΦ
              exact own_retZ X103 at_176 (by decide) (by decide) (by decide) rfl trivial
            · rw [show own_nv (3 : Int32) [(b3 &&& (255 : Int32))] = (4 : Int32) from by rw [own_nv, e102]; decide]
              refine own_istore X101 (pc' := 143) (Ls' := #[.val (.int b0), .val (.int b1), .val (.int b2), .val (.int b3), .val (.int b4), .val (.int ctl), .val (.ref ad1), .val (.ref ad7), .val (.int (0 : Int32)), .val (.int (4 : Int32)), .val (.int (4 : Int32)), .val (.int (4 : Int32)), .unset]) at_141 rfl rfl ?_
              refine own_iload X101 (pc' := 145) at_143 rfl rfl ?_
              refine own_iload X101 (pc' := 147) at_145 rfl rfl ?_
              refine own_icmp_ne X101 (pct := 154) (pc' := 150) at_147 rfl (by decide) (by decide) (fun hc => absurd hc (by decide)) (fun _ => ?_)
              refine own_iconst X101 (v := (1 : Int32)) (pc' := 151) at_150 rfl (by decide) ?_
              refine own_goto X101 (pc' := 155) at_151 (by decide) (by decide) ?_
              refine own_istore X101 (pc' := 157) (Ls' := #[.val (.int b0), .val (.int b1), .val (.int b2), .val (.int b3), .val (.int b4), .val (.int ctl), .val (.ref ad1), .val (.ref ad7), .val (.int (0 : Int32)), .val (.int (4 : Int32)), .val (.int (4 : Int32)), .val (.int (4 : Int32)), .val (.int (1 : Int32))]) at_155 rfl rfl ?_
              refine own_aload X101 (pc' := 159) at_157 rfl rfl rfl ?_
              refine own_iload X101 (pc' := 161) at_159 rfl rfl ?_
              refine own_iload X101 (pc' := 163) at_161 rfl rfl ?_
              refine own_callS X101 (W := 0) (argsL := [(.ref ad1), (.int (0 : Int32)), (.int (4 : Int32))]) (rest := []) (S' := [(.int (own_w 4 [((b0.toInt8.toInt32) &&& (255 : Int32)), ((b1.toInt8.toInt32) &&& (255 : Int32)), ((b2.toInt8.toInt32) &&& (255 : Int32)), ((b3.toInt8.toInt32) &&& (255 : Int32))]))]) (pc' := 166) (rm3_4 l Z a0 hw n0 ad1 (0 : Int32) (4 : Int32) h17 X101.size _ A18 (b0.toInt8.toInt32) (b1.toInt8.toInt32) (b2.toInt8.toInt32) (b3.toInt8.toInt32) (by decide) (fun t i ht hi => own_H04 _ _ _ _ _ t i ht hi) (c_i2b _).2 (c_i2b _).2 (c_i2b _).2 (c_i2b _).2) (hw _ (List.mem_of_getElem? (i := 9) rfl)) (hw _ (List.mem_of_getElem? (i := 10) rfl)) (hw _ (List.mem_of_getElem? (i := 11) rfl)) (hw _ (List.mem_of_getElem? (i := 12) rfl)) (by decide) (by decide) (by decide) rfl rfl (by decide) (by decide) (lenOf pd_1 rfl) rfl (by first | decide | exact Nat.le_of_eq rfl) rfl at_163 rfl rfl ?_
              intro T104 h104 X104 qq104
              rw [show h104 = h17 from qq104] at X104
              refine own_iload X104 (pc' := 168) at_166 rfl rfl ?_
              refine own_icmp_ne X104 (pct := 175) (pc' := 171) at_168 rfl (by decide) (by decide) (fun hc => absurd hc (fun q => q (by (try simp only [own_m8]); exact (Eq.trans (own_wc e87 (by decide) rfl) (Eq.trans (own_wc e93 (by decide) rfl) (Eq.trans (own_wc e98 (by decide) rfl) (Eq.trans (own_wc e102 (by decide) rfl) (own_wn _)))))))) (fun _ => ?_)
              refine own_iconst X104 (v := (1 : Int32)) (pc' := 172) at_171 rfl (by decide) ?_
              refine own_goto X104 (pc' := 176) at_172 (by decide) (by decide) ?_
              subst hΦ
              exact own_retZ X104 at_176 (by decide) (by decide) (by decide) rfl trivial
          · rw [show own_nv (2 : Int32) [(b2 &&& (255 : Int32)), (b3 &&& (255 : Int32))] = (4 : Int32) from by rw [own_nv, e98]; decide]
            refine own_iload X97 (pc' := 138) at_136 rfl rfl ?_
            refine own_callS X97 (W := 0) (argsL := [(.ref ad7), (.int (4 : Int32)), (.int (4 : Int32))]) (rest := []) (S' := [(.int (4 : Int32))]) (pc' := 141) (rm1_B l Z a0 hw n0 ad7 (4 : Int32) (4 : Int32) h17 X97.size (by decide) (by decide)) (hw _ (List.mem_of_getElem? (i := 2) rfl)) (hw _ (List.mem_of_getElem? (i := 3) rfl)) (hw _ (List.mem_of_getElem? (i := 4) rfl)) (hw _ (List.mem_of_getElem? (i := 5) rfl)) (by decide) (by decide) (by decide) rfl rfl (by decide) (by decide) (lenOf pd_0 rfl) rfl (by first | decide | exact Nat.le_of_eq rfl) rfl at_138 rfl rfl ?_
            intro T105 h105 X105 qq105
            rw [show h105 = h17 from qq105] at X105
            refine own_istore X105 (pc' := 143) (Ls' := #[.val (.int b0), .val (.int b1), .val (.int b2), .val (.int b3), .val (.int b4), .val (.int ctl), .val (.ref ad1), .val (.ref ad7), .val (.int (0 : Int32)), .val (.int (4 : Int32)), .val (.int (4 : Int32)), .val (.int (4 : Int32)), .unset]) at_141 rfl rfl ?_
            refine own_iload X105 (pc' := 145) at_143 rfl rfl ?_
            refine own_iload X105 (pc' := 147) at_145 rfl rfl ?_
            refine own_icmp_ne X105 (pct := 154) (pc' := 150) at_147 rfl (by decide) (by decide) (fun hc => absurd hc (by decide)) (fun _ => ?_)
            refine own_iconst X105 (v := (1 : Int32)) (pc' := 151) at_150 rfl (by decide) ?_
            refine own_goto X105 (pc' := 155) at_151 (by decide) (by decide) ?_
            refine own_istore X105 (pc' := 157) (Ls' := #[.val (.int b0), .val (.int b1), .val (.int b2), .val (.int b3), .val (.int b4), .val (.int ctl), .val (.ref ad1), .val (.ref ad7), .val (.int (0 : Int32)), .val (.int (4 : Int32)), .val (.int (4 : Int32)), .val (.int (4 : Int32)), .val (.int (1 : Int32))]) at_155 rfl rfl ?_
            refine own_aload X105 (pc' := 159) at_157 rfl rfl rfl ?_
            refine own_iload X105 (pc' := 161) at_159 rfl rfl ?_
            refine own_iload X105 (pc' := 163) at_161 rfl rfl ?_
            refine own_callS X105 (W := 0) (argsL := [(.ref ad1), (.int (0 : Int32)), (.int (4 : Int32))]) (rest := []) (S' := [(.int (own_w 4 [((b0.toInt8.toInt32) &&& (255 : Int32)), ((b1.toInt8.toInt32) &&& (255 : Int32)), ((b2.toInt8.toInt32) &&& (255 : Int32)), ((b3.toInt8.toInt32) &&& (255 : Int32))]))]) (pc' := 166) (rm3_4 l Z a0 hw n0 ad1 (0 : Int32) (4 : Int32) h17 X105.size _ A18 (b0.toInt8.toInt32) (b1.toInt8.toInt32) (b2.toInt8.toInt32) (b3.toInt8.toInt32) (by decide) (fun t i ht hi => own_H04 _ _ _ _ _ t i ht hi) (c_i2b _).2 (c_i2b _).2 (c_i2b _).2 (c_i2b _).2) (hw _ (List.mem_of_getElem? (i := 9) rfl)) (hw _ (List.mem_of_getElem? (i := 10) rfl)) (hw _ (List.mem_of_getElem? (i := 11) rfl)) (hw _ (List.mem_of_getElem? (i := 12) rfl)) (by decide) (by decide) (by decide) rfl rfl (by decide) (by decide) (lenOf pd_1 rfl) rfl (by first | decide | exact Nat.le_of_eq rfl) rfl at_163 rfl rfl ?_
            intro T106 h106 X106 qq106
            rw [show h106 = h17 from qq106] at X106
            refine own_iload X106 (pc' := 168) at_166 rfl rfl ?_
            refine own_icmp_ne X106 (pct := 175) (pc' := 171) at_168 rfl (by decide) (by decide) (fun hc => absurd hc (fun q => q (by (try simp only [own_m8]); exact (Eq.trans (own_wc e87 (by decide) rfl) (Eq.trans (own_wc e93 (by decide) rfl) (Eq.trans (own_wc e98 (by decide) rfl) (own_wn _))))))) (fun _ => ?_)
            refine own_iconst X106 (v := (1 : Int32)) (pc' := 172) at_171 rfl (by decide) ?_
            refine own_goto X106 (pc' := 176) at_172 (by decide) (by decide) ?_
            subst hΦ
            exact own_retZ X106 at_176 (by decide) (by decide) (by decide) rfl trivial
        · rw [show own_nv (1 : Int32) [(b1 &&& (255 : Int32)), (b2 &&& (255 : Int32)), (b3 &&& (255 : Int32))] = (3 : Int32) from by rw [own_nv, e93]; decide]
          refine own_iload X92 (pc' := 133) at_131 rfl rfl ?_
          refine own_callS X92 (W := 1) (argsL := [(.ref ad7), (.int (3 : Int32)), (.int (4 : Int32))]) (rest := [(.ref ad7)]) (S' := [(.int (own_nv (3 : Int32) [(b3 &&& (255 : Int32))])), (.ref ad7)]) (pc' := 136) (rm1_1 l Z a0 hw n0 ad7 (3 : Int32) (4 : Int32) h17 X92.size _ A17 (b3 &&& (255 : Int32)) (by decide) (by decide) (by decide) rfl rfl (own_mr _)) (hw _ (List.mem_of_getElem? (i := 2) rfl)) (hw _ (List.mem_of_getElem? (i := 3) rfl)) (hw _ (List.mem_of_getElem? (i := 4) rfl)) (hw _ (List.mem_of_getElem? (i := 5) rfl)) (by decide) (by decide) (by decide) rfl rfl (by decide) (by decide) (lenOf pd_0 rfl) rfl (by first | decide | exact Nat.le_of_eq rfl) rfl at_133 rfl rfl ?_
          intro T107 h107 X107 qq107
          rw [show h107 = h17 from qq107] at X107
          rcases own_s1 (b3 &&& (255 : Int32)) with e108 | e108
          · rw [show own_nv (3 : Int32) [(b3 &&& (255 : Int32))] = (-1 : Int32) from by rw [own_nv, e108]; decide]
            refine own_iload X107 (pc' := 138) at_136 rfl rfl ?_
            refine own_callS X107 (W := 0) (argsL := [(.ref ad7), (.int (-1 : Int32)), (.int (4 : Int32))]) (rest := []) (S' := [(.int (-1 : Int32))]) (pc' := 141) (rm1_A l Z a0 hw n0 ad7 (-1 : Int32) (4 : Int32) h17 X107.size (by decide)) (hw _ (List.mem_of_getElem? (i := 2) rfl)) (hw _ (List.mem_of_getElem? (i := 3) rfl)) (hw _ (List.mem_of_getElem? (i := 4) rfl)) (hw _ (List.mem_of_getElem? (i := 5) rfl)) (by decide) (by decide) (by decide) rfl rfl (by decide) (by decide) (lenOf pd_0 rfl) rfl (by first | decide | exact Nat.le_of_eq rfl) rfl at_138 rfl rfl ?_
            intro T109 h109 X109 qq109
            rw [show h109 = h17 from qq109] at X109
            refine own_istore X109 (pc' := 143) (Ls' := #[.val (.int b0), .val (.int b1), .val (.int b2), .val (.int b3), .val (.int b4), .val (.int ctl), .val (.ref ad1), .val (.ref ad7), .val (.int (0 : Int32)), .val (.int (4 : Int32)), .val (.int (4 : Int32)), .val (.int (-1 : Int32)), .unset]) at_141 rfl rfl ?_
            refine own_iload X109 (pc' := 145) at_143 rfl rfl ?_
            refine own_iload X109 (pc' := 147) at_145 rfl rfl ?_
            refine own_icmp_ne X109 (pct := 154) (pc' := 150) at_147 rfl (by decide) (by decide) (fun _ => ?_) (fun hc => absurd hc (by decide))
            refine own_iconst X109 (v := (0 : Int32)) (pc' := 155) at_154 rfl (by decide) ?_
            refine own_istore X109 (pc' := 157) (Ls' := #[.val (.int b0), .val (.int b1), .val (.int b2), .val (.int b3), .val (.int b4), .val (.int ctl), .val (.ref ad1), .val (.ref ad7), .val (.int (0 : Int32)), .val (.int (4 : Int32)), .val (.int (4 : Int32)), .val (.int (-1 : Int32)), .val (.int (0 : Int32))]) at_155 rfl rfl ?_
            refine own_aload X109 (pc' := 159) at_157 rfl rfl rfl ?_
            refine own_iload X109 (pc' := 161) at_159 rfl rfl ?_
            refine own_iload X109 (pc' := 163) at_161 rfl rfl ?_
            refine own_callS X109 (W := 0) (argsL := [(.ref ad1), (.int (0 : Int32)), (.int (4 : Int32))]) (rest := []) (S' := [(.int (own_w 4 [((b0.toInt8.toInt32) &&& (255 : Int32)), ((b1.toInt8.toInt32) &&& (255 : Int32)), ((b2.toInt8.toInt32) &&& (255 : Int32)), ((b3.toInt8.toInt32) &&& (255 : Int32))]))]) (pc' := 166) (rm3_4 l Z a0 hw n0 ad1 (0 : Int32) (4 : Int32) h17 X109.size _ A18 (b0.toInt8.toInt32) (b1.toInt8.toInt32) (b2.toInt8.toInt32) (b3.toInt8.toInt32) (by decide) (fun t i ht hi => own_H04 _ _ _ _ _ t i ht hi) (c_i2b _).2 (c_i2b _).2 (c_i2b _).2 (c_i2b _).2) (hw _ (List.mem_of_getElem? (i := 9) rfl)) (hw _ (List.mem_of_getElem? (i := 10) rfl)) (hw _ (List.mem_of_getElem? (i := 11) rfl)) (hw _ (List.mem_of_getElem? (i := 12) rfl)) (by decide) (by decide) (by decide) rfl rfl (by decide) (by decide) (lenOf pd_1 rfl) rfl (by first | decide | exact Nat.le_of_eq rfl) rfl at_163 rfl rfl ?_
            intro T110 h110 X110 qq110
            rw [show h110 = h17 from qq110] at X110
            refine own_iload X110 (pc' := 168) at_166 rfl rfl ?_
            refine own_icmp_ne X110 (pct := 175) (pc' := 171) at_168 rfl (by decide) (by decide) (fun hc => absurd hc (fun q => q (by (try simp only [own_m8]); exact (Eq.trans (own_wc e87 (by decide) rfl) (Eq.trans (own_wc e93 (by decide) rfl) (own_w0 e108)))))) (fun _ => ?_)
            refine own_iconst X110 (v := (1 : Int32)) (pc' := 172) at_171 rfl (by decide) ?_
            refine own_goto X110 (pc' := 176) at_172 (by decide) (by decide) ?_
            subst hΦ
            exact own_retZ X110 at_176 (by decide) (by decide) (by decide) rfl trivial
          · rw [show own_nv (3 : Int32) [(b3 &&& (255 : Int32))] = (4 : Int32) from by rw [own_nv, e108]; decide]
            refine own_iload X107 (pc' := 138) at_136 rfl rfl ?_
            refine own_callS X107 (W := 0) (argsL := [(.ref ad7), (.int (4 : Int32)), (.int (4 : Int32))]) (rest := []) (S' := [(.int (4 : Int32))]) (pc' := 141) (rm1_B l Z a0 hw n0 ad7 (4 : Int32) (4 : Int32) h17 X107.size (by decide) (by decide)) (hw _ (List.mem_of_getElem? (i := 2) rfl)) (hw _ (List.mem_of_getElem? (i := 3) rfl)) (hw _ (List.mem_of_getElem? (i := 4) rfl)) (hw _ (List.mem_of_getElem? (i := 5) rfl)) (by decide) (by decide) (by decide) rfl rfl (by decide) (by decide) (lenOf pd_0 rfl) rfl (by first | decide | exact Nat.le_of_eq rfl) rfl at_138 rfl rfl ?_
            intro T111 h111 X111 qq111
            rw [show h111 = h17 from qq111] at X111
            refine own_istore X111 (pc' := 143) (Ls' := #[.val (.int b0), .val (.int b1), .val (.int b2), .val (.int b3), .val (.int b4), .val (.int ctl), .val (.ref ad1), .val (.ref ad7), .val (.int (0 : Int32)), .val (.int (4 : Int32)), .val (.int (4 : Int32)), .val (.int (4 : Int32)), .unset]) at_141 rfl rfl ?_
            refine own_iload X111 (pc' := 145) at_143 rfl rfl ?_
            refine own_iload X111 (pc' := 147) at_145 rfl rfl ?_
            refine own_icmp_ne X111 (pct := 154) (pc' := 150) at_147 rfl (by decide) (by decide) (fun hc => absurd hc (by decide)) (fun _ => ?_)
            refine own_iconst X111 (v := (1 : Int32)) (pc' := 151) at_150 rfl (by decide) ?_
            refine own_goto X111 (pc' := 155) at_151 (by decide) (by decide) ?_
            refine own_istore X111 (pc' := 157) (Ls' := #[.val (.int b0), .val (.int b1), .val (.int b2), .val (.int b3), .val (.int b4), .val (.int ctl), .val (.ref ad1), .val (.ref ad7), .val (.int (0 : Int32)), .val (.int (4 : Int32)), .val (.int (4 : Int32)), .val (.int (4 : Int32)), .val (.int (1 : Int32))]) at_155 rfl rfl ?_
            refine own_aload X111 (pc' := 159) at_157 rfl rfl rfl ?_
            refine own_iload X111 (pc' := 161) at_159 rfl rfl ?_
            refine own_iload X111 (pc' := 163) at_161 rfl rfl ?_
            refine own_callS X111 (W := 0) (argsL := [(.ref ad1), (.int (0 : Int32)), (.int (4 : Int32))]) (rest := []) (S' := [(.int (own_w 4 [((b0.toInt8.toInt32) &&& (255 : Int32)), ((b1.toInt8.toInt32) &&& (255 : Int32)), ((b2.toInt8.toInt32) &&& (255 : Int32)), ((b3.toInt8.toInt32) &&& (255 : Int32))]))]) (pc' := 166) (rm3_4 l Z a0 hw n0 ad1 (0 : Int32) (4 : Int32) h17 X111.size _ A18 (b0.toInt8.toInt32) (b1.toInt8.toInt32) (b2.toInt8.toInt32) (b3.toInt8.toInt32) (by decide) (fun t i ht hi => own_H04 _ _ _ _ _ t i ht hi) (c_i2b _).2 (c_i2b _).2 (c_i2b _).2 (c_i2b _).2) (hw _ (List.mem_of_getElem? (i := 9) rfl)) (hw _ (List.mem_of_getElem? (i := 10) rfl)) (hw _ (List.mem_of_getElem? (i := 11) rfl)) (hw _ (List.mem_of_getElem? (i := 12) rfl)) (by decide) (by decide) (by decide) rfl rfl (by decide) (by decide) (lenOf pd_1 rfl) rfl (by first | decide | exact Nat.le_of_eq rfl) rfl at_163 rfl rfl ?_
            intro T112 h112 X112 qq112
            rw [show h112 = h17 from qq112] at X112
            refine own_iload X112 (pc' := 168) at_166 rfl rfl ?_
            refine own_icmp_ne X112 (pct := 175) (pc' := 171) at_168 rfl (by decide) (by decide) (fun hc => absurd hc (fun q => q (by (try simp only [own_m8]); exact (Eq.trans (own_wc e87 (by decide) rfl) (Eq.trans (own_wc e93 (by decide) rfl) (Eq.trans (own_wc e108 (by decide) rfl) (own_wn _))))))) (fun _ => ?_)
            refine own_iconst X112 (v := (1 : Int32)) (pc' := 172) at_171 rfl (by decide) ?_
            refine own_goto X112 (pc' := 176) at_172 (by decide) (by decide) ?_
            subst hΦ
            exact own_retZ X112 at_176 (by decide) (by decide) (by decide) rfl trivial
        · rw [show own_nv (1 : Int32) [(b1 &&& (255 : Int32)), (b2 &&& (255 : Int32)), (b3 &&& (255 : Int32))] = (4 : Int32) from by rw [own_nv, e93]; decide]
          refine own_iload X92 (pc' := 133) at_131 rfl rfl ?_
          refine own_callS X92 (W := 1) (argsL := [(.ref ad7), (.int (4 : Int32)), (.int (4 : Int32))]) (rest := [(.ref ad7)]) (S' := [(.int (4 : Int32)), (.ref ad7)]) (pc' := 136) (rm1_B l Z a0 hw n0 ad7 (4 : Int32) (4 : Int32) h17 X92.size (by decide) (by decide)) (hw _ (List.mem_of_getElem? (i := 2) rfl)) (hw _ (List.mem_of_getElem? (i := 3) rfl)) (hw _ (List.mem_of_getElem? (i := 4) rfl)) (hw _ (List.mem_of_getElem? (i := 5) rfl)) (by decide) (by decide) (by decide) rfl rfl (by decide) (by decide) (lenOf pd_0 rfl) rfl (by first | decide | exact Nat.le_of_eq rfl) rfl at_133 rfl rfl ?_
          intro T113 h113 X113 qq113
          rw [show h113 = h17 from qq113] at X113
          refine own_iload X113 (pc' := 138) at_136 rfl rfl ?_
          refine own_callS X113 (W := 0) (argsL := [(.ref ad7), (.int (4 : Int32)), (.int (4 : Int32))]) (rest := []) (S' := [(.int (4 : Int32))]) (pc' := 141) (rm1_B l Z a0 hw n0 ad7 (4 : Int32) (4 : Int32) h17 X113.size (by decide) (by decide)) (hw _ (List.mem_of_getElem? (i := 2) rfl)) (hw _ (List.mem_of_getElem? (i := 3) rfl)) (hw _ (List.mem_of_getElem? (i := 4) rfl)) (hw _ (List.mem_of_getElem? (i := 5) rfl)) (by decide) (by decide) (by decide) rfl rfl (by decide) (by decide) (lenOf pd_0 rfl) rfl (by first | decide | exact Nat.le_of_eq rfl) rfl at_138 rfl rfl ?_
          intro T114 h114 X114 qq114
          rw [show h114 = h17 from qq114] at X114
          refine own_istore X114 (pc' := 143) (Ls' := #[.val (.int b0), .val (.int b1), .val (.int b2), .val (.int b3), .val (.int b4), .val (.int ctl), .val (.ref ad1), .val (.ref ad7), .val (.int (0 : Int32)), .val (.int (4 : Int32)), .val (.int (4 : Int32)), .val (.int (4 : Int32)), .unset]) at_141 rfl rfl ?_
          refine own_iload X114 (pc' := 145) at_143 rfl rfl ?_
          refine own_iload X114 (pc' := 147) at_145 rfl rfl ?_
          refine own_icmp_ne X114 (pct := 154) (pc' := 150) at_147 rfl (by decide) (by decide) (fun hc => absurd hc (by decide)) (fun _ => ?_)
          refine own_iconst X114 (v := (1 : Int32)) (pc' := 151) at_150 rfl (by decide) ?_
          refine own_goto X114 (pc' := 155) at_151 (by decide) (by decide) ?_
          refine own_istore X114 (pc' := 157) (Ls' := #[.val (.int b0), .val (.int b1), .val (.int b2), .val (.int b3), .val (.int b4), .val (.int ctl), .val (.ref ad1), .val (.ref ad7), .val (.int (0 : Int32)), .val (.int (4 : Int32)), .val (.int (4 : Int32)), .val (.int (4 : Int32)), .val (.int (1 : Int32))]) at_155 rfl rfl ?_
          refine own_aload X114 (pc' := 159) at_157 rfl rfl rfl ?_
          refine own_iload X114 (pc' := 161) at_159 rfl rfl ?_
          refine own_iload X114 (pc' := 163) at_161 rfl rfl ?_
          refine own_callS X114 (W := 0) (argsL := [(.ref ad1), (.int (0 : Int32)), (.int (4 : Int32))]) (rest := []) (S' := [(.int (own_w 4 [((b0.toInt8.toInt32) &&& (255 : Int32)), ((b1.toInt8.toInt32) &&& (255 : Int32)), ((b2.toInt8.toInt32) &&& (255 : Int32)), ((b3.toInt8.toInt32) &&& (255 : Int32))]))]) (pc' := 166) (rm3_4 l Z a0 hw n0 ad1 (0 : Int32) (4 : Int32) h17 X114.size _ A18 (b0.toInt8.toInt32) (b1.toInt8.toInt32) (b2.toInt8.toInt32) (b3.toInt8.toInt32) (by decide) (fun t i ht hi => own_H04 _ _ _ _ _ t i ht hi) (c_i2b _).2 (c_i2b _).2 (c_i2b _).2 (c_i2b _).2) (hw _ (List.mem_of_getElem? (i := 9) rfl)) (hw _ (List.mem_of_getElem? (i := 10) rfl)) (hw _ (List.mem_of_getElem? (i := 11) rfl)) (hw _ (List.mem_of_getElem? (i := 12) rfl)) (by decide) (by decide) (by decide) rfl rfl (by decide) (by decide) (lenOf pd_1 rfl) rfl (by first | decide | exact Nat.le_of_eq rfl) rfl at_163 rfl rfl ?_
          intro T115 h115 X115 qq115
          rw [show h115 = h17 from qq115] at X115
          refine own_iload X115 (pc' := 168) at_166 rfl rfl ?_
          refine own_icmp_ne X115 (pct := 175) (pc' := 171) at_168 rfl (by decide) (by decide) (fun hc => absurd hc (fun q => q (by (try simp only [own_m8]); exact (Eq.trans (own_wc e87 (by decide) rfl) (Eq.trans (own_wc e93 (by decide) rfl) (own_wn _)))))) (fun _ => ?_)
          refine own_iconst X115 (v := (1 : Int32)) (pc' := 172) at_171 rfl (by decide) ?_
          refine own_goto X115 (pc' := 176) at_172 (by decide) (by decide) ?_
          subst hΦ
          exact own_retZ X115 at_176 (by decide) (by decide) (by decide) rfl trivial
      · rw [show own_nv (0 : Int32) [(b0 &&& (255 : Int32)), (b1 &&& (255 : Int32)), (b2 &&& (255 : Int32)), (b3 &&& (255 : Int32))] = (2 : Int32) from by rw [own_nv, e87]; decide]
        refine own_iload X86 (pc' := 128) at_126 rfl rfl ?_
        refine own_callS X86 (W := 2) (argsL := [(.ref ad7), (.int (2 : Int32)), (.int (4 : Int32))]) (rest := [(.ref ad7), (.ref ad7)]) (S' := [(.int (own_nv (2 : Int32) [(b2 &&& (255 : Int32)), (b3 &&& (255 : Int32))])), (.ref ad7), (.ref ad7)]) (pc' := 131) (rm1_2 l Z a0 hw n0 ad7 (2 : Int32) (4 : Int32) h17 X86.size _ A17 (b2 &&& (255 : Int32)) (b3 &&& (255 : Int32)) (by decide) (by decide) (by decide) rfl rfl rfl rfl (own_mr _) (own_mr _)) (hw _ (List.mem_of_getElem? (i := 2) rfl)) (hw _ (List.mem_of_getElem? (i := 3) rfl)) (hw _ (List.mem_of_getElem? (i := 4) rfl)) (hw _ (List.mem_of_getElem? (i := 5) rfl)) (by decide) (by decide) (by decide) rfl rfl (by decide) (by decide) (lenOf pd_0 rfl) rfl (by first | decide | exact Nat.le_of_eq rfl) rfl at_128 rfl rfl ?_
        intro T116 h116 X116 qq116
        rw [show h116 = h17 from qq116] at X116
        rcases own_s2 (b2 &&& (255 : Int32)) (b3 &&& (255 : Int32)) with e117 | e117 | e117
        · rw [show own_nv (2 : Int32) [(b2 &&& (255 : Int32)), (b3 &&& (255 : Int32))] = (-1 : Int32) from by rw [own_nv, e117]; decide]
          refine own_iload X116 (pc' := 133) at_131 rfl rfl ?_
          refine own_callS X116 (W := 1) (argsL := [(.ref ad7), (.int (-1 : Int32)), (.int (4 : Int32))]) (rest := [(.ref ad7)]) (S' := [(.int (-1 : Int32)), (.ref ad7)]) (pc' := 136) (rm1_A l Z a0 hw n0 ad7 (-1 : Int32) (4 : Int32) h17 X116.size (by decide)) (hw _ (List.mem_of_getElem? (i := 2) rfl)) (hw _ (List.mem_of_getElem? (i := 3) rfl)) (hw _ (List.mem_of_getElem? (i := 4) rfl)) (hw _ (List.mem_of_getElem? (i := 5) rfl)) (by decide) (by decide) (by decide) rfl rfl (by decide) (by decide) (lenOf pd_0 rfl) rfl (by first | decide | exact Nat.le_of_eq rfl) rfl at_133 rfl rfl ?_
          intro T118 h118 X118 qq118
          rw [show h118 = h17 from qq118] at X118
          refine own_iload X118 (pc' := 138) at_136 rfl rfl ?_
          refine own_callS X118 (W := 0) (argsL := [(.ref ad7), (.int (-1 : Int32)), (.int (4 : Int32))]) (rest := []) (S' := [(.int (-1 : Int32))]) (pc' := 141) (rm1_A l Z a0 hw n0 ad7 (-1 : Int32) (4 : Int32) h17 X118.size (by decide)) (hw _ (List.mem_of_getElem? (i := 2) rfl)) (hw _ (List.mem_of_getElem? (i := 3) rfl)) (hw _ (List.mem_of_getElem? (i := 4) rfl)) (hw _ (List.mem_of_getElem? (i := 5) rfl)) (by decide) (by decide) (by decide) rfl rfl (by decide) (by decide) (lenOf pd_0 rfl) rfl (by first | decide | exact Nat.le_of_eq rfl) rfl at_138 rfl rfl ?_
          intro T119 h119 X119 qq119
          rw [show h119 = h17 from qq119] at X119
          refine own_istore X119 (pc' := 143) (Ls' := #[.val (.int b0), .val (.int b1), .val (.int b2), .val (.int b3), .val (.int b4), .val (.int ctl), .val (.ref ad1), .val (.ref ad7), .val (.int (0 : Int32)), .val (.int (4 : Int32)), .val (.int (4 : Int32)), .val (.int (-1 : Int32)), .unset]) at_141 rfl rfl ?_
          refine own_iload X119 (pc' := 145) at_143 rfl rfl ?_
          refine own_iload X119 (pc' := 147) at_145 rfl rfl ?_
          refine own_icmp_ne X119 (pct := 154) (pc' := 150) at_147 rfl (by decide) (by decide) (fun _ => ?_) (fun hc => absurd hc (by decide))
          refine own_iconst X119 (v := (0 : Int32)) (pc' := 155) at_154 rfl (by decide) ?_
          refine own_istore X119 (pc' := 157) (Ls' := #[.val (.int b0), .val (.int b1), .val (.int b2), .val (.int b3), .val (.int b4), .val (.int ctl), .val (.ref ad1), .val (.ref ad7), .val (.int (0 : Int32)), .val (.int (4 : Int32)), .val (.int (4 : Int32)), .val (.int (-1 : Int32)), .val (.int (0 : Int32))]) at_155 rfl rfl ?_
          refine own_aload X119 (pc' := 159) at_157 rfl rfl rfl ?_
          refine own_iload X119 (pc' := 161) at_159 rfl rfl ?_
          refine own_iload X119 (pc' := 163) at_161 rfl rfl ?_
          refine own_callS X119 (W := 0) (argsL := [(.ref ad1), (.int (0 : Int32)), (.int (4 : Int32))]) (rest := []) (S' := [(.int (own_w 4 [((b0.toInt8.toInt32) &&& (255 : Int32)), ((b1.toInt8.toInt32) &&& (255 : Int32)), ((b2.toInt8.toInt32) &&& (255 : Int32)), ((b3.toInt8.toInt32) &&& (255 : Int32))]))]) (pc' := 166) (rm3_4 l Z a0 hw n0 ad1 (0 : Int32) (4 : Int32) h17 X119.size _ A18 (b0.toInt8.toInt32) (b1.toInt8.toInt32) (b2.toInt8.toInt32) (b3.toInt8.toInt32) (by decide) (fun t i ht hi => own_H04 _ _ _ _ _ t i ht hi) (c_i2b _).2 (c_i2b _).2 (c_i2b _).2 (c_i2b _).2) (hw _ (List.mem_of_getElem? (i := 9) rfl)) (hw _ (List.mem_of_getElem? (i := 10) rfl)) (hw _ (List.mem_of_getElem? (i := 11) rfl)) (hw _ (List.mem_of_getElem? (i := 12) rfl)) (by decide) (by decide) (by decide) rfl rfl (by decide) (by decide) (lenOf pd_1 rfl) rfl (by first | decide | exact Nat.le_of_eq rfl) rfl at_163 rfl rfl ?_
          intro T120 h120 X120 qq120
          rw [show h120 = h17 from qq120] at X120
          refine own_iload X120 (pc' := 168) at_166 rfl rfl ?_
          refine own_icmp_ne X120 (pct := 175) (pc' := 171) at_168 rfl (by decide) (by decide) (fun hc => absurd hc (fun q => q (by (try simp only [own_m8]); exact (Eq.trans (own_wc e87 (by decide) rfl) (own_w0 e117))))) (fun _ => ?_)
          refine own_iconst X120 (v := (1 : Int32)) (pc' := 172) at_171 rfl (by decide) ?_
          refine own_goto X120 (pc' := 176) at_172 (by decide) (by decide) ?_
          subst hΦ
          exact own_retZ X120 at_176 (by decide) (by decide) (by decide) rfl trivial
        · rw [show own_nv (2 : Int32) [(b2 &&& (255 : Int32)), (b3 &&& (255 : Int32))] = (3 : Int32) from by rw [own_nv, e117]; decide]
          refine own_iload X116 (pc' := 133) at_131 rfl rfl ?_
          refine own_callS X116 (W := 1) (argsL := [(.ref ad7), (.int (3 : Int32)), (.int (4 : Int32))]) (rest := [(.ref ad7)]) (S' := [(.int (own_nv (3 : Int32) [(b3 &&& (255 : Int32))])), (.ref ad7)]) (pc' := 136) (rm1_1 l Z a0 hw n0 ad7 (3 : Int32) (4 : Int32) h17 X116.size _ A17 (b3 &&& (255 : Int32)) (by decide) (by decide) (by decide) rfl rfl (own_mr _)) (hw _ (List.mem_of_getElem? (i := 2) rfl)) (hw _ (List.mem_of_getElem? (i := 3) rfl)) (hw _ (List.mem_of_getElem? (i := 4) rfl)) (hw _ (List.mem_of_getElem? (i := 5) rfl)) (by decide) (by decide) (by decide) rfl rfl (by decide) (by decide) (lenOf pd_0 rfl) rfl (by first | decide | exact Nat.le_of_eq rfl) rfl at_133 rfl rfl ?_
          intro T121 h121 X121 qq121
          rw [show h121 = h17 from qq121] at X121
          rcases own_s1 (b3 &&& (255 : Int32)) with e122 | e122
          · rw [show own_nv (3 : Int32) [(b3 &&& (255 : Int32))] = (-1 : Int32) from by rw [own_nv, e122]; decide]
            refine own_iload X121 (pc' := 138) at_136 rfl rfl ?_
            refine own_callS X121 (W := 0) (argsL := [(.ref ad7), (.int (-1 : Int32)), (.int (4 : Int32))]) (rest := []) (S' := [(.int (-1 : Int32))]) (pc' := 141) (rm1_A l Z a0 hw n0 ad7 (-1 : Int32) (4 : Int32) h17 X121.size (by decide)) (hw _ (List.mem_of_getElem? (i := 2) rfl)) (hw _ (List.mem_of_getElem? (i := 3) rfl)) (hw _ (List.mem_of_getElem? (i := 4) rfl)) (hw _ (List.mem_of_getElem? (i := 5) rfl)) (by decide) (by decide) (by decide) rfl rfl (by decide) (by decide) (lenOf pd_0 rfl) rfl (by first | decide | exact Nat.le_of_eq rfl) rfl at_138 rfl rfl ?_
            intro T123 h123 X123 qq123
            rw [show h123 = h17 from qq123] at X123
            refine own_istore X123 (pc' := 143) (Ls' := #[.val (.int b0), .val (.int b1), .val (.int b2), .val (.int b3), .val (.int b4), .val (.int ctl), .val (.ref ad1), .val (.ref ad7), .val (.int (0 : Int32)), .val (.int (4 : Int32)), .val (.int (4 : Int32)), .val (.int (-1 : Int32)), .unset]) at_141 rfl rfl ?_
            refine own_iload X123 (pc' := 145) at_143 rfl rfl ?_
            refine own_iload X123 (pc' := 147) at_145 rfl rfl ?_
            refine own_icmp_ne X123 (pct := 154) (pc' := 150) at_147 rfl (by decide) (by decide) (fun _ => ?_) (fun hc => absurd hc (by decide))
            refine own_iconst X123 (v := (0 : Int32)) (pc' := 155) at_154 rfl (by decide) ?_
            refine own_istore X123 (pc' := 157) (Ls' := #[.val (.int b0), .val (.int b1), .val (.int b2), .val (.int b3), .val (.int b4), .val (.int ctl), .val (.ref ad1), .val (.ref ad7), .val (.int (0 : Int32)), .val (.int (4 : Int32)), .val (.int (4 : Int32)), .val (.int (-1 : Int32)), .val (.int (0 : Int32))]) at_155 rfl rfl ?_
            refine own_aload X123 (pc' := 159) at_157 rfl rfl rfl ?_
            refine own_iload X123 (pc' := 161) at_159 rfl rfl ?_
            refine own_iload X123 (pc' := 163) at_161 rfl rfl ?_
            refine own_callS X123 (W := 0) (argsL := [(.ref ad1), (.int (0 : Int32)), (.int (4 : Int32))]) (rest := []) (S' := [(.int (own_w 4 [((b0.toInt8.toInt32) &&& (255 : Int32)), ((b1.toInt8.toInt32) &&& (255 : Int32)), ((b2.toInt8.toInt32) &&& (255 : Int32)), ((b3.toInt8.toInt32) &&& (255 : Int32))]))]) (pc' := 166) (rm3_4 l Z a0 hw n0 ad1 (0 : Int32) (4 : Int32) h17 X123.size _ A18 (b0.toInt8.toInt32) (b1.toInt8.toInt32) (b2.toInt8.toInt32) (b3.toInt8.toInt32) (by decide) (fun t i ht hi => own_H04 _ _ _ _ _ t i ht hi) (c_i2b _).2 (c_i2b _).2 (c_i2b _).2 (c_i2b _).2) (hw _ (List.mem_of_getElem? (i := 9) rfl)) (hw _ (List.mem_of_getElem? (i := 10) rfl)) (hw _ (List.mem_of_getElem? (i := 11) rfl)) (hw _ (List.mem_of_getElem? (i := 12) rfl)) (by decide) (by decide) (by decide) rfl rfl (by decide) (by decide) (lenOf pd_1 rfl) rfl (by first | decide | exact Nat.le_of_eq rfl) rfl at_163 rfl rfl ?_
            intro T124 h124 X124 qq124
            rw [show h124 = h17 from qq124] at X124
            refine own_iload X124 (pc' := 168) at_166 rfl rfl ?_
            refine own_icmp_ne X124 (pct := 175) (pc' := 171) at_168 rfl (by decide) (by decide) (fun hc => absurd hc (fun q => q (by (try simp only [own_m8]); exact (Eq.trans (own_wc e87 (by decide) rfl) (Eq.trans (own_wc e117 (by decide) rfl) (own_w0 e122)))))) (fun _ => ?_)
            refine own_iconst X124 (v := (1 : Int32)) (pc' := 172) at_171 rfl (by decide) ?_
            refine own_goto X124 (pc' := 176) at_172 (by decide) (by decide) ?_
            subst hΦ
            exact own_retZ X124 at_176 (by decide) (by decide) (by decide) rfl trivial
          · rw [show own_nv (3 : Int32) [(b3 &&& (255 : Int32))] = (4 : Int32) from by rw [own_nv, e122]; decide]
            refine own_iload X121 (pc' := 138) at_136 rfl rfl ?_
            refine own_callS X121 (W := 0) (argsL := [(.ref ad7), (.int (4 : Int32)), (.int (4 : Int32))]) (rest := []) (S' := [(.int (4 : Int32))]) (pc' := 141) (rm1_B l Z a0 hw n0 ad7 (4 : Int32) (4 : Int32) h17 X121.size (by decide) (by decide)) (hw _ (List.mem_of_getElem? (i := 2) rfl)) (hw _ (List.mem_of_getElem? (i := 3) rfl)) (hw _ (List.mem_of_getElem? (i := 4) rfl)) (hw _ (List.mem_of_getElem? (i := 5) rfl)) (by decide) (by decide) (by decide) rfl rfl (by decide) (by decide) (lenOf pd_0 rfl) rfl (by first | decide | exact Nat.le_of_eq rfl) rfl at_138 rfl rfl ?_
            intro T125 h125 X125 qq125
            rw [show h125 = h17 from qq125] at X125
            refine own_istore X125 (pc' := 143) (Ls' := #[.val (.int b0), .val (.int b1), .val (.int b2), .val (.int b3), .val (.int b4), .val (.int ctl), .val (.ref ad1), .val (.ref ad7), .val (.int (0 : Int32)), .val (.int (4 : Int32)), .val (.int (4 : Int32)), .val (.int (4 : Int32)), .unset]) at_141 rfl rfl ?_
            refine own_iload X125 (pc' := 145) at_143 rfl rfl ?_
            refine own_iload X125 (pc' := 147) at_145 rfl rfl ?_
            refine own_icmp_ne X125 (pct := 154) (pc' := 150) at_147 rfl (by decide) (by decide) (fun hc => absurd hc (by decide)) (fun _ => ?_)
            refine own_iconst X125 (v := (1 : Int32)) (pc' := 151) at_150 rfl (by decide) ?_
            refine own_goto X125 (pc' := 155) at_151 (by decide) (by decide) ?_
            refine own_istore X125 (pc' := 157) (Ls' := #[.val (.int b0), .val (.int b1), .val (.int b2), .val (.int b3), .val (.int b4), .val (.int ctl), .val (.ref ad1), .val (.ref ad7), .val (.int (0 : Int32)), .val (.int (4 : Int32)), .val (.int (4 : Int32)), .val (.int (4 : Int32)), .val (.int (1 : Int32))]) at_155 rfl rfl ?_
            refine own_aload X125 (pc' := 159) at_157 rfl rfl rfl ?_
            refine own_iload X125 (pc' := 161) at_159 rfl rfl ?_
            refine own_iload X125 (pc' := 163) at_161 rfl rfl ?_
            refine own_callS X125 (W := 0) (argsL := [(.ref ad1), (.int (0 : Int32)), (.int (4 : Int32))]) (rest := []) (S' := [(.int (own_w 4 [((b0.toInt8.toInt32) &&& (255 : Int32)), ((b1.toInt8.toInt32) &&& (255 : Int32)), ((b2.toInt8.toInt32) &&& (255 : Int32)), ((b3.toInt8.toInt32) &&& (255 : Int32))]))]) (pc' := 166) (rm3_4 l Z a0 hw n0 ad1 (0 : Int32) (4 : Int32) h17 X125.size _ A18 (b0.toInt8.toInt32) (b1.toInt8.toInt32) (b2.toInt8.toInt32) (b3.toInt8.toInt32) (by decide) (fun t i ht hi => own_H04 _ _ _ _ _ t i ht hi) (c_i2b _).2 (c_i2b _).2 (c_i2b _).2 (c_i2b _).2) (hw _ (List.mem_of_getElem? (i := 9) rfl)) (hw _ (List.mem_of_getElem? (i := 10) rfl)) (hw _ (List.mem_of_getElem? (i := 11) rfl)) (hw _ (List.mem_of_getElem? (i := 12) rfl)) (by decide) (by decide) (by decide) rfl rfl (by decide) (by decide) (lenOf pd_1 rfl) rfl (by first | decide | exact Nat.le_of_eq rfl) rfl at_163 rfl rfl ?_
            intro T126 h126 X126 qq126
            rw [show h126 = h17 from qq126] at X126
            refine own_iload X126 (pc' := 168) at_166 rfl rfl ?_
            refine own_icmp_ne X126 (pct := 175) (pc' := 171) at_168 rfl (by decide) (by decide) (fun hc => absurd hc (fun q => q (by (try simp only [own_m8]); exact (Eq.trans (own_wc e87 (by decide) rfl) (Eq.trans (own_wc e117 (by decide) rfl) (Eq.trans (own_wc e122 (by decide) rfl) (own_wn _))))))) (fun _ => ?_)
            refine own_iconst X126 (v := (1 : Int32)) (pc' := 172) at_171 rfl (by decide) ?_
            refine own_goto X126 (pc' := 176) at_172 (by decide) (by decide) ?_
            subst hΦ
            exact own_retZ X126 at_176 (by decide) (by decide) (by decide) rfl trivial
        · rw [show own_nv (2 : Int32) [(b2 &&& (255 : Int32)), (b3 &&& (255 : Int32))] = (4 : Int32) from by rw [own_nv, e117]; decide]
          refine own_iload X116 (pc' := 133) at_131 rfl rfl ?_
          refine own_callS X116 (W := 1) (argsL := [(.ref ad7), (.int (4 : Int32)), (.int (4 : Int32))]) (rest := [(.ref ad7)]) (S' := [(.int (4 : Int32)), (.ref ad7)]) (pc' := 136) (rm1_B l Z a0 hw n0 ad7 (4 : Int32) (4 : Int32) h17 X116.size (by decide) (by decide)) (hw _ (List.mem_of_getElem? (i := 2) rfl)) (hw _ (List.mem_of_getElem? (i := 3) rfl)) (hw _ (List.mem_of_getElem? (i := 4) rfl)) (hw _ (List.mem_of_getElem? (i := 5) rfl)) (by decide) (by decide) (by decide) rfl rfl (by decide) (by decide) (lenOf pd_0 rfl) rfl (by first | decide | exact Nat.le_of_eq rfl) rfl at_133 rfl rfl ?_
          intro T127 h127 X127 qq127
          rw [show h127 = h17 from qq127] at X127
          refine own_iload X127 (pc' := 138) at_136 rfl rfl ?_
          refine own_callS X127 (W := 0) (argsL := [(.ref ad7), (.int (4 : Int32)), (.int (4 : Int32))]) (rest := []) (S' := [(.int (4 : Int32))]) (pc' := 141) (rm1_B l Z a0 hw n0 ad7 (4 : Int32) (4 : Int32) h17 X127.size (by decide) (by decide)) (hw _ (List.mem_of_getElem? (i := 2) rfl)) (hw _ (List.mem_of_getElem? (i := 3) rfl)) (hw _ (List.mem_of_getElem? (i := 4) rfl)) (hw _ (List.mem_of_getElem? (i := 5) rfl)) (by decide) (by decide) (by decide) rfl rfl (by decide) (by decide) (lenOf pd_0 rfl) rfl (by first | decide | exact Nat.le_of_eq rfl) rfl at_138 rfl rfl ?_
          intro T128 h128 X128 qq128
          rw [show h128 = h17 from qq128] at X128
          refine own_istore X128 (pc' := 143) (Ls' := #[.val (.int b0), .val (.int b1), .val (.int b2), .val (.int b3), .val (.int b4), .val (.int ctl), .val (.ref ad1), .val (.ref ad7), .val (.int (0 : Int32)), .val (.int (4 : Int32)), .val (.int (4 : Int32)), .val (.int (4 : Int32)), .unset]) at_141 rfl rfl ?_
          refine own_iload X128 (pc' := 145) at_143 rfl rfl ?_
          refine own_iload X128 (pc' := 147) at_145 rfl rfl ?_
          refine own_icmp_ne X128 (pct := 154) (pc' := 150) at_147 rfl (by decide) (by decide) (fun hc => absurd hc (by decide)) (fun _ => ?_)
          refine own_iconst X128 (v := (1 : Int32)) (pc' := 151) at_150 rfl (by decide) ?_
          refine own_goto X128 (pc' := 155) at_151 (by decide) (by decide) ?_
          refine own_istore X128 (pc' := 157) (Ls' := #[.val (.int b0), .val (.int b1), .val (.int b2), .val (.int b3), .val (.int b4), .val (.int ctl), .val (.ref ad1), .val (.ref ad7), .val (.int (0 : Int32)), .val (.int (4 : Int32)), .val (.int (4 : Int32)), .val (.int (4 : Int32)), .val (.int (1 : Int32))]) at_155 rfl rfl ?_
          refine own_aload X128 (pc' := 159) at_157 rfl rfl rfl ?_
          refine own_iload X128 (pc' := 161) at_159 rfl rfl ?_
          refine own_iload X128 (pc' := 163) at_161 rfl rfl ?_
          refine own_callS X128 (W := 0) (argsL := [(.ref ad1), (.int (0 : Int32)), (.int (4 : Int32))]) (rest := []) (S' := [(.int (own_w 4 [((b0.toInt8.toInt32) &&& (255 : Int32)), ((b1.toInt8.toInt32) &&& (255 : Int32)), ((b2.toInt8.toInt32) &&& (255 : Int32)), ((b3.toInt8.toInt32) &&& (255 : Int32))]))]) (pc' := 166) (rm3_4 l Z a0 hw n0 ad1 (0 : Int32) (4 : Int32) h17 X128.size _ A18 (b0.toInt8.toInt32) (b1.toInt8.toInt32) (b2.toInt8.toInt32) (b3.toInt8.toInt32) (by decide) (fun t i ht hi => own_H04 _ _ _ _ _ t i ht hi) (c_i2b _).2 (c_i2b _).2 (c_i2b _).2 (c_i2b _).2) (hw _ (List.mem_of_getElem? (i := 9) rfl)) (hw _ (List.mem_of_getElem? (i := 10) rfl)) (hw _ (List.mem_of_getElem? (i := 11) rfl)) (hw _ (List.mem_of_getElem? (i := 12) rfl)) (by decide) (by decide) (by decide) rfl rfl (by decide) (by decide) (lenOf pd_1 rfl) rfl (by first | decide | exact Nat.le_of_eq rfl) rfl at_163 rfl rfl ?_
          intro T129 h129 X129 qq129
          rw [show h129 = h17 from qq129] at X129
          refine own_iload X129 (pc' := 168) at_166 rfl rfl ?_
          refine own_icmp_ne X129 (pct := 175) (pc' := 171) at_168 rfl (by decide) (by decide) (fun hc => absurd hc (fun q => q (by (try simp only [own_m8]); exact (Eq.trans (own_wc e87 (by decide) rfl) (Eq.trans (own_wc e117 (by decide) rfl) (own_wn _)))))) (fun _ => ?_)
          refine own_iconst X129 (v := (1 : Int32)) (pc' := 172) at_171 rfl (by decide) ?_
          refine own_goto X129 (pc' := 176) at_172 (by decide) (by decide) ?_
          subst hΦ
          exact own_retZ X129 at_176 (by decide) (by decide) (by decide) rfl trivial
      · rw [show own_nv (0 : Int32) [(b0 &&& (255 : Int32)), (b1 &&& (255 : Int32)), (b2 &&& (255 : Int32)), (b3 &&& (255 : Int32))] = (3 : Int32) from by rw [own_nv, e87]; decide]
        refine own_iload X86 (pc' := 128) at_126 rfl rfl ?_
        refine own_callS X86 (W := 2) (argsL := [(.ref ad7), (.int (3 : Int32)), (.int (4 : Int32))]) (rest := [(.ref ad7), (.ref ad7)]) (S' := [(.int (own_nv (3 : Int32) [(b3 &&& (255 : Int32))])), (.ref ad7), (.ref ad7)]) (pc' := 131) (rm1_1 l Z a0 hw n0 ad7 (3 : Int32) (4 : Int32) h17 X86.size _ A17 (b3 &&& (255 : Int32)) (by decide) (by decide) (by decide) rfl rfl (own_mr _)) (hw _ (List.mem_of_getElem? (i := 2) rfl)) (hw _ (List.mem_of_getElem? (i := 3) rfl)) (hw _ (List.mem_of_getElem? (i := 4) rfl)) (hw _ (List.mem_of_getElem? (i := 5) rfl)) (by decide) (by decide) (by decide) rfl rfl (by decide) (by decide) (lenOf pd_0 rfl) rfl (by first | decide | exact Nat.le_of_eq rfl) rfl at_128 rfl rfl ?_
        intro T130 h130 X130 qq130
        rw [show h130 = h17 from qq130] at X130
        rcases own_s1 (b3 &&& (255 : Int32)) with e131 | e131
        · rw [show own_nv (3 : Int32) [(b3 &&& (255 : Int32))] = (-1 : Int32) from by rw [own_nv, e131]; decide]
          refine own_iload X130 (pc' := 133) at_131 rfl rfl ?_
          refine own_callS X130 (W := 1) (argsL := [(.ref ad7), (.int (-1 : Int32)), (.int (4 : Int32))]) (rest := [(.ref ad7)]) (S' := [(.int (-1 : Int32)), (.ref ad7)]) (pc' := 136) (rm1_A l Z a0 hw n0 ad7 (-1 : Int32) (4 : Int32) h17 X130.size (by decide)) (hw _ (List.mem_of_getElem? (i := 2) rfl)) (hw _ (List.mem_of_getElem? (i := 3) rfl)) (hw _ (List.mem_of_getElem? (i := 4) rfl)) (hw _ (List.mem_of_getElem? (i := 5) rfl)) (by decide) (by decide) (by decide) rfl rfl (by decide) (by decide) (lenOf pd_0 rfl) rfl (by first | decide | exact Nat.le_of_eq rfl) rfl at_133 rfl rfl ?_
          intro T132 h132 X132 qq132
          rw [show h132 = h17 from qq132] at X132
          refine own_iload X132 (pc' := 138) at_136 rfl rfl ?_
          refine own_callS X132 (W := 0) (argsL := [(.ref ad7), (.int (-1 : Int32)), (.int (4 : Int32))]) (rest := []) (S' := [(.int (-1 : Int32))]) (pc' := 141) (rm1_A l Z a0 hw n0 ad7 (-1 : Int32) (4 : Int32) h17 X132.size (by decide)) (hw _ (List.mem_of_getElem? (i := 2) rfl)) (hw _ (List.mem_of_getElem? (i := 3) rfl)) (hw _ (List.mem_of_getElem? (i := 4) rfl)) (hw _ (List.mem_of_getElem? (i := 5) rfl)) (by decide) (by decide) (by decide) rfl rfl (by decide) (by decide) (lenOf pd_0 rfl) rfl (by first | decide | exact Nat.le_of_eq rfl) rfl at_138 rfl rfl ?_
          intro T133 h133 X133 qq133
          rw [show h133 = h17 from qq133] at X133
          refine own_istore X133 (pc' := 143) (Ls' := #[.val (.int b0), .val (.int b1), .val (.int b2), .val (.int b3), .val (.int b4), .val (.int ctl), .val (.ref ad1), .val (.ref ad7), .val (.int (0 : Int32)), .val (.int (4 : Int32)), .val (.int (4 : Int32)), .val (.int (-1 : Int32)), .unset]) at_141 rfl rfl ?_
          refine own_iload X133 (pc' := 145) at_143 rfl rfl ?_
          refine own_iload X133 (pc' := 147) at_145 rfl rfl ?_
          refine own_icmp_ne X133 (pct := 154) (pc' := 150) at_147 rfl (by decide) (by decide) (fun _ => ?_) (fun hc => absurd hc (by decide))
          refine own_iconst X133 (v := (0 : Int32)) (pc' := 155) at_154 rfl (by decide) ?_
          refine own_istore X133 (pc' := 157) (Ls' := #[.val (.int b0), .val (.int b1), .val (.int b2), .val (.int b3), .val (.int b4), .val (.int ctl), .val (.ref ad1), .val (.ref ad7), .val (.int (0 : Int32)), .val (.int (4 : Int32)), .val (.int (4 : Int32)), .val (.int (-1 : Int32)), .val (.int (0 : Int32))]) at_155 rfl rfl ?_
          refine own_aload X133 (pc' := 159) at_157 rfl rfl rfl ?_
          refine own_iload X133 (pc' := 161) at_159 rfl rfl ?_
          refine own_iload X133 (pc' := 163) at_161 rfl rfl ?_
          refine own_callS X133 (W := 0) (argsL := [(.ref ad1), (.int (0 : Int32)), (.int (4 : Int32))]) (rest := []) (S' := [(.int (own_w 4 [((b0.toInt8.toInt32) &&& (255 : Int32)), ((b1.toInt8.toInt32) &&& (255 : Int32)), ((b2.toInt8.toInt32) &&& (255 : Int32)), ((b3.toInt8.toInt32) &&& (255 : Int32))]))]) (pc' := 166) (rm3_4 l Z a0 hw n0 ad1 (0 : Int32) (4 : Int32) h17 X133.size _ A18 (b0.toInt8.toInt32) (b1.toInt8.toInt32) (b2.toInt8.toInt32) (b3.toInt8.toInt32) (by decide) (fun t i ht hi => own_H04 _ _ _ _ _ t i ht hi) (c_i2b _).2 (c_i2b _).2 (c_i2b _).2 (c_i2b _).2) (hw _ (List.mem_of_getElem? (i := 9) rfl)) (hw _ (List.mem_of_getElem? (i := 10) rfl)) (hw _ (List.mem_of_getElem? (i := 11) rfl)) (hw _ (List.mem_of_getElem? (i := 12) rfl)) (by decide) (by decide) (by decide) rfl rfl (by decide) (by decide) (lenOf pd_1 rfl) rfl (by first | decide | exact Nat.le_of_eq rfl) rfl at_163 rfl rfl ?_
          intro T134 h134 X134 qq134
          rw [show h134 = h17 from qq134] at X134
          refine own_iload X134 (pc' := 168) at_166 rfl rfl ?_
          refine own_icmp_ne X134 (pct := 175) (pc' := 171) at_168 rfl (by decide) (by decide) (fun hc => absurd hc (fun q => q (by (try simp only [own_m8]); exact (Eq.trans (own_wc e87 (by decide) rfl) (own_w0 e131))))) (fun _ => ?_)
          refine own_iconst X134 (v := (1 : Int32)) (pc' := 172) at_171 rfl (by decide) ?_
          refine own_goto X134 (pc' := 176) at_172 (by decide) (by decide) ?_
          subst hΦ
          exact own_retZ X134 at_176 (by decide) (by decide) (by decide) rfl trivial
        · rw [show own_nv (3 : Int32) [(b3 &&& (255 : Int32))] = (4 : Int32) from by rw [own_nv, e131]; decide]
          refine own_iload X130 (pc' := 133) at_131 rfl rfl ?_
          refine own_callS X130 (W := 1) (argsL := [(.ref ad7), (.int (4 : Int32)), (.int (4 : Int32))]) (rest := [(.ref ad7)]) (S' := [(.int (4 : Int32)), (.ref ad7)]) (pc' := 136) (rm1_B l Z a0 hw n0 ad7 (4 : Int32) (4 : Int32) h17 X130.size (by decide) (by decide)) (hw _ (List.mem_of_getElem? (i := 2) rfl)) (hw _ (List.mem_of_getElem? (i := 3) rfl)) (hw _ (List.mem_of_getElem? (i := 4) rfl)) (hw _ (List.mem_of_getElem? (i := 5) rfl)) (by decide) (by decide) (by decide) rfl rfl (by decide) (by decide) (lenOf pd_0 rfl) rfl (by first | decide | exact Nat.le_of_eq rfl) rfl at_133 rfl rfl ?_
          intro T135 h135 X135 qq135
          rw [show h135 = h17 from qq135] at X135
          refine own_iload X135 (pc' := 138) at_136 rfl rfl ?_
          refine own_callS X135 (W := 0) (argsL := [(.ref ad7), (.int (4 : Int32)), (.int (4 : Int32))]) (rest := []) (S' := [(.int (4 : Int32))]) (pc' := 141) (rm1_B l Z a0 hw n0 ad7 (4 : Int32) (4 : Int32) h17 X135.size (by decide) (by decide)) (hw _ (List.mem_of_getElem? (i := 2) rfl)) (hw _ (List.mem_of_getElem? (i := 3) rfl)) (hw _ (List.mem_of_getElem? (i := 4) rfl)) (hw _ (List.mem_of_getElem? (i := 5) rfl)) (by decide) (by decide) (by decide) rfl rfl (by decide) (by decide) (lenOf pd_0 rfl) rfl (by first | decide | exact Nat.le_of_eq rfl) rfl at_138 rfl rfl ?_
          intro T136 h136 X136 qq136
          rw [show h136 = h17 from qq136] at X136
          refine own_istore X136 (pc' := 143) (Ls' := #[.val (.int b0), .val (.int b1), .val (.int b2), .val (.int b3), .val (.int b4), .val (.int ctl), .val (.ref ad1), .val (.ref ad7), .val (.int (0 : Int32)), .val (.int (4 : Int32)), .val (.int (4 : Int32)), .val (.int (4 : Int32)), .unset]) at_141 rfl rfl ?_
          refine own_iload X136 (pc' := 145) at_143 rfl rfl ?_
          refine own_iload X136 (pc' := 147) at_145 rfl rfl ?_
          refine own_icmp_ne X136 (pct := 154) (pc' := 150) at_147 rfl (by decide) (by decide) (fun hc => absurd hc (by decide)) (fun _ => ?_)
          refine own_iconst X136 (v := (1 : Int32)) (pc' := 151) at_150 rfl (by decide) ?_
          refine own_goto X136 (pc' := 155) at_151 (by decide) (by decide) ?_
          refine own_istore X136 (pc' := 157) (Ls' := #[.val (.int b0), .val (.int b1), .val (.int b2), .val (.int b3), .val (.int b4), .val (.int ctl), .val (.ref ad1), .val (.ref ad7), .val (.int (0 : Int32)), .val (.int (4 : Int32)), .val (.int (4 : Int32)), .val (.int (4 : Int32)), .val (.int (1 : Int32))]) at_155 rfl rfl ?_
          refine own_aload X136 (pc' := 159) at_157 rfl rfl rfl ?_
          refine own_iload X136 (pc' := 161) at_159 rfl rfl ?_
          refine own_iload X136 (pc' := 163) at_161 rfl rfl ?_
          refine own_callS X136 (W := 0) (argsL := [(.ref ad1), (.int (0 : Int32)), (.int (4 : Int32))]) (rest := []) (S' := [(.int (own_w 4 [((b0.toInt8.toInt32) &&& (255 : Int32)), ((b1.toInt8.toInt32) &&& (255 : Int32)), ((b2.toInt8.toInt32) &&& (255 : Int32)), ((b3.toInt8.toInt32) &&& (255 : Int32))]))]) (pc' := 166) (rm3_4 l Z a0 hw n0 ad1 (0 : Int32) (4 : Int32) h17 X136.size _ A18 (b0.toInt8.toInt32) (b1.toInt8.toInt32) (b2.toInt8.toInt32) (b3.toInt8.toInt32) (by decide) (fun t i ht hi => own_H04 _ _ _ _ _ t i ht hi) (c_i2b _).2 (c_i2b _).2 (c_i2b _).2 (c_i2b _).2) (hw _ (List.mem_of_getElem? (i := 9) rfl)) (hw _ (List.mem_of_getElem? (i := 10) rfl)) (hw _ (List.mem_of_getElem? (i := 11) rfl)) (hw _ (List.mem_of_getElem? (i := 12) rfl)) (by decide) (by decide) (by decide) rfl rfl (by decide) (by decide) (lenOf pd_1 rfl) rfl (by first | decide | exact Nat.le_of_eq rfl) rfl at_163 rfl rfl ?_
          intro T137 h137 X137 qq137
          rw [show h137 = h17 from qq137] at X137
          refine own_iload X137 (pc' := 168) at_166 rfl rfl ?_
          refine own_icmp_ne X137 (pct := 175) (pc' := 171) at_168 rfl (by decide) (by decide) (fun hc => absurd hc (fun q => q (by (try simp only [own_m8]); exact (Eq.trans (own_wc e87 (by decide) rfl) (Eq.trans (own_wc e131 (by decide) rfl) (own_wn _)))))) (fun _ => ?_)
          refine own_iconst X137 (v := (1 : Int32)) (pc' := 172) at_171 rfl (by decide) ?_
          refine own_goto X137 (pc' := 176) at_172 (by decide) (by decide) ?_
          subst hΦ
          exact own_retZ X137 at_176 (by decide) (by decide) (by decide) rfl trivial
      · rw [show own_nv (0 : Int32) [(b0 &&& (255 : Int32)), (b1 &&& (255 : Int32)), (b2 &&& (255 : Int32)), (b3 &&& (255 : Int32))] = (4 : Int32) from by rw [own_nv, e87]; decide]
        refine own_iload X86 (pc' := 128) at_126 rfl rfl ?_
        refine own_callS X86 (W := 2) (argsL := [(.ref ad7), (.int (4 : Int32)), (.int (4 : Int32))]) (rest := [(.ref ad7), (.ref ad7)]) (S' := [(.int (4 : Int32)), (.ref ad7), (.ref ad7)]) (pc' := 131) (rm1_B l Z a0 hw n0 ad7 (4 : Int32) (4 : Int32) h17 X86.size (by decide) (by decide)) (hw _ (List.mem_of_getElem? (i := 2) rfl)) (hw _ (List.mem_of_getElem? (i := 3) rfl)) (hw _ (List.mem_of_getElem? (i := 4) rfl)) (hw _ (List.mem_of_getElem? (i := 5) rfl)) (by decide) (by decide) (by decide) rfl rfl (by decide) (by decide) (lenOf pd_0 rfl) rfl (by first | decide | exact Nat.le_of_eq rfl) rfl at_128 rfl rfl ?_
        intro T138 h138 X138 qq138
        rw [show h138 = h17 from qq138] at X138
        refine own_iload X138 (pc' := 133) at_131 rfl rfl ?_
        refine own_callS X138 (W := 1) (argsL := [(.ref ad7), (.int (4 : Int32)), (.int (4 : Int32))]) (rest := [(.ref ad7)]) (S' := [(.int (4 : Int32)), (.ref ad7)]) (pc' := 136) (rm1_B l Z a0 hw n0 ad7 (4 : Int32) (4 : Int32) h17 X138.size (by decide) (by decide)) (hw _ (List.mem_of_getElem? (i := 2) rfl)) (hw _ (List.mem_of_getElem? (i := 3) rfl)) (hw _ (List.mem_of_getElem? (i := 4) rfl)) (hw _ (List.mem_of_getElem? (i := 5) rfl)) (by decide) (by decide) (by decide) rfl rfl (by decide) (by decide) (lenOf pd_0 rfl) rfl (by first | decide | exact Nat.le_of_eq rfl) rfl at_133 rfl rfl ?_
        intro T139 h139 X139 qq139
        rw [show h139 = h17 from qq139] at X139
        refine own_iload X139 (pc' := 138) at_136 rfl rfl ?_
        refine own_callS X139 (W := 0) (argsL := [(.ref ad7), (.int (4 : Int32)), (.int (4 : Int32))]) (rest := []) (S' := [(.int (4 : Int32))]) (pc' := 141) (rm1_B l Z a0 hw n0 ad7 (4 : Int32) (4 : Int32) h17 X139.size (by decide) (by decide)) (hw _ (List.mem_of_getElem? (i := 2) rfl)) (hw _ (List.mem_of_getElem? (i := 3) rfl)) (hw _ (List.mem_of_getElem? (i := 4) rfl)) (hw _ (List.mem_of_getElem? (i := 5) rfl)) (by decide) (by decide) (by decide) rfl rfl (by decide) (by decide) (lenOf pd_0 rfl) rfl (by first | decide | exact Nat.le_of_eq rfl) rfl at_138 rfl rfl ?_
        intro T140 h140 X140 qq140
        rw [show h140 = h17 from qq140] at X140
        refine own_istore X140 (pc' := 143) (Ls' := #[.val (.int b0), .val (.int b1), .val (.int b2), .val (.int b3), .val (.int b4), .val (.int ctl), .val (.ref ad1), .val (.ref ad7), .val (.int (0 : Int32)), .val (.int (4 : Int32)), .val (.int (4 : Int32)), .val (.int (4 : Int32)), .unset]) at_141 rfl rfl ?_
        refine own_iload X140 (pc' := 145) at_143 rfl rfl ?_
        refine own_iload X140 (pc' := 147) at_145 rfl rfl ?_
        refine own_icmp_ne X140 (pct := 154) (pc' := 150) at_147 rfl (by decide) (by decide) (fun hc => absurd hc (by decide)) (fun _ => ?_)
        refine own_iconst X140 (v := (1 : Int32)) (pc' := 151) at_150 rfl (by decide) ?_
        refine own_goto X140 (pc' := 155) at_151 (by decide) (by decide) ?_
        refine own_istore X140 (pc' := 157) (Ls' := #[.val (.int b0), .val (.int b1), .val (.int b2), .val (.int b3), .val (.int b4), .val (.int ctl), .val (.ref ad1), .val (.ref ad7), .val (.int (0 : Int32)), .val (.int (4 : Int32)), .val (.int (4 : Int32)), .val (.int (4 : Int32)), .val (.int (1 : Int32))]) at_155 rfl rfl ?_
        refine own_aload X140 (pc' := 159) at_157 rfl rfl rfl ?_
        refine own_iload X140 (pc' := 161) at_159 rfl rfl ?_
        refine own_iload X140 (pc' := 163) at_161 rfl rfl ?_
        refine own_callS X140 (W := 0) (argsL := [(.ref ad1), (.int (0 : Int32)), (.int (4 : Int32))]) (rest := []) (S' := [(.int (own_w 4 [((b0.toInt8.toInt32) &&& (255 : Int32)), ((b1.toInt8.toInt32) &&& (255 : Int32)), ((b2.toInt8.toInt32) &&& (255 : Int32)), ((b3.toInt8.toInt32) &&& (255 : Int32))]))]) (pc' := 166) (rm3_4 l Z a0 hw n0 ad1 (0 : Int32) (4 : Int32) h17 X140.size _ A18 (b0.toInt8.toInt32) (b1.toInt8.toInt32) (b2.toInt8.toInt32) (b3.toInt8.toInt32) (by decide) (fun t i ht hi => own_H04 _ _ _ _ _ t i ht hi) (c_i2b _).2 (c_i2b _).2 (c_i2b _).2 (c_i2b _).2) (hw _ (List.mem_of_getElem? (i := 9) rfl)) (hw _ (List.mem_of_getElem? (i := 10) rfl)) (hw _ (List.mem_of_getElem? (i := 11) rfl)) (hw _ (List.mem_of_getElem? (i := 12) rfl)) (by decide) (by decide) (by decide) rfl rfl (by decide) (by decide) (lenOf pd_1 rfl) rfl (by first | decide | exact Nat.le_of_eq rfl) rfl at_163 rfl rfl ?_
        intro T141 h141 X141 qq141
        rw [show h141 = h17 from qq141] at X141
        refine own_iload X141 (pc' := 168) at_166 rfl rfl ?_
        refine own_icmp_ne X141 (pct := 175) (pc' := 171) at_168 rfl (by decide) (by decide) (fun hc => absurd hc (fun q => q (by (try simp only [own_m8]); exact (Eq.trans (own_wc e87 (by decide) rfl) (own_wn _))))) (fun _ => ?_)
        refine own_iconst X141 (v := (1 : Int32)) (pc' := 172) at_171 rfl (by decide) ?_
        refine own_goto X141 (pc' := 176) at_172 (by decide) (by decide) ?_
        subst hΦ
        exact own_retZ X141 at_176 (by decide) (by decide) (by decide) rfl trivial
  · refine own_iload X17 (pc' := 95) at_93 rfl rfl ?_
    refine own_iconst X17 (v := (1 : Int32)) (pc' := 96) at_95 rfl (by decide) ?_
    refine own_iushr X17 (r := ((ctl.toUInt32 >>> ((1 : Int32) &&& 31).toUInt32).toInt32)) (pc' := 97) at_96 rfl rfl ?_
    refine own_bipush X17 (v := (7 : Int32)) (pc' := 99) at_97 rfl (by decide) ?_
    refine own_iand X17 (r := (((ctl.toUInt32 >>> ((1 : Int32) &&& 31).toUInt32).toInt32) &&& (7 : Int32))) (pc' := 100) at_99 rfl rfl ?_
    refine own_iconst X17 (v := (5 : Int32)) (pc' := 101) at_100 rfl (by decide) ?_
    refine own_irem X17 (r := ((((ctl.toUInt32 >>> ((1 : Int32) &&& 31).toUInt32).toInt32) &&& (7 : Int32)) - ((((ctl.toUInt32 >>> ((1 : Int32) &&& 31).toUInt32).toInt32) &&& (7 : Int32)) / (5 : Int32)) * (5 : Int32))) (pc' := 102) at_101 rfl (by decide) rfl ?_
    refine own_istore X17 (pc' := 104) (Ls' := #[.val (.int b0), .val (.int b1), .val (.int b2), .val (.int b3), .val (.int b4), .val (.int ctl), .val (.ref ad1), .val (.ref ad7), .val (.int (1 : Int32)), .val (.int ((((ctl.toUInt32 >>> ((1 : Int32) &&& 31).toUInt32).toInt32) &&& (7 : Int32)) - ((((ctl.toUInt32 >>> ((1 : Int32) &&& 31).toUInt32).toInt32) &&& (7 : Int32)) / (5 : Int32)) * (5 : Int32))), .unset, .unset, .unset]) at_102 rfl rfl ?_
    generalize e142 : ((((ctl.toUInt32 >>> ((1 : Int32) &&& 31).toUInt32).toInt32) &&& (7 : Int32)) - ((((ctl.toUInt32 >>> ((1 : Int32) &&& 31).toUInt32).toInt32) &&& (7 : Int32)) / (5 : Int32)) * (5 : Int32)) = v142
    rcases own_rem5 e142 with rfl | rfl | rfl | rfl | rfl
    · refine own_iload X17 (pc' := 106) at_104 rfl rfl ?_
      refine own_iload X17 (pc' := 108) at_106 rfl rfl ?_
      refine own_iadd X17 (r := (1 : Int32)) (pc' := 109) at_108 rfl (by decide) ?_
      refine own_istore X17 (pc' := 111) (Ls' := #[.val (.int b0), .val (.int b1), .val (.int b2), .val (.int b3), .val (.int b4), .val (.int ctl), .val (.ref ad1), .val (.ref ad7), .val (.int (1 : Int32)), .val (.int (0 : Int32)), .val (.int (1 : Int32)), .unset, .unset]) at_109 rfl rfl ?_
      refine own_aload X17 (pc' := 113) at_111 rfl rfl rfl ?_
      refine own_aload X17 (pc' := 115) at_113 rfl rfl rfl ?_
      refine own_aload X17 (pc' := 117) at_115 rfl rfl rfl ?_
      refine own_aload X17 (pc' := 119) at_117 rfl rfl rfl ?_
      refine own_iload X17 (pc' := 121) at_119 rfl rfl ?_
      refine own_iload X17 (pc' := 123) at_121 rfl rfl ?_
      refine own_callS X17 (W := 3) (argsL := [(.ref ad7), (.int (1 : Int32)), (.int (1 : Int32))]) (rest := [(.ref ad7), (.ref ad7), (.ref ad7)]) (S' := [(.int (1 : Int32)), (.ref ad7), (.ref ad7), (.ref ad7)]) (pc' := 126) (rm1_B l Z a0 hw n0 ad7 (1 : Int32) (1 : Int32) h17 X17.size (by decide) (by decide)) (hw _ (List.mem_of_getElem? (i := 2) rfl)) (hw _ (List.mem_of_getElem? (i := 3) rfl)) (hw _ (List.mem_of_getElem? (i := 4) rfl)) (hw _ (List.mem_of_getElem? (i := 5) rfl)) (by decide) (by decide) (by decide) rfl rfl (by decide) (by decide) (lenOf pd_0 rfl) rfl (by first | decide | exact Nat.le_of_eq rfl) rfl at_123 rfl rfl ?_
      intro T143 h143 X143 qq143
      rw [show h143 = h17 from qq143] at X143
      refine own_iload X143 (pc' := 128) at_126 rfl rfl ?_
      refine own_callS X143 (W := 2) (argsL := [(.ref ad7), (.int (1 : Int32)), (.int (1 : Int32))]) (rest := [(.ref ad7), (.ref ad7)]) (S' := [(.int (1 : Int32)), (.ref ad7), (.ref ad7)]) (pc' := 131) (rm1_B l Z a0 hw n0 ad7 (1 : Int32) (1 : Int32) h17 X143.size (by decide) (by decide)) (hw _ (List.mem_of_getElem? (i := 2) rfl)) (hw _ (List.mem_of_getElem? (i := 3) rfl)) (hw _ (List.mem_of_getElem? (i := 4) rfl)) (hw _ (List.mem_of_getElem? (i := 5) rfl)) (by decide) (by decide) (by decide) rfl rfl (by decide) (by decide) (lenOf pd_0 rfl) rfl (by first | decide | exact Nat.le_of_eq rfl) rfl at_128 rfl rfl ?_
      intro T144 h144 X144 qq144
      rw [show h144 = h17 from qq144] at X144
      refine own_iload X144 (pc' := 133) at_131 rfl rfl ?_
      refine own_callS X144 (W := 1) (argsL := [(.ref ad7), (.int (1 : Int32)), (.int (1 : Int32))]) (rest := [(.ref ad7)]) (S' := [(.int (1 : Int32)), (.ref ad7)]) (pc' := 136) (rm1_B l Z a0 hw n0 ad7 (1 : Int32) (1 : Int32) h17 X144.size (by decide) (by decide)) (hw _ (List.mem_of_getElem? (i := 2) rfl)) (hw _ (List.mem_of_getElem? (i := 3) rfl)) (hw _ (List.mem_of_getElem? (i := 4) rfl)) (hw _ (List.mem_of_getElem? (i := 5) rfl)) (by decide) (by decide) (by decide) rfl rfl (by decide) (by decide) (lenOf pd_0 rfl) rfl (by first | decide | exact Nat.le_of_eq rfl) rfl at_133 rfl rfl ?_
      intro T145 h145 X145 qq145
      rw [show h145 = h17 from qq145] at X145
      refine own_iload X145 (pc' := 138) at_136 rfl rfl ?_
      refine own_callS X145 (W := 0) (argsL := [(.ref ad7), (.int (1 : Int32)), (.int (1 : Int32))]) (rest := []) (S' := [(.int (1 : Int32))]) (pc' := 141) (rm1_B l Z a0 hw n0 ad7 (1 : Int32) (1 : Int32) h17 X145.size (by decide) (by decide)) (hw _ (List.mem_of_getElem? (i := 2) rfl)) (hw _ (List.mem_of_getElem? (i := 3) rfl)) (hw _ (List.mem_of_getElem? (i := 4) rfl)) (hw _ (List.mem_of_getElem? (i := 5) rfl)) (by decide) (by decide) (by decide) rfl rfl (by decide) (by decide) (lenOf pd_0 rfl) rfl (by first | decide | exact Nat.le_of_eq rfl) rfl at_138 rfl rfl ?_
      intro T146 h146 X146 qq146
      rw [show h146 = h17 from qq146] at X146
      refine own_istore X146 (pc' := 143) (Ls' := #[.val (.int b0), .val (.int b1), .val (.int b2), .val (.int b3), .val (.int b4), .val (.int ctl), .val (.ref ad1), .val (.ref ad7), .val (.int (1 : Int32)), .val (.int (0 : Int32)), .val (.int (1 : Int32)), .val (.int (1 : Int32)), .unset]) at_141 rfl rfl ?_
      refine own_iload X146 (pc' := 145) at_143 rfl rfl ?_
      refine own_iload X146 (pc' := 147) at_145 rfl rfl ?_
      refine own_icmp_ne X146 (pct := 154) (pc' := 150) at_147 rfl (by decide) (by decide) (fun hc => absurd hc (by decide)) (fun _ => ?_)
      refine own_iconst X146 (v := (1 : Int32)) (pc' := 151) at_150 rfl (by decide) ?_
      refine own_goto X146 (pc' := 155) at_151 (by decide) (by decide) ?_
      refine own_istore X146 (pc' := 157) (Ls' := #[.val (.int b0), .val (.int b1), .val (.int b2), .val (.int b3), .val (.int b4), .val (.int ctl), .val (.ref ad1), .val (.ref ad7), .val (.int (1 : Int32)), .val (.int (0 : Int32)), .val (.int (1 : Int32)), .val (.int (1 : Int32)), .val (.int (1 : Int32))]) at_155 rfl rfl ?_
      refine own_aload X146 (pc' := 159) at_157 rfl rfl rfl ?_
      refine own_iload X146 (pc' := 161) at_159 rfl rfl ?_
      refine own_iload X146 (pc' := 163) at_161 rfl rfl ?_
      refine own_callS X146 (W := 0) (argsL := [(.ref ad1), (.int (1 : Int32)), (.int (1 : Int32))]) (rest := []) (S' := [(.int (own_w 4 []))]) (pc' := 166) (rm3_0 l Z a0 hw n0 ad1 (1 : Int32) (1 : Int32) h17 X146.size _ A18  (by decide) (fun t i ht hi => own_H11 _ _ _ _ _ t i ht hi) ) (hw _ (List.mem_of_getElem? (i := 9) rfl)) (hw _ (List.mem_of_getElem? (i := 10) rfl)) (hw _ (List.mem_of_getElem? (i := 11) rfl)) (hw _ (List.mem_of_getElem? (i := 12) rfl)) (by decide) (by decide) (by decide) rfl rfl (by decide) (by decide) (lenOf pd_1 rfl) rfl (by first | decide | exact Nat.le_of_eq rfl) rfl at_163 rfl rfl ?_
      intro T147 h147 X147 qq147
      rw [show h147 = h17 from qq147] at X147
      refine own_iload X147 (pc' := 168) at_166 rfl rfl ?_
      refine own_icmp_ne X147 (pct := 175) (pc' := 171) at_168 rfl (by decide) (by decide) (fun hc => absurd hc (fun q => q (by (try simp only [own_m8]); exact (own_wn _)))) (fun _ => ?_)
      refine own_iconst X147 (v := (1 : Int32)) (pc' := 172) at_171 rfl (by decide) ?_
      refine own_goto X147 (pc' := 176) at_172 (by decide) (by decide) ?_
      subst hΦ
      exact own_retZ X147 at_176 (by decide) (by decide) (by decide) rfl trivial
    · refine own_iload X17 (pc' := 106) at_104 rfl rfl ?_
      refine own_iload X17 (pc' := 108) at_106 rfl rfl ?_
      refine own_iadd X17 (r := (2 : Int32)) (pc' := 109) at_108 rfl (by decide) ?_
      refine own_istore X17 (pc' := 111) (Ls' := #[.val (.int b0), .val (.int b1), .val (.int b2), .val (.int b3), .val (.int b4), .val (.int ctl), .val (.ref ad1), .val (.ref ad7), .val (.int (1 : Int32)), .val (.int (1 : Int32)), .val (.int (2 : Int32)), .unset, .unset]) at_109 rfl rfl ?_
      refine own_aload X17 (pc' := 113) at_111 rfl rfl rfl ?_
      refine own_aload X17 (pc' := 115) at_113 rfl rfl rfl ?_
      refine own_aload X17 (pc' := 117) at_115 rfl rfl rfl ?_
      refine own_aload X17 (pc' := 119) at_117 rfl rfl rfl ?_
      refine own_iload X17 (pc' := 121) at_119 rfl rfl ?_
      refine own_iload X17 (pc' := 123) at_121 rfl rfl ?_
      refine own_callS X17 (W := 3) (argsL := [(.ref ad7), (.int (1 : Int32)), (.int (2 : Int32))]) (rest := [(.ref ad7), (.ref ad7), (.ref ad7)]) (S' := [(.int (own_nv (1 : Int32) [(b1 &&& (255 : Int32))])), (.ref ad7), (.ref ad7), (.ref ad7)]) (pc' := 126) (rm1_1 l Z a0 hw n0 ad7 (1 : Int32) (2 : Int32) h17 X17.size _ A17 (b1 &&& (255 : Int32)) (by decide) (by decide) (by decide) rfl rfl (own_mr _)) (hw _ (List.mem_of_getElem? (i := 2) rfl)) (hw _ (List.mem_of_getElem? (i := 3) rfl)) (hw _ (List.mem_of_getElem? (i := 4) rfl)) (hw _ (List.mem_of_getElem? (i := 5) rfl)) (by decide) (by decide) (by decide) rfl rfl (by decide) (by decide) (lenOf pd_0 rfl) rfl (by first | decide | exact Nat.le_of_eq rfl) rfl at_123 rfl rfl ?_
      intro T148 h148 X148 qq148
      rw [show h148 = h17 from qq148] at X148
      rcases own_s1 (b1 &&& (255 : Int32)) with e149 | e149
      · rw [show own_nv (1 : Int32) [(b1 &&& (255 : Int32))] = (-1 : Int32) from by rw [own_nv, e149]; decide]
        refine own_iload X148 (pc' := 128) at_126 rfl rfl ?_
        refine own_callS X148 (W := 2) (argsL := [(.ref ad7), (.int (-1 : Int32)), (.int (2 : Int32))]) (rest := [(.ref ad7), (.ref ad7)]) (S' := [(.int (-1 : Int32)), (.ref ad7), (.ref ad7)]) (pc' := 131) (rm1_A l Z a0 hw n0 ad7 (-1 : Int32) (2 : Int32) h17 X148.size (by decide)) (hw _ (List.mem_of_getElem? (i := 2) rfl)) (hw _ (List.mem_of_getElem? (i := 3) rfl)) (hw _ (List.mem_of_getElem? (i := 4) rfl)) (hw _ (List.mem_of_getElem? (i := 5) rfl)) (by decide) (by decide) (by decide) rfl rfl (by decide) (by decide) (lenOf pd_0 rfl) rfl (by first | decide | exact Nat.le_of_eq rfl) rfl at_128 rfl rfl ?_
        intro T150 h150 X150 qq150
        rw [show h150 = h17 from qq150] at X150
        refine own_iload X150 (pc' := 133) at_131 rfl rfl ?_
        refine own_callS X150 (W := 1) (argsL := [(.ref ad7), (.int (-1 : Int32)), (.int (2 : Int32))]) (rest := [(.ref ad7)]) (S' := [(.int (-1 : Int32)), (.ref ad7)]) (pc' := 136) (rm1_A l Z a0 hw n0 ad7 (-1 : Int32) (2 : Int32) h17 X150.size (by decide)) (hw _ (List.mem_of_getElem? (i := 2) rfl)) (hw _ (List.mem_of_getElem? (i := 3) rfl)) (hw _ (List.mem_of_getElem? (i := 4) rfl)) (hw _ (List.mem_of_getElem? (i := 5) rfl)) (by decide) (by decide) (by decide) rfl rfl (by decide) (by decide) (lenOf pd_0 rfl) rfl (by first | decide | exact Nat.le_of_eq rfl) rfl at_133 rfl rfl ?_
        intro T151 h151 X151 qq151
        rw [show h151 = h17 from qq151] at X151
        refine own_iload X151 (pc' := 138) at_136 rfl rfl ?_
        refine own_callS X151 (W := 0) (argsL := [(.ref ad7), (.int (-1 : Int32)), (.int (2 : Int32))]) (rest := []) (S' := [(.int (-1 : Int32))]) (pc' := 141) (rm1_A l Z a0 hw n0 ad7 (-1 : Int32) (2 : Int32) h17 X151.size (by decide)) (hw _ (List.mem_of_getElem? (i := 2) rfl)) (hw _ (List.mem_of_getElem? (i := 3) rfl)) (hw _ (List.mem_of_getElem? (i := 4) rfl)) (hw _ (List.mem_of_getElem? (i := 5) rfl)) (by decide) (by decide) (by decide) rfl rfl (by decide) (by decide) (lenOf pd_0 rfl) rfl (by first | decide | exact Nat.le_of_eq rfl) rfl at_138 rfl rfl ?_
        intro T152 h152 X152 qq152
        rw [show h152 = h17 from qq152] at X152
        refine own_istore X152 (pc' := 143) (Ls' := #[.val (.int b0), .val (.int b1), .val (.int b2), .val (.int b3), .val (.int b4), .val (.int ctl), .val (.ref ad1), .val (.ref ad7), .val (.int (1 : Int32)), .val (.int (1 : Int32)), .val (.int (2 : Int32)), .val (.int (-1 : Int32)), .unset]) at_141 rfl rfl ?_
        refine own_iload X152 (pc' := 145) at_143 rfl rfl ?_
        refine own_iload X152 (pc' := 147) at_145 rfl rfl ?_
        refine own_icmp_ne X152 (pct := 154) (pc' := 150) at_147 rfl (by decide) (by decide) (fun _ => ?_) (fun hc => absurd hc (by decide))
        refine own_iconst X152 (v := (0 : Int32)) (pc' := 155) at_154 rfl (by decide) ?_
        refine own_istore X152 (pc' := 157) (Ls' := #[.val (.int b0), .val (.int b1), .val (.int b2), .val (.int b3), .val (.int b4), .val (.int ctl), .val (.ref ad1), .val (.ref ad7), .val (.int (1 : Int32)), .val (.int (1 : Int32)), .val (.int (2 : Int32)), .val (.int (-1 : Int32)), .val (.int (0 : Int32))]) at_155 rfl rfl ?_
        refine own_aload X152 (pc' := 159) at_157 rfl rfl rfl ?_
        refine own_iload X152 (pc' := 161) at_159 rfl rfl ?_
        refine own_iload X152 (pc' := 163) at_161 rfl rfl ?_
        refine own_callS X152 (W := 0) (argsL := [(.ref ad1), (.int (1 : Int32)), (.int (2 : Int32))]) (rest := []) (S' := [(.int (own_w 4 [((b1.toInt8.toInt32) &&& (255 : Int32))]))]) (pc' := 166) (rm3_1 l Z a0 hw n0 ad1 (1 : Int32) (2 : Int32) h17 X152.size _ A18 (b1.toInt8.toInt32) (by decide) (fun t i ht hi => own_H12 _ _ _ _ _ t i ht hi) (c_i2b _).2) (hw _ (List.mem_of_getElem? (i := 9) rfl)) (hw _ (List.mem_of_getElem? (i := 10) rfl)) (hw _ (List.mem_of_getElem? (i := 11) rfl)) (hw _ (List.mem_of_getElem? (i := 12) rfl)) (by decide) (by decide) (by decide) rfl rfl (by decide) (by decide) (lenOf pd_1 rfl) rfl (by first | decide | exact Nat.le_of_eq rfl) rfl at_163 rfl rfl ?_
        intro T153 h153 X153 qq153
        rw [show h153 = h17 from qq153] at X153
        refine own_iload X153 (pc' := 168) at_166 rfl rfl ?_
        refine own_icmp_ne X153 (pct := 175) (pc' := 171) at_168 rfl (by decide) (by decide) (fun hc => absurd hc (fun q => q (by (try simp only [own_m8]); exact (own_w0 e149)))) (fun _ => ?_)
        refine own_iconst X153 (v := (1 : Int32)) (pc' := 172) at_171 rfl (by decide) ?_
        refine own_goto X153 (pc' := 176) at_172 (by decide) (by decide) ?_
        subst hΦ
        exact own_retZ X153 at_176 (by decide) (by decide) (by decide) rfl trivial
      · rw [show own_nv (1 : Int32) [(b1 &&& (255 : Int32))] = (2 : Int32) from by rw [own_nv, e149]; decide]
        refine own_iload X148 (pc' := 128) at_126 rfl rfl ?_
        refine own_callS X148 (W := 2) (argsL := [(.ref ad7), (.int (2 : Int32)), (.int (2 : Int32))]) (rest := [(.ref ad7), (.ref ad7)]) (S' := [(.int (2 : Int32)), (.ref ad7), (.ref ad7)]) (pc' := 131) (rm1_B l Z a0 hw n0 ad7 (2 : Int32) (2 : Int32) h17 X148.size (by decide) (by decide)) (hw _ (List.mem_of_getElem? (i := 2) rfl)) (hw _ (List.mem_of_getElem? (i := 3) rfl)) (hw _ (List.mem_of_getElem? (i := 4) rfl)) (hw _ (List.mem_of_getElem? (i := 5) rfl)) (by decide) (by decide) (by decide) rfl rfl (by decide) (by decide) (lenOf pd_0 rfl) rfl (by first | decide | exact Nat.le_of_eq rfl) rfl at_128 rfl rfl ?_
        intro T154 h154 X154 qq154
        rw [show h154 = h17 from qq154] at X154
        refine own_iload X154 (pc' := 133) at_131 rfl rfl ?_
        refine own_callS X154 (W := 1) (argsL := [(.ref ad7), (.int (2 : Int32)), (.int (2 : Int32))]) (rest := [(.ref ad7)]) (S' := [(.int (2 : Int32)), (.ref ad7)]) (pc' := 136) (rm1_B l Z a0 hw n0 ad7 (2 : Int32) (2 : Int32) h17 X154.size (by decide) (by decide)) (hw _ (List.mem_of_getElem? (i := 2) rfl)) (hw _ (List.mem_of_getElem? (i := 3) rfl)) (hw _ (List.mem_of_getElem? (i := 4) rfl)) (hw _ (List.mem_of_getElem? (i := 5) rfl)) (by decide) (by decide) (by decide) rfl rfl (by decide) (by decide) (lenOf pd_0 rfl) rfl (by first | decide | exact Nat.le_of_eq rfl) rfl at_133 rfl rfl ?_
        intro T155 h155 X155 qq155
        rw [show h155 = h17 from qq155] at X155
        refine own_iload X155 (pc' := 138) at_136 rfl rfl ?_
        refine own_callS X155 (W := 0) (argsL := [(.ref ad7), (.int (2 : Int32)), (.int (2 : Int32))]) (rest := []) (S' := [(.int (2 : Int32))]) (pc' := 141) (rm1_B l Z a0 hw n0 ad7 (2 : Int32) (2 : Int32) h17 X155.size (by decide) (by decide)) (hw _ (List.mem_of_getElem? (i := 2) rfl)) (hw _ (List.mem_of_getElem? (i := 3) rfl)) (hw _ (List.mem_of_getElem? (i := 4) rfl)) (hw _ (List.mem_of_getElem? (i := 5) rfl)) (by decide) (by decide) (by decide) rfl rfl (by decide) (by decide) (lenOf pd_0 rfl) rfl (by first | decide | exact Nat.le_of_eq rfl) rfl at_138 rfl rfl ?_
        intro T156 h156 X156 qq156
        rw [show h156 = h17 from qq156] at X156
        refine own_istore X156 (pc' := 143) (Ls' := #[.val (.int b0), .val (.int b1), .val (.int b2), .val (.int b3), .val (.int b4), .val (.int ctl), .val (.ref ad1), .val (.ref ad7), .val (.int (1 : Int32)), .val (.int (1 : Int32)), .val (.int (2 : Int32)), .val (.int (2 : Int32)), .unset]) at_141 rfl rfl ?_
        refine own_iload X156 (pc' := 145) at_143 rfl rfl ?_
        refine own_iload X156 (pc' := 147) at_145 rfl rfl ?_
        refine own_icmp_ne X156 (pct := 154) (pc' := 150) at_147 rfl (by decide) (by decide) (fun hc => absurd hc (by decide)) (fun _ => ?_)
        refine own_iconst X156 (v := (1 : Int32)) (pc' := 151) at_150 rfl (by decide) ?_
        refine own_goto X156 (pc' := 155) at_151 (by decide) (by decide) ?_
        refine own_istore X156 (pc' := 157) (Ls' := #[.val (.int b0), .val (.int b1), .val (.int b2), .val (.int b3), .val (.int b4), .val (.int ctl), .val (.ref ad1), .val (.ref ad7), .val (.int (1 : Int32)), .val (.int (1 : Int32)), .val (.int (2 : Int32)), .val (.int (2 : Int32)), .val (.int (1 : Int32))]) at_155 rfl rfl ?_
        refine own_aload X156 (pc' := 159) at_157 rfl rfl rfl ?_
        refine own_iload X156 (pc' := 161) at_159 rfl rfl ?_
        refine own_iload X156 (pc' := 163) at_161 rfl rfl ?_
        refine own_callS X156 (W := 0) (argsL := [(.ref ad1), (.int (1 : Int32)), (.int (2 : Int32))]) (rest := []) (S' := [(.int (own_w 4 [((b1.toInt8.toInt32) &&& (255 : Int32))]))]) (pc' := 166) (rm3_1 l Z a0 hw n0 ad1 (1 : Int32) (2 : Int32) h17 X156.size _ A18 (b1.toInt8.toInt32) (by decide) (fun t i ht hi => own_H12 _ _ _ _ _ t i ht hi) (c_i2b _).2) (hw _ (List.mem_of_getElem? (i := 9) rfl)) (hw _ (List.mem_of_getElem? (i := 10) rfl)) (hw _ (List.mem_of_getElem? (i := 11) rfl)) (hw _ (List.mem_of_getElem? (i := 12) rfl)) (by decide) (by decide) (by decide) rfl rfl (by decide) (by decide) (lenOf pd_1 rfl) rfl (by first | decide | exact Nat.le_of_eq rfl) rfl at_163 rfl rfl ?_
        intro T157 h157 X157 qq157
        rw [show h157 = h17 from qq157] at X157
        refine own_iload X157 (pc' := 168) at_166 rfl rfl ?_
        refine own_icmp_ne X157 (pct := 175) (pc' := 171) at_168 rfl (by decide) (by decide) (fun hc => absurd hc (fun q => q (by (try simp only [own_m8]); exact (Eq.trans (own_wc e149 (by decide) rfl) (own_wn _))))) (fun _ => ?_)
        refine own_iconst X157 (v := (1 : Int32)) (pc' := 172) at_171 rfl (by decide) ?_
        refine own_goto X157 (pc' := 176) at_172 (by decide) (by decide) ?_
        subst hΦ
        exact own_retZ X157 at_176 (by decide) (by decide) (by decide) rfl trivial
    · refine own_iload X17 (pc' := 106) at_104 rfl rfl ?_
      refine own_iload X17 (pc' := 108) at_106 rfl rfl ?_
      refine own_iadd X17 (r := (3 : Int32)) (pc' := 109) at_108 rfl (by decide) ?_
      refine own_istore X17 (pc' := 111) (Ls' := #[.val (.int b0), .val (.int b1), .val (.int b2), .val (.int b3), .val (.int b4), .val (.int ctl), .val (.ref ad1), .val (.ref ad7), .val (.int (1 : Int32)), .val (.int (2 : Int32)), .val (.int (3 : Int32)), .unset, .unset]) at_109 rfl rfl ?_
      refine own_aload X17 (pc' := 113) at_111 rfl rfl rfl ?_
      refine own_aload X17 (pc' := 115) at_113 rfl rfl rfl ?_
      refine own_aload X17 (pc' := 117) at_115 rfl rfl rfl ?_
      refine own_aload X17 (pc' := 119) at_117 rfl rfl rfl ?_
      refine own_iload X17 (pc' := 121) at_119 rfl rfl ?_
      refine own_iload X17 (pc' := 123) at_121 rfl rfl ?_
      refine own_callS X17 (W := 3) (argsL := [(.ref ad7), (.int (1 : Int32)), (.int (3 : Int32))]) (rest := [(.ref ad7), (.ref ad7), (.ref ad7)]) (S' := [(.int (own_nv (1 : Int32) [(b1 &&& (255 : Int32)), (b2 &&& (255 : Int32))])), (.ref ad7), (.ref ad7), (.ref ad7)]) (pc' := 126) (rm1_2 l Z a0 hw n0 ad7 (1 : Int32) (3 : Int32) h17 X17.size _ A17 (b1 &&& (255 : Int32)) (b2 &&& (255 : Int32)) (by decide) (by decide) (by decide) rfl rfl rfl rfl (own_mr _) (own_mr _)) (hw _ (List.mem_of_getElem? (i := 2) rfl)) (hw _ (List.mem_of_getElem? (i := 3) rfl)) (hw _ (List.mem_of_getElem? (i := 4) rfl)) (hw _ (List.mem_of_getElem? (i := 5) rfl)) (by decide) (by decide) (by decide) rfl rfl (by decide) (by decide) (lenOf pd_0 rfl) rfl (by first | decide | exact Nat.le_of_eq rfl) rfl at_123 rfl rfl ?_
      intro T158 h158 X158 qq158
      rw [show h158 = h17 from qq158] at X158
      rcases own_s2 (b1 &&& (255 : Int32)) (b2 &&& (255 : Int32)) with e159 | e159 | e159
      · rw [show own_nv (1 : Int32) [(b1 &&& (255 : Int32)), (b2 &&& (255 : Int32))] = (-1 : Int32) from by rw [own_nv, e159]; decide]
        refine own_iload X158 (pc' := 128) at_126 rfl rfl ?_
        refine own_callS X158 (W := 2) (argsL := [(.ref ad7), (.int (-1 : Int32)), (.int (3 : Int32))]) (rest := [(.ref ad7), (.ref ad7)]) (S' := [(.int (-1 : Int32)), (.ref ad7), (.ref ad7)]) (pc' := 131) (rm1_A l Z a0 hw n0 ad7 (-1 : Int32) (3 : Int32) h17 X158.size (by decide)) (hw _ (List.mem_of_getElem? (i := 2) rfl)) (hw _ (List.mem_of_getElem? (i := 3) rfl)) (hw _ (List.mem_of_getElem? (i := 4) rfl)) (hw _ (List.mem_of_getElem? (i := 5) rfl)) (by decide) (by decide) (by decide) rfl rfl (by decide) (by decide) (lenOf pd_0 rfl) rfl (by first | decide | exact Nat.le_of_eq rfl) rfl at_128 rfl rfl ?_
        intro T160 h160 X160 qq160
        rw [show h160 = h17 from qq160] at X160
        refine own_iload X160 (pc' := 133) at_131 rfl rfl ?_
        refine own_callS X160 (W := 1) (argsL := [(.ref ad7), (.int (-1 : Int32)), (.int (3 : Int32))]) (rest := [(.ref ad7)]) (S' := [(.int (-1 : Int32)), (.ref ad7)]) (pc' := 136) (rm1_A l Z a0 hw n0 ad7 (-1 : Int32) (3 : Int32) h17 X160.size (by decide)) (hw _ (List.mem_of_getElem? (i := 2) rfl)) (hw _ (List.mem_of_getElem? (i := 3) rfl)) (hw _ (List.mem_of_getElem? (i := 4) rfl)) (hw _ (List.mem_of_getElem? (i := 5) rfl)) (by decide) (by decide) (by decide) rfl rfl (by decide) (by decide) (lenOf pd_0 rfl) rfl (by first | decide | exact Nat.le_of_eq rfl) rfl at_133 rfl rfl ?_
        intro T161 h161 X161 qq161
        rw [show h161 = h17 from qq161] at X161
        refine own_iload X161 (pc' := 138) at_136 rfl rfl ?_
        refine own_callS X161 (W := 0) (argsL := [(.ref ad7), (.int (-1 : Int32)), (.int (3 : Int32))]) (rest := []) (S' := [(.int (-1 : Int32))]) (pc' := 141) (rm1_A l Z a0 hw n0 ad7 (-1 : Int32) (3 : Int32) h17 X161.size (by decide)) (hw _ (List.mem_of_getElem? (i := 2) rfl)) (hw _ (List.mem_of_getElem? (i := 3) rfl)) (hw _ (List.mem_of_getElem? (i := 4) rfl)) (hw _ (List.mem_of_getElem? (i := 5) rfl)) (by decide) (by decide) (by decide) rfl rfl (by decide) (by decide) (lenOf pd_0 rfl) rfl (by first | decide | exact Nat.le_of_eq rfl) rfl at_138 rfl rfl ?_
        intro T162 h162 X162 qq162
        rw [show h162 = h17 from qq162] at X162
        refine own_istore X162 (pc' := 143) (Ls' := #[.val (.int b0), .val (.int b1), .val (.int b2), .val (.int b3), .val (.int b4), .val (.int ctl), .val (.ref ad1), .val (.ref ad7), .val (.int (1 : Int32)), .val (.int (2 : Int32)), .val (.int (3 : Int32)), .val (.int (-1 : Int32)), .unset]) at_141 rfl rfl ?_
        refine own_iload X162 (pc' := 145) at_143 rfl rfl ?_
        refine own_iload X162 (pc' := 147) at_145 rfl rfl ?_
        refine own_icmp_ne X162 (pct := 154) (pc' := 150) at_147 rfl (by decide) (by decide) (fun _ => ?_) (fun hc => absurd hc (by decide))
        refine own_iconst X162 (v := (0 : Int32)) (pc' := 155) at_154 rfl (by decide) ?_
        refine own_istore X162 (pc' := 157) (Ls' := #[.val (.int b0), .val (.int b1), .val (.int b2), .val (.int b3), .val (.int b4), .val (.int ctl), .val (.ref ad1), .val (.ref ad7), .val (.int (1 : Int32)), .val (.int (2 : Int32)), .val (.int (3 : Int32)), .val (.int (-1 : Int32)), .val (.int (0 : Int32))]) at_155 rfl rfl ?_
        refine own_aload X162 (pc' := 159) at_157 rfl rfl rfl ?_
        refine own_iload X162 (pc' := 161) at_159 rfl rfl ?_
        refine own_iload X162 (pc' := 163) at_161 rfl rfl ?_
        refine own_callS X162 (W := 0) (argsL := [(.ref ad1), (.int (1 : Int32)), (.int (3 : Int32))]) (rest := []) (S' := [(.int (own_w 4 [((b1.toInt8.toInt32) &&& (255 : Int32)), ((b2.toInt8.toInt32) &&& (255 : Int32))]))]) (pc' := 166) (rm3_2 l Z a0 hw n0 ad1 (1 : Int32) (3 : Int32) h17 X162.size _ A18 (b1.toInt8.toInt32) (b2.toInt8.toInt32) (by decide) (fun t i ht hi => own_H13 _ _ _ _ _ t i ht hi) (c_i2b _).2 (c_i2b _).2) (hw _ (List.mem_of_getElem? (i := 9) rfl)) (hw _ (List.mem_of_getElem? (i := 10) rfl)) (hw _ (List.mem_of_getElem? (i := 11) rfl)) (hw _ (List.mem_of_getElem? (i := 12) rfl)) (by decide) (by decide) (by decide) rfl rfl (by decide) (by decide) (lenOf pd_1 rfl) rfl (by first | decide | exact Nat.le_of_eq rfl) rfl at_163 rfl rfl ?_
        intro T163 h163 X163 qq163
        rw [show h163 = h17 from qq163] at X163
        refine own_iload X163 (pc' := 168) at_166 rfl rfl ?_
        refine own_icmp_ne X163 (pct := 175) (pc' := 171) at_168 rfl (by decide) (by decide) (fun hc => absurd hc (fun q => q (by (try simp only [own_m8]); exact (own_w0 e159)))) (fun _ => ?_)
        refine own_iconst X163 (v := (1 : Int32)) (pc' := 172) at_171 rfl (by decide) ?_
        refine own_goto X163 (pc' := 176) at_172 (by decide) (by decide) ?_
        subst hΦ
        exact own_retZ X163 at_176 (by decide) (by decide) (by decide) rfl trivial
      · rw [show own_nv (1 : Int32) [(b1 &&& (255 : Int32)), (b2 &&& (255 : Int32))] = (2 : Int32) from by rw [own_nv, e159]; decide]
        refine own_iload X158 (pc' := 128) at_126 rfl rfl ?_
        refine own_callS X158 (W := 2) (argsL := [(.ref ad7), (.int (2 : Int32)), (.int (3 : Int32))]) (rest := [(.ref ad7), (.ref ad7)]) (S' := [(.int (own_nv (2 : Int32) [(b2 &&& (255 : Int32))])), (.ref ad7), (.ref ad7)]) (pc' := 131) (rm1_1 l Z a0 hw n0 ad7 (2 : Int32) (3 : Int32) h17 X158.size _ A17 (b2 &&& (255 : Int32)) (by decide) (by decide) (by decide) rfl rfl (own_mr _)) (hw _ (List.mem_of_getElem? (i := 2) rfl)) (hw _ (List.mem_of_getElem? (i := 3) rfl)) (hw _ (List.mem_of_getElem? (i := 4) rfl)) (hw _ (List.mem_of_getElem? (i := 5) rfl)) (by decide) (by decide) (by decide) rfl rfl (by decide) (by decide) (lenOf pd_0 rfl) rfl (by first | decide | exact Nat.le_of_eq rfl) rfl at_128 rfl rfl ?_
        intro T164 h164 X164 qq164
        rw [show h164 = h17 from qq164] at X164
        rcases own_s1 (b2 &&& (255 : Int32)) with e165 | e165
        · rw [show own_nv (2 : Int32) [(b2 &&& (255 : Int32))] = (-1 : Int32) from by rw [own_nv, e165]; decide]
          refine own_iload X164 (pc' := 133) at_131 rfl rfl ?_
          refine own_callS X164 (W := 1) (argsL := [(.ref ad7), (.int (-1 : Int32)), (.int (3 : Int32))]) (rest := [(.ref ad7)]) (S' := [(.int (-1 : Int32)), (.ref ad7)]) (pc' := 136) (rm1_A l Z a0 hw n0 ad7 (-1 : Int32) (3 : Int32) h17 X164.size (by decide)) (hw _ (List.mem_of_getElem? (i := 2) rfl)) (hw _ (List.mem_of_getElem? (i := 3) rfl)) (hw _ (List.mem_of_getElem? (i := 4) rfl)) (hw _ (List.mem_of_getElem? (i := 5) rfl)) (by decide) (by decide) (by decide) rfl rfl (by decide) (by decide) (lenOf pd_0 rfl) rfl (by first | decide | exact Nat.le_of_eq rfl) rfl at_133 rfl rfl ?_
          intro T166 h166 X166 qq166
          rw [show h166 = h17 from qq166] at X166
          refine own_iload X166 (pc' := 138) at_136 rfl rfl ?_
          refine own_callS X166 (W := 0) (argsL := [(.ref ad7), (.int (-1 : Int32)), (.int (3 : Int32))]) (rest := []) (S' := [(.int (-1 : Int32))]) (pc' := 141) (rm1_A l Z a0 hw n0 ad7 (-1 : Int32) (3 : Int32) h17 X166.size (by decide)) (hw _ (List.mem_of_getElem? (i := 2) rfl)) (hw _ (List.mem_of_getElem? (i := 3) rfl)) (hw _ (List.mem_of_getElem? (i := 4) rfl)) (hw _ (List.mem_of_getElem? (i := 5) rfl)) (by decide) (by decide) (by decide) rfl rfl (by decide) (by decide) (lenOf pd_0 rfl) rfl (by first | decide | exact Nat.le_of_eq rfl) rfl at_138 rfl rfl ?_
          intro T167 h167 X167 qq167
          rw [show h167 = h17 from qq167] at X167
          refine own_istore X167 (pc' := 143) (Ls' := #[.val (.int b0), .val (.int b1), .val (.int b2), .val (.int b3), .val (.int b4), .val (.int ctl), .val (.ref ad1), .val (.ref ad7), .val (.int (1 : Int32)), .val (.int (2 : Int32)), .val (.int (3 : Int32)), .val (.int (-1 : Int32)), .unset]) at_141 rfl rfl ?_
          refine own_iload X167 (pc' := 145) at_143 rfl rfl ?_
          refine own_iload X167 (pc' := 147) at_145 rfl rfl ?_
          refine own_icmp_ne X167 (pct := 154) (pc' := 150) at_147 rfl (by decide) (by decide) (fun _ => ?_) (fun hc => absurd hc (by decide))
          refine own_iconst X167 (v := (0 : Int32)) (pc' := 155) at_154 rfl (by decide) ?_
          refine own_istore X167 (pc' := 157) (Ls' := #[.val (.int b0), .val (.int b1), .val (.int b2), .val (.int b3), .val (.int b4), .val (.int ctl), .val (.ref ad1), .val (.ref ad7), .val (.int (1 : Int32)), .val (.int (2 : Int32)), .val (.int (3 : Int32)), .val (.int (-1 : Int32)), .val (.int (0 : Int32))]) at_155 rfl rfl ?_
          refine own_aload X167 (pc' := 159) at_157 rfl rfl rfl ?_
          refine own_iload X167 (pc' := 161) at_159 rfl rfl ?_
          refine own_iload X167 (pc' := 163) at_161 rfl rfl ?_
          refine own_callS X167 (W := 0) (argsL := [(.ref ad1), (.int (1 : Int32)), (.int (3 : Int32))]) (rest := []) (S' := [(.int (own_w 4 [((b1.toInt8.toInt32) &&& (255 : Int32)), ((b2.toInt8.toInt32) &&& (255 : Int32))]))]) (pc' := 166) (rm3_2 l Z a0 hw n0 ad1 (1 : Int32) (3 : Int32) h17 X167.size _ A18 (b1.toInt8.toInt32) (b2.toInt8.toInt32) (by decide) (fun t i ht hi => own_H13 _ _ _ _ _ t i ht hi) (c_i2b _).2 (c_i2b _).2) (hw _ (List.mem_of_getElem? (i := 9) rfl)) (hw _ (List.mem_of_getElem? (i := 10) rfl)) (hw _ (List.mem_of_getElem? (i := 11) rfl)) (hw _ (List.mem_of_getElem? (i := 12) rfl)) (by decide) (by decide) (by decide) rfl rfl (by decide) (by decide) (lenOf pd_1 rfl) rfl (by first | decide | exact Nat.le_of_eq rfl) rfl at_163 rfl rfl ?_
          intro T168 h168 X168 qq168
          rw [show h168 = h17 from qq168] at X168
          refine own_iload X168 (pc' := 168) at_166 rfl rfl ?_
          refine own_icmp_ne X168 (pct := 175) (pc' := 171) at_168 rfl (by decide) (by decide) (fun hc => absurd hc (fun q => q (by (try simp only [own_m8]); exact (Eq.trans (own_wc e159 (by decide) rfl) (own_w0 e165))))) (fun _ => ?_)
          refine own_iconst X168 (v := (1 : Int32)) (pc' := 172) at_171 rfl (by decide) ?_
          refine own_goto X168 (pc' := 176) at_172 (by decide) (by decide) ?_
          subst hΦ
          exact own_retZ X168 at_176 (by decide) (by decide) (by decide) rfl trivial
        · rw [show own_nv (2 : Int32) [(b2 &&& (255 : Int32))] = (3 : Int32) from by rw [own_nv, e165]; decide]
          refine own_iload X164 (pc' := 133) at_131 rfl rfl ?_
          refine own_callS X164 (W := 1) (argsL := [(.ref ad7), (.int (3 : Int32)), (.int (3 : Int32))]) (rest := [(.ref ad7)]) (S' := [(.int (3 : Int32)), (.ref ad7)]) (pc' := 136) (rm1_B l Z a0 hw n0 ad7 (3 : Int32) (3 : Int32) h17 X164.size (by decide) (by decide)) (hw _ (List.mem_of_getElem? (i := 2) rfl)) (hw _ (List.mem_of_getElem? (i := 3) rfl)) (hw _ (List.mem_of_getElem? (i := 4) rfl)) (hw _ (List.mem_of_getElem? (i := 5) rfl)) (by decide) (by decide) (by decide) rfl rfl (by decide) (by decide) (lenOf pd_0 rfl) rfl (by first | decide | exact Nat.le_of_eq rfl) rfl at_133 rfl rfl ?_
          intro T169 h169 X169 qq169
          rw [show h169 = h17 from qq169] at X169
          refine own_iload X169 (pc' := 138) at_136 rfl rfl ?_
          refine own_callS X169 (W := 0) (argsL := [(.ref ad7), (.int (3 : Int32)), (.int (3 : Int32))]) (rest := []) (S' := [(.int (3 : Int32))]) (pc' := 141) (rm1_B l Z a0 hw n0 ad7 (3 : Int32) (3 : Int32) h17 X169.size (by decide) (by decide)) (hw _ (List.mem_of_getElem? (i := 2) rfl)) (hw _ (List.mem_of_getElem? (i := 3) rfl)) (hw _ (List.mem_of_getElem? (i := 4) rfl)) (hw _ (List.mem_of_getElem? (i := 5) rfl)) (by decide) (by decide) (by decide) rfl rfl (by decide) (by decide) (lenOf pd_0 rfl) rfl (by first | decide | exact Nat.le_of_eq rfl) rfl at_138 rfl rfl ?_
          intro T170 h170 X170 qq170
          rw [show h170 = h17 from qq170] at X170
          refine own_istore X170 (pc' := 143) (Ls' := #[.val (.int b0), .val (.int b1), .val (.int b2), .val (.int b3), .val (.int b4), .val (.int ctl), .val (.ref ad1), .val (.ref ad7), .val (.int (1 : Int32)), .val (.int (2 : Int32)), .val (.int (3 : Int32)), .val (.int (3 : Int32)), .unset]) at_141 rfl rfl ?_
          refine own_iload X170 (pc' := 145) at_143 rfl rfl ?_
          refine own_iload X170 (pc' := 147) at_145 rfl rfl ?_
          refine own_icmp_ne X170 (pct := 154) (pc' := 150) at_147 rfl (by decide) (by decide) (fun hc => absurd hc (by decide)) (fun _ => ?_)
          refine own_iconst X170 (v := (1 : Int32)) (pc' := 151) at_150 rfl (by decide) ?_
          refine own_goto X170 (pc' := 155) at_151 (by decide) (by decide) ?_
          refine own_istore X170 (pc' := 157) (Ls' := #[.val (.int b0), .val (.int b1), .val (.int b2), .val (.int b3), .val (.int b4), .val (.int ctl), .val (.ref ad1), .val (.ref ad7), .val (.int (1 : Int32)), .val (.int (2 : Int32)), .val (.int (3 : Int32)), .val (.int (3 : Int32)), .val (.int (1 : Int32))]) at_155 rfl rfl ?_
          refine own_aload X170 (pc' := 159) at_157 rfl rfl rfl ?_
          refine own_iload X170 (pc' := 161) at_159 rfl rfl ?_
          refine own_iload X170 (pc' := 163) at_161 rfl rfl ?_
          refine own_callS X170 (W := 0) (argsL := [(.ref ad1), (.int (1 : Int32)), (.int (3 : Int32))]) (rest := []) (S' := [(.int (own_w 4 [((b1.toInt8.toInt32) &&& (255 : Int32)), ((b2.toInt8.toInt32) &&& (255 : Int32))]))]) (pc' := 166) (rm3_2 l Z a0 hw n0 ad1 (1 : Int32) (3 : Int32) h17 X170.size _ A18 (b1.toInt8.toInt32) (b2.toInt8.toInt32) (by decide) (fun t i ht hi => own_H13 _ _ _ _ _ t i ht hi) (c_i2b _).2 (c_i2b _).2) (hw _ (List.mem_of_getElem? (i := 9) rfl)) (hw _ (List.mem_of_getElem? (i := 10) rfl)) (hw _ (List.mem_of_getElem? (i := 11) rfl)) (hw _ (List.mem_of_getElem? (i := 12) rfl)) (by decide) (by decide) (by decide) rfl rfl (by decide) (by decide) (lenOf pd_1 rfl) rfl (by first | decide | exact Nat.le_of_eq rfl) rfl at_163 rfl rfl ?_
          intro T171 h171 X171 qq171
          rw [show h171 = h17 from qq171] at X171
          refine own_iload X171 (pc' := 168) at_166 rfl rfl ?_
          refine own_icmp_ne X171 (pct := 175) (pc' := 171) at_168 rfl (by decide) (by decide) (fun hc => absurd hc (fun q => q (by (try simp only [own_m8]); exact (Eq.trans (own_wc e159 (by decide) rfl) (Eq.trans (own_wc e165 (by decide) rfl) (own_wn _)))))) (fun _ => ?_)
          refine own_iconst X171 (v := (1 : Int32)) (pc' := 172) at_171 rfl (by decide) ?_
          refine own_goto X171 (pc' := 176) at_172 (by decide) (by decide) ?_
          subst hΦ
          exact own_retZ X171 at_176 (by decide) (by decide) (by decide) rfl trivial
      · rw [show own_nv (1 : Int32) [(b1 &&& (255 : Int32)), (b2 &&& (255 : Int32))] = (3 : Int32) from by rw [own_nv, e159]; decide]
        refine own_iload X158 (pc' := 128) at_126 rfl rfl ?_
        refine own_callS X158 (W := 2) (argsL := [(.ref ad7), (.int (3 : Int32)), (.int (3 : Int32))]) (rest := [(.ref ad7), (.ref ad7)]) (S' := [(.int (3 : Int32)), (.ref ad7), (.ref ad7)]) (pc' := 131) (rm1_B l Z a0 hw n0 ad7 (3 : Int32) (3 : Int32) h17 X158.size (by decide) (by decide)) (hw _ (List.mem_of_getElem? (i := 2) rfl)) (hw _ (List.mem_of_getElem? (i := 3) rfl)) (hw _ (List.mem_of_getElem? (i := 4) rfl)) (hw _ (List.mem_of_getElem? (i := 5) rfl)) (by decide) (by decide) (by decide) rfl rfl (by decide) (by decide) (lenOf pd_0 rfl) rfl (by first | decide | exact Nat.le_of_eq rfl) rfl at_128 rfl rfl ?_
        intro T172 h172 X172 qq172
        rw [show h172 = h17 from qq172] at X172
        refine own_iload X172 (pc' := 133) at_131 rfl rfl ?_
        refine own_callS X172 (W := 1) (argsL := [(.ref ad7), (.int (3 : Int32)), (.int (3 : Int32))]) (rest := [(.ref ad7)]) (S' := [(.int (3 : Int32)), (.ref ad7)]) (pc' := 136) (rm1_B l Z a0 hw n0 ad7 (3 : Int32) (3 : Int32) h17 X172.size (by decide) (by decide)) (hw _ (List.mem_of_getElem? (i := 2) rfl)) (hw _ (List.mem_of_getElem? (i := 3) rfl)) (hw _ (List.mem_of_getElem? (i := 4) rfl)) (hw _ (List.mem_of_getElem? (i := 5) rfl)) (by decide) (by decide) (by decide) rfl rfl (by decide) (by decide) (lenOf pd_0 rfl) rfl (by first | decide | exact Nat.le_of_eq rfl) rfl at_133 rfl rfl ?_
        intro T173 h173 X173 qq173
        rw [show h173 = h17 from qq173] at X173
        refine own_iload X173 (pc' := 138) at_136 rfl rfl ?_
        refine own_callS X173 (W := 0) (argsL := [(.ref ad7), (.int (3 : Int32)), (.int (3 : Int32))]) (rest := []) (S' := [(.int (3 : Int32))]) (pc' := 141) (rm1_B l Z a0 hw n0 ad7 (3 : Int32) (3 : Int32) h17 X173.size (by decide) (by decide)) (hw _ (List.mem_of_getElem? (i := 2) rfl)) (hw _ (List.mem_of_getElem? (i := 3) rfl)) (hw _ (List.mem_of_getElem? (i := 4) rfl)) (hw _ (List.mem_of_getElem? (i := 5) rfl)) (by decide) (by decide) (by decide) rfl rfl (by decide) (by decide) (lenOf pd_0 rfl) rfl (by first | decide | exact Nat.le_of_eq rfl) rfl at_138 rfl rfl ?_
        intro T174 h174 X174 qq174
        rw [show h174 = h17 from qq174] at X174
        refine own_istore X174 (pc' := 143) (Ls' := #[.val (.int b0), .val (.int b1), .val (.int b2), .val (.int b3), .val (.int b4), .val (.int ctl), .val (.ref ad1), .val (.ref ad7), .val (.int (1 : Int32)), .val (.int (2 : Int32)), .val (.int (3 : Int32)), .val (.int (3 : Int32)), .unset]) at_141 rfl rfl ?_
        refine own_iload X174 (pc' := 145) at_143 rfl rfl ?_
        refine own_iload X174 (pc' := 147) at_145 rfl rfl ?_
        refine own_icmp_ne X174 (pct := 154) (pc' := 150) at_147 rfl (by decide) (by decide) (fun hc => absurd hc (by decide)) (fun _ => ?_)
        refine own_iconst X174 (v := (1 : Int32)) (pc' := 151) at_150 rfl (by decide) ?_
        refine own_goto X174 (pc' := 155) at_151 (by decide) (by decide) ?_
        refine own_istore X174 (pc' := 157) (Ls' := #[.val (.int b0), .val (.int b1), .val (.int b2), .val (.int b3), .val (.int b4), .val (.int ctl), .val (.ref ad1), .val (.ref ad7), .val (.int (1 : Int32)), .val (.int (2 : Int32)), .val (.int (3 : Int32)), .val (.int (3 : Int32)), .val (.int (1 : Int32))]) at_155 rfl rfl ?_
        refine own_aload X174 (pc' := 159) at_157 rfl rfl rfl ?_
        refine own_iload X174 (pc' := 161) at_159 rfl rfl ?_
        refine own_iload X174 (pc' := 163) at_161 rfl rfl ?_
        refine own_callS X174 (W := 0) (argsL := [(.ref ad1), (.int (1 : Int32)), (.int (3 : Int32))]) (rest := []) (S' := [(.int (own_w 4 [((b1.toInt8.toInt32) &&& (255 : Int32)), ((b2.toInt8.toInt32) &&& (255 : Int32))]))]) (pc' := 166) (rm3_2 l Z a0 hw n0 ad1 (1 : Int32) (3 : Int32) h17 X174.size _ A18 (b1.toInt8.toInt32) (b2.toInt8.toInt32) (by decide) (fun t i ht hi => own_H13 _ _ _ _ _ t i ht hi) (c_i2b _).2 (c_i2b _).2) (hw _ (List.mem_of_getElem? (i := 9) rfl)) (hw _ (List.mem_of_getElem? (i := 10) rfl)) (hw _ (List.mem_of_getElem? (i := 11) rfl)) (hw _ (List.mem_of_getElem? (i := 12) rfl)) (by decide) (by decide) (by decide) rfl rfl (by decide) (by decide) (lenOf pd_1 rfl) rfl (by first | decide | exact Nat.le_of_eq rfl) rfl at_163 rfl rfl ?_
        intro T175 h175 X175 qq175
        rw [show h175 = h17 from qq175] at X175
        refine own_iload X175 (pc' := 168) at_166 rfl rfl ?_
        refine own_icmp_ne X175 (pct := 175) (pc' := 171) at_168 rfl (by decide) (by decide) (fun hc => absurd hc (fun q => q (by (try simp only [own_m8]); exact (Eq.trans (own_wc e159 (by decide) rfl) (own_wn _))))) (fun _ => ?_)
        refine own_iconst X175 (v := (1 : Int32)) (pc' := 172) at_171 rfl (by decide) ?_
        refine own_goto X175 (pc' := 176) at_172 (by decide) (by decide) ?_
        subst hΦ
        exact own_retZ X175 at_176 (by decide) (by decide) (by decide) rfl trivial
    · refine own_iload X17 (pc' := 106) at_104 rfl rfl ?_
      refine own_iload X17 (pc' := 108) at_106 rfl rfl ?_
      refine own_iadd X17 (r := (4 : Int32)) (pc' := 109) at_108 rfl (by decide) ?_
      refine own_istore X17 (pc' := 111) (Ls' := #[.val (.int b0), .val (.int b1), .val (.int b2), .val (.int b3), .val (.int b4), .val (.int ctl), .val (.ref ad1), .val (.ref ad7), .val (.int (1 : Int32)), .val (.int (3 : Int32)), .val (.int (4 : Int32)), .unset, .unset]) at_109 rfl rfl ?_
      refine own_aload X17 (pc' := 113) at_111 rfl rfl rfl ?_
      refine own_aload X17 (pc' := 115) at_113 rfl rfl rfl ?_
      refine own_aload X17 (pc' := 117) at_115 rfl rfl rfl ?_
      refine own_aload X17 (pc' := 119) at_117 rfl rfl rfl ?_
      refine own_iload X17 (pc' := 121) at_119 rfl rfl ?_
      refine own_iload X17 (pc' := 123) at_121 rfl rfl ?_
      refine own_callS X17 (W := 3) (argsL := [(.ref ad7), (.int (1 : Int32)), (.int (4 : Int32))]) (rest := [(.ref ad7), (.ref ad7), (.ref ad7)]) (S' := [(.int (own_nv (1 : Int32) [(b1 &&& (255 : Int32)), (b2 &&& (255 : Int32)), (b3 &&& (255 : Int32))])), (.ref ad7), (.ref ad7), (.ref ad7)]) (pc' := 126) (rm1_3 l Z a0 hw n0 ad7 (1 : Int32) (4 : Int32) h17 X17.size _ A17 (b1 &&& (255 : Int32)) (b2 &&& (255 : Int32)) (b3 &&& (255 : Int32)) (by decide) (by decide) (by decide) rfl rfl rfl rfl rfl rfl (own_mr _) (own_mr _) (own_mr _)) (hw _ (List.mem_of_getElem? (i := 2) rfl)) (hw _ (List.mem_of_getElem? (i := 3) rfl)) (hw _ (List.mem_of_getElem? (i := 4) rfl)) (hw _ (List.mem_of_getElem? (i := 5) rfl)) (by decide) (by decide) (by decide) rfl rfl (by decide) (by decide) (lenOf pd_0 rfl) rfl (by first | decide | exact Nat.le_of_eq rfl) rfl at_123 rfl rfl ?_
      intro T176 h176 X176 qq176
      rw [show h176 = h17 from qq176] at X176
      rcases own_s3 (b1 &&& (255 : Int32)) (b2 &&& (255 : Int32)) (b3 &&& (255 : Int32)) with e177 | e177 | e177 | e177
      · rw [show own_nv (1 : Int32) [(b1 &&& (255 : Int32)), (b2 &&& (255 : Int32)), (b3 &&& (255 : Int32))] = (-1 : Int32) from by rw [own_nv, e177]; decide]
        refine own_iload X176 (pc' := 128) at_126 rfl rfl ?_
        refine own_callS X176 (W := 2) (argsL := [(.ref ad7), (.int (-1 : Int32)), (.int (4 : Int32))]) (rest := [(.ref ad7), (.ref ad7)]) (S' := [(.int (-1 : Int32)), (.ref ad7), (.ref ad7)]) (pc' := 131) (rm1_A l Z a0 hw n0 ad7 (-1 : Int32) (4 : Int32) h17 X176.size (by decide)) (hw _ (List.mem_of_getElem? (i := 2) rfl)) (hw _ (List.mem_of_getElem? (i := 3) rfl)) (hw _ (List.mem_of_getElem? (i := 4) rfl)) (hw _ (List.mem_of_getElem? (i := 5) rfl)) (by decide) (by decide) (by decide) rfl rfl (by decide) (by decide) (lenOf pd_0 rfl) rfl (by first | decide | exact Nat.le_of_eq rfl) rfl at_128 rfl rfl ?_
        intro T178 h178 X178 qq178
        rw [show h178 = h17 from qq178] at X178
        refine own_iload X178 (pc' := 133) at_131 rfl rfl ?_
        refine own_callS X178 (W := 1) (argsL := [(.ref ad7), (.int (-1 : Int32)), (.int (4 : Int32))]) (rest := [(.ref ad7)]) (S' := [(.int (-1 : Int32)), (.ref ad7)]) (pc' := 136) (rm1_A l Z a0 hw n0 ad7 (-1 : Int32) (4 : Int32) h17 X178.size (by decide)) (hw _ (List.mem_of_getElem? (i := 2) rfl)) (hw _ (List.mem_of_getElem? (i := 3) rfl)) (hw _ (List.mem_of_getElem? (i := 4) rfl)) (hw _ (List.mem_of_getElem? (i := 5) rfl)) (by decide) (by decide) (by decide) rfl rfl (by decide) (by decide) (lenOf pd_0 rfl) rfl (by first | decide | exact Nat.le_of_eq rfl) rfl at_133 rfl rfl ?_
        intro T179 h179 X179 qq179
        rw [show h179 = h17 from qq179] at X179
        refine own_iload X179 (pc' := 138) at_136 rfl rfl ?_
        refine own_callS X179 (W := 0) (argsL := [(.ref ad7), (.int (-1 : Int32)), (.int (4 : Int32))]) (rest := []) (S' := [(.int (-1 : Int32))]) (pc' := 141) (rm1_A l Z a0 hw n0 ad7 (-1 : Int32) (4 : Int32) h17 X179.size (by decide)) (hw _ (List.mem_of_getElem? (i := 2) rfl)) (hw _ (List.mem_of_getElem? (i := 3) rfl)) (hw _ (List.mem_of_getElem? (i := 4) rfl)) (hw _ (List.mem_of_getElem? (i := 5) rfl)) (by decide) (by decide) (by decide) rfl rfl (by decide) (by decide) (lenOf pd_0 rfl) rfl (by first | decide | exact Nat.le_of_eq rfl) rfl at_138 rfl rfl ?_
        intro T180 h180 X180 qq180
        rw [show h180 = h17 from qq180] at X180
        refine own_istore X180 (pc' := 143) (Ls' := #[.val (.int b0), .val (.int b1), .val (.int b2), .val (.int b3), .val (.int b4), .val (.int ctl), .val (.ref ad1), .val (.ref ad7), .val (.int (1 : Int32)), .val (.int (3 : Int32)), .val (.int (4 : Int32)), .val (.int (-1 : Int32)), .unset]) at_141 rfl rfl ?_
        refine own_iload X180 (pc' := 145) at_143 rfl rfl ?_
        refine own_iload X180 (pc' := 147) at_145 rfl rfl ?_
        refine own_icmp_ne X180 (pct := 154) (pc' := 150) at_147 rfl (by decide) (by decide) (fun _ => ?_) (fun hc => absurd hc (by decide))
        refine own_iconst X180 (v := (0 : Int32)) (pc' := 155) at_154 rfl (by decide) ?_
        refine own_istore X180 (pc' := 157) (Ls' := #[.val (.int b0), .val (.int b1), .val (.int b2), .val (.int b3), .val (.int b4), .val (.int ctl), .val (.ref ad1), .val (.ref ad7), .val (.int (1 : Int32)), .val (.int (3 : Int32)), .val (.int (4 : Int32)), .val (.int (-1 : Int32)), .val (.int (0 : Int32))]) at_155 rfl rfl ?_
        refine own_aload X180 (pc' := 159) at_157 rfl rfl rfl ?_
        refine own_iload X180 (pc' := 161) at_159 rfl rfl ?_
        refine own_iload X180 (pc' := 163) at_161 rfl rfl ?_
        refine own_callS X180 (W := 0) (argsL := [(.ref ad1), (.int (1 : Int32)), (.int (4 : Int32))]) (rest := []) (S' := [(.int (own_w 4 [((b1.toInt8.toInt32) &&& (255 : Int32)), ((b2.toInt8.toInt32) &&& (255 : Int32)), ((b3.toInt8.toInt32) &&& (255 : Int32))]))]) (pc' := 166) (rm3_3 l Z a0 hw n0 ad1 (1 : Int32) (4 : Int32) h17 X180.size _ A18 (b1.toInt8.toInt32) (b2.toInt8.toInt32) (b3.toInt8.toInt32) (by decide) (fun t i ht hi => own_H14 _ _ _ _ _ t i ht hi) (c_i2b _).2 (c_i2b _).2 (c_i2b _).2) (hw _ (List.mem_of_getElem? (i := 9) rfl)) (hw _ (List.mem_of_getElem? (i := 10) rfl)) (hw _ (List.mem_of_getElem? (i := 11) rfl)) (hw _ (List.mem_of_getElem? (i := 12) rfl)) (by decide) (by decide) (by decide) rfl rfl (by decide) (by decide) (lenOf pd_1 rfl) rfl (by first | decide | exact Nat.le_of_eq rfl) rfl at_163 rfl rfl ?_
        intro T181 h181 X181 qq181
        rw [show h181 = h17 from qq181] at X181
        refine own_iload X181 (pc' := 168) at_166 rfl rfl ?_
        refine own_icmp_ne X181 (pct := 175) (pc' := 171) at_168 rfl (by decide) (by decide) (fun hc => absurd hc (fun q => q (by (try simp only [own_m8]); exact (own_w0 e177)))) (fun _ => ?_)
        refine own_iconst X181 (v := (1 : Int32)) (pc' := 172) at_171 rfl (by decide) ?_
        refine own_goto X181 (pc' := 176) at_172 (by decide) (by decide) ?_
        subst hΦ
        exact own_retZ X181 at_176 (by decide) (by decide) (by decide) rfl trivial
      · rw [show own_nv (1 : Int32) [(b1 &&& (255 : Int32)), (b2 &&& (255 : Int32)), (b3 &&& (255 : Int32))] = (2 : Int32) from by rw [own_nv, e177]; decide]
        refine own_iload X176 (pc' := 128) at_126 rfl rfl ?_
        refine own_callS X176 (W := 2) (argsL := [(.ref ad7), (.int (2 : Int32)), (.int (4 : Int32))]) (rest := [(.ref ad7), (.ref ad7)]) (S' := [(.int (own_nv (2 : Int32) [(b2 &&& (255 : Int32)), (b3 &&& (255 : Int32))])), (.ref ad7), (.ref ad7)]) (pc' := 131) (rm1_2 l Z a0 hw n0 ad7 (2 : Int32) (4 : Int32) h17 X176.size _ A17 (b2 &&& (255 : Int32)) (b3 &&& (255 : Int32)) (by decide) (by decide) (by decide) rfl rfl rfl rfl (own_mr _) (own_mr _)) (hw _ (List.mem_of_getElem? (i := 2) rfl)) (hw _ (List.mem_of_getElem? (i := 3) rfl)) (hw _ (List.mem_of_getElem? (i := 4) rfl)) (hw _ (List.mem_of_getElem? (i := 5) rfl)) (by decide) (by decide) (by decide) rfl rfl (by decide) (by decide) (lenOf pd_0 rfl) rfl (by first | decide | exact Nat.le_of_eq rfl) rfl at_128 rfl rfl ?_
        intro T182 h182 X182 qq182
        rw [show h182 = h17 from qq182] at X182
        rcases own_s2 (b2 &&& (255 : Int32)) (b3 &&& (255 : Int32)) with e183 | e183 | e183
        · rw [show own_nv (2 : Int32) [(b2 &&& (255 : Int32)), (b3 &&& (255 : Int32))] = (-1 : Int32) from by rw [own_nv, e183]; decide]
          refine own_iload X182 (pc' := 133) at_131 rfl rfl ?_
          refine own_callS X182 (W := 1) (argsL := [(.ref ad7), (.int (-1 : Int32)), (.int (4 : Int32))]) (rest := [(.ref ad7)]) (S' := [(.int (-1 : Int32)), (.ref ad7)]) (pc' := 136) (rm1_A l Z a0 hw n0 ad7 (-1 : Int32) (4 : Int32) h17 X182.size (by decide)) (hw _ (List.mem_of_getElem? (i := 2) rfl)) (hw _ (List.mem_of_getElem? (i := 3) rfl)) (hw _ (List.mem_of_getElem? (i := 4) rfl)) (hw _ (List.mem_of_getElem? (i := 5) rfl)) (by decide) (by decide) (by decide) rfl rfl (by decide) (by decide) (lenOf pd_0 rfl) rfl (by first | decide | exact Nat.le_of_eq rfl) rfl at_133 rfl rfl ?_
          intro T184 h184 X184 qq184
          rw [show h184 = h17 from qq184] at X184
          refine own_iload X184 (pc' := 138) at_136 rfl rfl ?_
          refine own_callS X184 (W := 0) (argsL := [(.ref ad7), (.int (-1 : Int32)), (.int (4 : Int32))]) (rest := []) (S' := [(.int (-1 : Int32))]) (pc' := 141) (rm1_A l Z a0 hw n0 ad7 (-1 : Int32) (4 : Int32) h17 X184.size (by decide)) (hw _ (List.mem_of_getElem? (i := 2) rfl)) (hw _ (List.mem_of_getElem? (i := 3) rfl)) (hw _ (List.mem_of_getElem? (i := 4) rfl)) (hw _ (List.mem_of_getElem? (i := 5) rfl)) (by decide) (by decide) (by decide) rfl rfl (by decide) (by decide) (lenOf pd_0 rfl) rfl (by first | decide | exact Nat.le_of_eq rfl) rfl at_138 rfl rfl ?_
          intro T185 h185 X185 qq185
          rw [show h185 = h17 from qq185] at X185
          refine own_istore X185 (pc' := 143) (Ls' := #[.val (.int b0), .val (.int b1), .val (.int b2), .val (.int b3), .val (.int b4), .val (.int ctl), .val (.ref ad1), .val (.ref ad7), .val (.int (1 : Int32)), .val (.int (3 : Int32)), .val (.int (4 : Int32)), .val (.int (-1 : Int32)), .unset]) at_141 rfl rfl ?_
          refine own_iload X185 (pc' := 145) at_143 rfl rfl ?_
          refine own_iload X185 (pc' := 147) at_145 rfl rfl ?_
          refine own_icmp_ne X185 (pct := 154) (pc' := 150) at_147 rfl (by decide) (by decide) (fun _ => ?_) (fun hc => absurd hc (by decide))
          refine own_iconst X185 (v := (0 : Int32)) (pc' := 155) at_154 rfl (by decide) ?_
          refine own_istore X185 (pc' := 157) (Ls' := #[.val (.int b0), .val (.int b1), .val (.int b2), .val (.int b3), .val (.int b4), .val (.int ctl), .val (.ref ad1), .val (.ref ad7), .val (.int (1 : Int32)), .val (.int (3 : Int32)), .val (.int (4 : Int32)), .val (.int (-1 : Int32)), .val (.int (0 : Int32))]) at_155 rfl rfl ?_
          refine own_aload X185 (pc' := 159) at_157 rfl rfl rfl ?_
          refine own_iload X185 (pc' := 161) at_159 rfl rfl ?_
          refine own_iload X185 (pc' := 163) at_161 rfl rfl ?_
          refine own_callS X185 (W := 0) (argsL := [(.ref ad1), (.int (1 : Int32)), (.int (4 : Int32))]) (rest := []) (S' := [(.int (own_w 4 [((b1.toInt8.toInt32) &&& (255 : Int32)), ((b2.toInt8.toInt32) &&& (255 : Int32)), ((b3.toInt8.toInt32) &&& (255 : Int32))]))]) (pc' := 166) (rm3_3 l Z a0 hw n0 ad1 (1 : Int32) (4 : Int32) h17 X185.size _ A18 (b1.toInt8.toInt32) (b2.toInt8.toInt32) (b3.toInt8.toInt32) (by decide) (fun t i ht hi => own_H14 _ _ _ _ _ t i ht hi) (c_i2b _).2 (c_i2b _).2 (c_i2b _).2) (hw _ (List.mem_of_getElem? (i := 9) rfl)) (hw _ (List.mem_of_getElem? (i := 10) rfl)) (hw _ (List.mem_of_getElem? (i := 11) rfl)) (hw _ (List.mem_of_getElem? (i := 12) rfl)) (by decide) (by decide) (by decide) rfl rfl (by decide) (by decide) (lenOf pd_1 rfl) rfl (by first | decide | exact Nat.le_of_eq rfl) rfl at_163 rfl rfl ?_
          intro T186 h186 X186 qq186
          rw [show h186 = h17 from qq186] at X186
          refine own_iload X186 (pc' := 168) at_166 rfl rfl ?_
          refine own_icmp_ne X186 (pct := 175) (pc' := 171) at_168 rfl (by decide) (by decide) (fun hc => absurd hc (fun q => q (by (try simp only [own_m8]); exact (Eq.trans (own_wc e177 (by decide) rfl) (own_w0 e183))))) (fun _ => ?_)
          refine own_iconst X186 (v := (1 : Int32)) (pc' := 172) at_171 rfl (by decide) ?_
          refine own_goto X186 (pc' := 176) at_172 (by decide) (by decide) ?_
          subst hΦ
          exact own_retZ X186 at_176 (by decide) (by decide) (by decide) rfl trivial
        · rw [show own_nv (2 : Int32) [(b2 &&& (255 : Int32)), (b3 &&& (255 : Int32))] = (3 : Int32) from by rw [own_nv, e183]; decide]
          refine own_iload X182 (pc' := 133) at_131 rfl rfl ?_
          refine own_callS X182 (W := 1) (argsL := [(.ref ad7), (.int (3 : Int32)), (.int (4 : Int32))]) (rest := [(.ref ad7)]) (S' := [(.int (own_nv (3 : Int32) [(b3 &&& (255 : Int32))])), (.ref ad7)]) (pc' := 136) (rm1_1 l Z a0 hw n0 ad7 (3 : Int32) (4 : Int32) h17 X182.size _ A17 (b3 &&& (255 : Int32)) (by decide) (by decide) (by decide) rfl rfl (own_mr _)) (hw _ (List.mem_of_getElem? (i := 2) rfl)) (hw _ (List.mem_of_getElem? (i := 3) rfl)) (hw _ (List.mem_of_getElem? (i := 4) rfl)) (hw _ (List.mem_of_getElem? (i := 5) rfl)) (by decide) (by decide) (by decide) rfl rfl (by decide) (by decide) (lenOf pd_0 rfl) rfl (by first | decide | exact Nat.le_of_eq rfl) rfl at_133 rfl rfl ?_
          intro T187 h187 X187 qq187
          rw [show h187 = h17 from qq187] at X187
          rcases own_s1 (b3 &&& (255 : Int32)) with e188 | e188
          · rw [show own_nv (3 : Int32) [(b3 &&& (255 : Int32))] = (-1 : Int32) from by rw [own_nv, e188]; decide]
            refine own_iload X187 (pc' := 138) at_136 rfl rfl ?_
            refine own_callS X187 (W := 0) (argsL := [(.ref ad7), (.int (-1 : Int32)), (.int (4 : Int32))]) (rest := []) (S' := [(.int (-1 : Int32))]) (pc' := 141) (rm1_A l Z a0 hw n0 ad7 (-1 : Int32) (4 : Int32) h17 X187.size (by decide)) (hw _ (List.mem_of_getElem? (i := 2) rfl)) (hw _ (List.mem_of_getElem? (i := 3) rfl)) (hw _ (List.mem_of_getElem? (i := 4) rfl)) (hw _ (List.mem_of_getElem? (i := 5) rfl)) (by decide) (by decide) (by decide) rfl rfl (by decide) (by decide) (lenOf pd_0 rfl) rfl (by first | decide | exact Nat.le_of_eq rfl) rfl at_138 rfl rfl ?_
            intro T189 h189 X189 qq189
            rw [show h189 = h17 from qq189] at X189
            refine own_istore X189 (pc' := 143) (Ls' := #[.val (.int b0), .val (.int b1), .val (.int b2), .val (.int b3), .val (.int b4), .val (.int ctl), .val (.ref ad1), .val (.ref ad7), .val (.int (1 : Int32)), .val (.int (3 : Int32)), .val (.int (4 : Int32)), .val (.int (-1 : Int32)), .unset]) at_141 rfl rfl ?_
            refine own_iload X189 (pc' := 145) at_143 rfl rfl ?_
            refine own_iload X189 (pc' := 147) at_145 rfl rfl ?_
            refine own_icmp_ne X189 (pct := 154) (pc' := 150) at_147 rfl (by decide) (by decide) (fun _ => ?_) (fun hc => absurd hc (by decide))
            refine own_iconst X189 (v := (0 : Int32)) (pc' := 155) at_154 rfl (by decide) ?_
            refine own_istore X189 (pc' := 157) (Ls' := #[.val (.int b0), .val (.int b1), .val (.int b2), .val (.int b3), .val (.int b4), .val (.int ctl), .val (.ref ad1), .val (.ref ad7), .val (.int (1 : Int32)), .val (.int (3 : Int32)), .val (.int (4 : Int32)), .val (.int (-1 : Int32)), .val (.int (0 : Int32))]) at_155 rfl rfl ?_
            refine own_aload X189 (pc' := 159) at_157 rfl rfl rfl ?_
            refine own_iload X189 (pc' := 161) at_159 rfl rfl ?_
            refine own_iload X189 (pc' := 163) at_161 rfl rfl ?_
            refine own_callS X189 (W := 0) (argsL := [(.ref ad1), (.int (1 : Int32)), (.int (4 : Int32))]) (rest := []) (S' := [(.int (own_w 4 [((b1.toInt8.toInt32) &&& (255 : Int32)), ((b2.toInt8.toInt32) &&& (255 : Int32)), ((b3.toInt8.toInt32) &&& (255 : Int32))]))]) (pc' := 166) (rm3_3 l Z a0 hw n0 ad1 (1 : Int32) (4 : Int32) h17 X189.size _ A18 (b1.toInt8.toInt32) (b2.toInt8.toInt32) (b3.toInt8.toInt32) (by decide) (fun t i ht hi => own_H14 _ _ _ _ _ t i ht hi) (c_i2b _).2 (c_i2b _).2 (c_i2b _).2) (hw _ (List.mem_of_getElem? (i := 9) rfl)) (hw _ (List.mem_of_getElem? (i := 10) rfl)) (hw _ (List.mem_of_getElem? (i := 11) rfl)) (hw _ (List.mem_of_getElem? (i := 12) rfl)) (by decide) (by decide) (by decide) rfl rfl (by decide) (by decide) (lenOf pd_1 rfl) rfl (by first | decide | exact Nat.le_of_eq rfl) rfl at_163 rfl rfl ?_
            intro T190 h190 X190 qq190
            rw [show h190 = h17 from qq190] at X190
            refine own_iload X190 (pc' := 168) at_166 rfl rfl ?_
            refine own_icmp_ne X190 (pct := 175) (pc' := 171) at_168 rfl (by decide) (by decide) (fun hc => absurd hc (fun q => q (by (try simp only [own_m8]); exact (Eq.trans (own_wc e177 (by decide) rfl) (Eq.trans (own_wc e183 (by decide) rfl) (own_w0 e188)))))) (fun _ => ?_)
            refine own_iconst X190 (v := (1 : Int32)) (pc' := 172) at_171 rfl (by decide) ?_
            refine own_goto X190 (pc' := 176) at_172 (by decide) (by decide) ?_
            subst hΦ
            exact own_retZ X190 at_176 (by decide) (by decide) (by decide) rfl trivial
          · rw [show own_nv (3 : Int32) [(b3 &&& (255 : Int32))] = (4 : Int32) from by rw [own_nv, e188]; decide]
            refine own_iload X187 (pc' := 138) at_136 rfl rfl ?_
            refine own_callS X187 (W := 0) (argsL := [(.ref ad7), (.int (4 : Int32)), (.int (4 : Int32))]) (rest := []) (S' := [(.int (4 : Int32))]) (pc' := 141) (rm1_B l Z a0 hw n0 ad7 (4 : Int32) (4 : Int32) h17 X187.size (by decide) (by decide)) (hw _ (List.mem_of_getElem? (i := 2) rfl)) (hw _ (List.mem_of_getElem? (i := 3) rfl)) (hw _ (List.mem_of_getElem? (i := 4) rfl)) (hw _ (List.mem_of_getElem? (i := 5) rfl)) (by decide) (by decide) (by decide) rfl rfl (by decide) (by decide) (lenOf pd_0 rfl) rfl (by first | decide | exact Nat.le_of_eq rfl) rfl at_138 rfl rfl ?_
            intro T191 h191 X191 qq191
            rw [show h191 = h17 from qq191] at X191
            refine own_istore X191 (pc' := 143) (Ls' := #[.val (.int b0), .val (.int b1), .val (.int b2), .val (.int b3), .val (.int b4), .val (.int ctl), .val (.ref ad1), .val (.ref ad7), .val (.int (1 : Int32)), .val (.int (3 : Int32)), .val (.int (4 : Int32)), .val (.int (4 : Int32)), .unset]) at_141 rfl rfl ?_
            refine own_iload X191 (pc' := 145) at_143 rfl rfl ?_
            refine own_iload X191 (pc' := 147) at_145 rfl rfl ?_
            refine own_icmp_ne X191 (pct := 154) (pc' := 150) at_147 rfl (by decide) (by decide) (fun hc => absurd hc (by decide)) (fun _ => ?_)
            refine own_iconst X191 (v := (1 : Int32)) (pc' := 151) at_150 rfl (by decide) ?_
            refine own_goto X191 (pc' := 155) at_151 (by decide) (by decide) ?_
            refine own_istore X191 (pc' := 157) (Ls' := #[.val (.int b0), .val (.int b1), .val (.int b2), .val (.int b3), .val (.int b4), .val (.int ctl), .val (.ref ad1), .val (.ref ad7), .val (.int (1 : Int32)), .val (.int (3 : Int32)), .val (.int (4 : Int32)), .val (.int (4 : Int32)), .val (.int (1 : Int32))]) at_155 rfl rfl ?_
            refine own_aload X191 (pc' := 159) at_157 rfl rfl rfl ?_
            refine own_iload X191 (pc' := 161) at_159 rfl rfl ?_
            refine own_iload X191 (pc' := 163) at_161 rfl rfl ?_
            refine own_callS X191 (W := 0) (argsL := [(.ref ad1), (.int (1 : Int32)), (.int (4 : Int32))]) (rest := []) (S' := [(.int (own_w 4 [((b1.toInt8.toInt32) &&& (255 : Int32)), ((b2.toInt8.toInt32) &&& (255 : Int32)), ((b3.toInt8.toInt32) &&& (255 : Int32))]))]) (pc' := 166) (rm3_3 l Z a0 hw n0 ad1 (1 : Int32) (4 : Int32) h17 X191.size _ A18 (b1.toInt8.toInt32) (b2.toInt8.toInt32) (b3.toInt8.toInt32) (by decide) (fun t i ht hi => own_H14 _ _ _ _ _ t i ht hi) (c_i2b _).2 (c_i2b _).2 (c_i2b _).2) (hw _ (List.mem_of_getElem? (i := 9) rfl)) (hw _ (List.mem_of_getElem? (i := 10) rfl)) (hw _ (List.mem_of_getElem? (i := 11) rfl)) (hw _ (List.mem_of_getElem? (i := 12) rfl)) (by decide) (by decide) (by decide) rfl rfl (by decide) (by decide) (lenOf pd_1 rfl) rfl (by first | decide | exact Nat.le_of_eq rfl) rfl at_163 rfl rfl ?_
            intro T192 h192 X192 qq192
            rw [show h192 = h17 from qq192] at X192
            refine own_iload X192 (pc' := 168) at_166 rfl rfl ?_
            refine own_icmp_ne X192 (pct := 175) (pc' := 171) at_168 rfl (by decide) (by decide) (fun hc => absurd hc (fun q => q (by (try simp only [own_m8]); exact (Eq.trans (own_wc e177 (by decide) rfl) (Eq.trans (own_wc e183 (by decide) rfl) (Eq.trans (own_wc e188 (by decide) rfl) (own_wn _))))))) (fun _ => ?_)
            refine own_iconst X192 (v := (1 : Int32)) (pc' := 172) at_171 rfl (by decide) ?_
            refine own_goto X192 (pc' := 176) at_172 (by decide) (by decide) ?_
            subst hΦ
            exact own_retZ X192 at_176 (by decide) (by decide) (by decide) rfl trivial
        · rw [show own_nv (2 : Int32) [(b2 &&& (255 : Int32)), (b3 &&& (255 : Int32))] = (4 : Int32) from by rw [own_nv, e183]; decide]
          refine own_iload X182 (pc' := 133) at_131 rfl rfl ?_
          refine own_callS X182 (W := 1) (argsL := [(.ref ad7), (.int (4 : Int32)), (.int (4 : Int32))]) (rest := [(.ref ad7)]) (S' := [(.int (4 : Int32)), (.ref ad7)]) (pc' := 136) (rm1_B l Z a0 hw n0 ad7 (4 : Int32) (4 : Int32) h17 X182.size (by decide) (by decide)) (hw _ (List.mem_of_getElem? (i := 2) rfl)) (hw _ (List.mem_of_getElem? (i := 3) rfl)) (hw _ (List.mem_of_getElem? (i := 4) rfl)) (hw _ (List.mem_of_getElem? (i := 5) rfl)) (by decide) (by decide) (by decide) rfl rfl (by decide) (by decide) (lenOf pd_0 rfl) rfl (by first | decide | exact Nat.le_of_eq rfl) rfl at_133 rfl rfl ?_
          intro T193 h193 X193 qq193
          rw [show h193 = h17 from qq193] at X193
          refine own_iload X193 (pc' := 138) at_136 rfl rfl ?_
          refine own_callS X193 (W := 0) (argsL := [(.ref ad7), (.int (4 : Int32)), (.int (4 : Int32))]) (rest := []) (S' := [(.int (4 : Int32))]) (pc' := 141) (rm1_B l Z a0 hw n0 ad7 (4 : Int32) (4 : Int32) h17 X193.size (by decide) (by decide)) (hw _ (List.mem_of_getElem? (i := 2) rfl)) (hw _ (List.mem_of_getElem? (i := 3) rfl)) (hw _ (List.mem_of_getElem? (i := 4) rfl)) (hw _ (List.mem_of_getElem? (i := 5) rfl)) (by decide) (by decide) (by decide) rfl rfl (by decide) (by decide) (lenOf pd_0 rfl) rfl (by first | decide | exact Nat.le_of_eq rfl) rfl at_138 rfl rfl ?_
          intro T194 h194 X194 qq194
          rw [show h194 = h17 from qq194] at X194
          refine own_istore X194 (pc' := 143) (Ls' := #[.val (.int b0), .val (.int b1), .val (.int b2), .val (.int b3), .val (.int b4), .val (.int ctl), .val (.ref ad1), .val (.ref ad7), .val (.int (1 : Int32)), .val (.int (3 : Int32)), .val (.int (4 : Int32)), .val (.int (4 : Int32)), .unset]) at_141 rfl rfl ?_
          refine own_iload X194 (pc' := 145) at_143 rfl rfl ?_
          refine own_iload X194 (pc' := 147) at_145 rfl rfl ?_
          refine own_icmp_ne X194 (pct := 154) (pc' := 150) at_147 rfl (by decide) (by decide) (fun hc => absurd hc (by decide)) (fun _ => ?_)
          refine own_iconst X194 (v := (1 : Int32)) (pc' := 151) at_150 rfl (by decide) ?_
          refine own_goto X194 (pc' := 155) at_151 (by decide) (by decide) ?_
          refine own_istore X194 (pc' := 157) (Ls' := #[.val (.int b0), .val (.int b1), .val (.int b2), .val (.int b3), .val (.int b4), .val (.int ctl), .val (.ref ad1), .val (.ref ad7), .val (.int (1 : Int32)), .val (.int (3 : Int32)), .val (.int (4 : Int32)), .val (.int (4 : Int32)), .val (.int (1 : Int32))]) at_155 rfl rfl ?_
          refine own_aload X194 (pc' := 159) at_157 rfl rfl rfl ?_
          refine own_iload X194 (pc' := 161) at_159 rfl rfl ?_
          refine own_iload X194 (pc' := 163) at_161 rfl rfl ?_
          refine own_callS X194 (W := 0) (argsL := [(.ref ad1), (.int (1 : Int32)), (.int (4 : Int32))]) (rest := []) (S' := [(.int (own_w 4 [((b1.toInt8.toInt32) &&& (255 : Int32)), ((b2.toInt8.toInt32) &&& (255 : Int32)), ((b3.toInt8.toInt32) &&& (255 : Int32))]))]) (pc' := 166) (rm3_3 l Z a0 hw n0 ad1 (1 : Int32) (4 : Int32) h17 X194.size _ A18 (b1.toInt8.toInt32) (b2.toInt8.toInt32) (b3.toInt8.toInt32) (by decide) (fun t i ht hi => own_H14 _ _ _ _ _ t i ht hi) (c_i2b _).2 (c_i2b _).2 (c_i2b _).2) (hw _ (List.mem_of_getElem? (i := 9) rfl)) (hw _ (List.mem_of_getElem? (i := 10) rfl)) (hw _ (List.mem_of_getElem? (i := 11) rfl)) (hw _ (List.mem_of_getElem? (i := 12) rfl)) (by decide) (by decide) (by decide) rfl rfl (by decide) (by decide) (lenOf pd_1 rfl) rfl (by first | decide | exact Nat.le_of_eq rfl) rfl at_163 rfl rfl ?_
          intro T195 h195 X195 qq195
          rw [show h195 = h17 from qq195] at X195
          refine own_iload X195 (pc' := 168) at_166 rfl rfl ?_
          refine own_icmp_ne X195 (pct := 175) (pc' := 171) at_168 rfl (by decide) (by decide) (fun hc => absurd hc (fun q => q (by (try simp only [own_m8]); exact (Eq.trans (own_wc e177 (by decide) rfl) (Eq.trans (own_wc e183 (by decide) rfl) (own_wn _)))))) (fun _ => ?_)
          refine own_iconst X195 (v := (1 : Int32)) (pc' := 172) at_171 rfl (by decide) ?_
          refine own_goto X195 (pc' := 176) at_172 (by decide) (by decide) ?_
          subst hΦ
          exact own_retZ X195 at_176 (by decide) (by decide) (by decide) rfl trivial
      · rw [show own_nv (1 : Int32) [(b1 &&& (255 : Int32)), (b2 &&& (255 : Int32)), (b3 &&& (255 : Int32))] = (3 : Int32) from by rw [own_nv, e177]; decide]
        refine own_iload X176 (pc' := 128) at_126 rfl rfl ?_
        refine own_callS X176 (W := 2) (argsL := [(.ref ad7), (.int (3 : Int32)), (.int (4 : Int32))]) (rest := [(.ref ad7), (.ref ad7)]) (S' := [(.int (own_nv (3 : Int32) [(b3 &&& (255 : Int32))])), (.ref ad7), (.ref ad7)]) (pc' := 131) (rm1_1 l Z a0 hw n0 ad7 (3 : Int32) (4 : Int32) h17 X176.size _ A17 (b3 &&& (255 : Int32)) (by decide) (by decide) (by decide) rfl rfl (own_mr _)) (hw _ (List.mem_of_getElem? (i := 2) rfl)) (hw _ (List.mem_of_getElem? (i := 3) rfl)) (hw _ (List.mem_of_getElem? (i := 4) rfl)) (hw _ (List.mem_of_getElem? (i := 5) rfl)) (by decide) (by decide) (by decide) rfl rfl (by decide) (by decide) (lenOf pd_0 rfl) rfl (by first | decide | exact Nat.le_of_eq rfl) rfl at_128 rfl rfl ?_
        intro T196 h196 X196 qq196
        rw [show h196 = h17 from qq196] at X196
        rcases own_s1 (b3 &&& (255 : Int32)) with e197 | e197
        · rw [show own_nv (3 : Int32) [(b3 &&& (255 : Int32))] = (-1 : Int32) from by rw [own_nv, e197]; decide]
          refine own_iload X196 (pc' := 133) at_131 rfl rfl ?_
          refine own_callS X196 (W := 1) (argsL := [(.ref ad7), (.int (-1 : Int32)), (.int (4 : Int32))]) (rest := [(.ref ad7)]) (S' := [(.int (-1 : Int32)), (.ref ad7)]) (pc' := 136) (rm1_A l Z a0 hw n0 ad7 (-1 : Int32) (4 : Int32) h17 X196.size (by decide)) (hw _ (List.mem_of_getElem? (i := 2) rfl)) (hw _ (List.mem_of_getElem? (i := 3) rfl)) (hw _ (List.mem_of_getElem? (i := 4) rfl)) (hw _ (List.mem_of_getElem? (i := 5) rfl)) (by decide) (by decide) (by decide) rfl rfl (by decide) (by decide) (lenOf pd_0 rfl) rfl (by first | decide | exact Nat.le_of_eq rfl) rfl at_133 rfl rfl ?_
          intro T198 h198 X198 qq198
          rw [show h198 = h17 from qq198] at X198
          refine own_iload X198 (pc' := 138) at_136 rfl rfl ?_
          refine own_callS X198 (W := 0) (argsL := [(.ref ad7), (.int (-1 : Int32)), (.int (4 : Int32))]) (rest := []) (S' := [(.int (-1 : Int32))]) (pc' := 141) (rm1_A l Z a0 hw n0 ad7 (-1 : Int32) (4 : Int32) h17 X198.size (by decide)) (hw _ (List.mem_of_getElem? (i := 2) rfl)) (hw _ (List.mem_of_getElem? (i := 3) rfl)) (hw _ (List.mem_of_getElem? (i := 4) rfl)) (hw _ (List.mem_of_getElem? (i := 5) rfl)) (by decide) (by decide) (by decide) rfl rfl (by decide) (by decide) (lenOf pd_0 rfl) rfl (by first | decide | exact Nat.le_of_eq rfl) rfl at_138 rfl rfl ?_
          intro T199 h199 X199 qq199
          rw [show h199 = h17 from qq199] at X199
          refine own_istore X199 (pc' := 143) (Ls' := #[.val (.int b0), .val (.int b1), .val (.int b2), .val (.int b3), .val (.int b4), .val (.int ctl), .val (.ref ad1), .val (.ref ad7), .val (.int (1 : Int32)), .val (.int (3 : Int32)), .val (.int (4 : Int32)), .val (.int (-1 : Int32)), .unset]) at_141 rfl rfl ?_
          refine own_iload X199 (pc' := 145) at_143 rfl rfl ?_
          refine own_iload X199 (pc' := 147) at_145 rfl rfl ?_
          refine own_icmp_ne X199 (pct := 154) (pc' := 150) at_147 rfl (by decide) (by decide) (fun _ => ?_) (fun hc => absurd hc (by decide))
          refine own_iconst X199 (v := (0 : Int32)) (pc' := 155) at_154 rfl (by decide) ?_
          refine own_istore X199 (pc' := 157) (Ls' := #[.val (.int b0), .val (.int b1), .val (.int b2), .val (.int b3), .val (.int b4), .val (.int ctl), .val (.ref ad1), .val (.ref ad7), .val (.int (1 : Int32)), .val (.int (3 : Int32)), .val (.int (4 : Int32)), .val (.int (-1 : Int32)), .val (.int (0 : Int32))]) at_155 rfl rfl ?_
          refine own_aload X199 (pc' := 159) at_157 rfl rfl rfl ?_
          refine own_iload X199 (pc' := 161) at_159 rfl rfl ?_
          refine own_iload X199 (pc' := 163) at_161 rfl rfl ?_
          refine own_callS X199 (W := 0) (argsL := [(.ref ad1), (.int (1 : Int32)), (.int (4 : Int32))]) (rest := []) (S' := [(.int (own_w 4 [((b1.toInt8.toInt32) &&& (255 : Int32)), ((b2.toInt8.toInt32) &&& (255 : Int32)), ((b3.toInt8.toInt32) &&& (255 : Int32))]))]) (pc' := 166) (rm3_3 l Z a0 hw n0 ad1 (1 : Int32) (4 : Int32) h17 X199.size _ A18 (b1.toInt8.toInt32) (b2.toInt8.toInt32) (b3.toInt8.toInt32) (by decide) (fun t i ht hi => own_H14 _ _ _ _ _ t i ht hi) (c_i2b _).2 (c_i2b _).2 (c_i2b _).2) (hw _ (List.mem_of_getElem? (i := 9) rfl)) (hw _ (List.mem_of_getElem? (i := 10) rfl)) (hw _ (List.mem_of_getElem? (i := 11) rfl)) (hw _ (List.mem_of_getElem? (i := 12) rfl)) (by decide) (by decide) (by decide) rfl rfl (by decide) (by decide) (lenOf pd_1 rfl) rfl (by first | decide | exact Nat.le_of_eq rfl) rfl at_163 rfl rfl ?_
          intro T200 h200 X200 qq200
          rw [show h200 = h17 from qq200] at X200
          refine own_iload X200 (pc' := 168) at_166 rfl rfl ?_
          refine own_icmp_ne X200 (pct := 175) (pc' := 171) at_168 rfl (by decide) (by decide) (fun hc => absurd hc (fun q => q (by (try simp only [own_m8]); exact (Eq.trans (own_wc e177 (by decide) rfl) (own_w0 e197))))) (fun _ => ?_)
          refine own_iconst X200 (v := (1 : Int32)) (pc' := 172) at_171 rfl (by decide) ?_
          refine own_goto X200 (pc' := 176) at_172 (by decide) (by decide) ?_
          subst hΦ
          exact own_retZ X200 at_176 (by decide) (by decide) (by decide) rfl trivial
        · rw [show own_nv (3 : Int32) [(b3 &&& (255 : Int32))] = (4 : Int32) from by rw [own_nv, e197]; decide]
          refine own_iload X196 (pc' := 133) at_131 rfl rfl ?_
          refine own_callS X196 (W := 1) (argsL := [(.ref ad7), (.int (4 : Int32)), (.int (4 : Int32))]) (rest := [(.ref ad7)]) (S' := [(.int (4 : Int32)), (.ref ad7)]) (pc' := 136) (rm1_B l Z a0 hw n0 ad7 (4 : Int32) (4 : Int32) h17 X196.size (by decide) (by decide)) (hw _ (List.mem_of_getElem? (i := 2) rfl)) (hw _ (List.mem_of_getElem? (i := 3) rfl)) (hw _ (List.mem_of_getElem? (i := 4) rfl)) (hw _ (List.mem_of_getElem? (i := 5) rfl)) (by decide) (by decide) (by decide) rfl rfl (by decide) (by decide) (lenOf pd_0 rfl) rfl (by first | decide | exact Nat.le_of_eq rfl) rfl at_133 rfl rfl ?_
          intro T201 h201 X201 qq201
          rw [show h201 = h17 from qq201] at X201
          refine own_iload X201 (pc' := 138) at_136 rfl rfl ?_
          refine own_callS X201 (W := 0) (argsL := [(.ref ad7), (.int (4 : Int32)), (.int (4 : Int32))]) (rest := []) (S' := [(.int (4 : Int32))]) (pc' := 141) (rm1_B l Z a0 hw n0 ad7 (4 : Int32) (4 : Int32) h17 X201.size (by decide) (by decide)) (hw _ (List.mem_of_getElem? (i := 2) rfl)) (hw _ (List.mem_of_getElem? (i := 3) rfl)) (hw _ (List.mem_of_getElem? (i := 4) rfl)) (hw _ (List.mem_of_getElem? (i := 5) rfl)) (by decide) (by decide) (by decide) rfl rfl (by decide) (by decide) (lenOf pd_0 rfl) rfl (by first | decide | exact Nat.le_of_eq rfl) rfl at_138 rfl rfl ?_
          intro T202 h202 X202 qq202
          rw [show h202 = h17 from qq202] at X202
          refine own_istore X202 (pc' := 143) (Ls' := #[.val (.int b0), .val (.int b1), .val (.int b2), .val (.int b3), .val (.int b4), .val (.int ctl), .val (.ref ad1), .val (.ref ad7), .val (.int (1 : Int32)), .val (.int (3 : Int32)), .val (.int (4 : Int32)), .val (.int (4 : Int32)), .unset]) at_141 rfl rfl ?_
          refine own_iload X202 (pc' := 145) at_143 rfl rfl ?_
          refine own_iload X202 (pc' := 147) at_145 rfl rfl ?_
          refine own_icmp_ne X202 (pct := 154) (pc' := 150) at_147 rfl (by decide) (by decide) (fun hc => absurd hc (by decide)) (fun _ => ?_)
          refine own_iconst X202 (v := (1 : Int32)) (pc' := 151) at_150 rfl (by decide) ?_
          refine own_goto X202 (pc' := 155) at_151 (by decide) (by decide) ?_
          refine own_istore X202 (pc' := 157) (Ls' := #[.val (.int b0), .val (.int b1), .val (.int b2), .val (.int b3), .val (.int b4), .val (.int ctl), .val (.ref ad1), .val (.ref ad7), .val (.int (1 : Int32)), .val (.int (3 : Int32)), .val (.int (4 : Int32)), .val (.int (4 : Int32)), .val (.int (1 : Int32))]) at_155 rfl rfl ?_
          refine own_aload X202 (pc' := 159) at_157 rfl rfl rfl ?_
          refine own_iload X202 (pc' := 161) at_159 rfl rfl ?_
          refine own_iload X202 (pc' := 163) at_161 rfl rfl ?_
          refine own_callS X202 (W := 0) (argsL := [(.ref ad1), (.int (1 : Int32)), (.int (4 : Int32))]) (rest := []) (S' := [(.int (own_w 4 [((b1.toInt8.toInt32) &&& (255 : Int32)), ((b2.toInt8.toInt32) &&& (255 : Int32)), ((b3.toInt8.toInt32) &&& (255 : Int32))]))]) (pc' := 166) (rm3_3 l Z a0 hw n0 ad1 (1 : Int32) (4 : Int32) h17 X202.size _ A18 (b1.toInt8.toInt32) (b2.toInt8.toInt32) (b3.toInt8.toInt32) (by decide) (fun t i ht hi => own_H14 _ _ _ _ _ t i ht hi) (c_i2b _).2 (c_i2b _).2 (c_i2b _).2) (hw _ (List.mem_of_getElem? (i := 9) rfl)) (hw _ (List.mem_of_getElem? (i := 10) rfl)) (hw _ (List.mem_of_getElem? (i := 11) rfl)) (hw _ (List.mem_of_getElem? (i := 12) rfl)) (by decide) (by decide) (by decide) rfl rfl (by decide) (by decide) (lenOf pd_1 rfl) rfl (by first | decide | exact Nat.le_of_eq rfl) rfl at_163 rfl rfl ?_
          intro T203 h203 X203 qq203
          rw [show h203 = h17 from qq203] at X203
          refine own_iload X203 (pc' := 168) at_166 rfl rfl ?_
          refine own_icmp_ne X203 (pct := 175) (pc' := 171) at_168 rfl (by decide) (by decide) (fun hc => absurd hc (fun q => q (by (try simp only [own_m8]); exact (Eq.trans (own_wc e177 (by decide) rfl) (Eq.trans (own_wc e197 (by decide) rfl) (own_wn _)))))) (fun _ => ?_)
          refine own_iconst X203 (v := (1 : Int32)) (pc' := 172) at_171 rfl (by decide) ?_
          refine own_goto X203 (pc' := 176) at_172 (by decide) (by decide) ?_
          subst hΦ
          exact own_retZ X203 at_176 (by decide) (by decide) (by decide) rfl trivial
      · rw [show own_nv (1 : Int32) [(b1 &&& (255 : Int32)), (b2 &&& (255 : Int32)), (b3 &&& (255 : Int32))] = (4 : Int32) from by rw [own_nv, e177]; decide]
        refine own_iload X176 (pc' := 128) at_126 rfl rfl ?_
        refine own_callS X176 (W := 2) (argsL := [(.ref ad7), (.int (4 : Int32)), (.int (4 : Int32))]) (rest := [(.ref ad7), (.ref ad7)]) (S' := [(.int (4 : Int32)), (.ref ad7), (.ref ad7)]) (pc' := 131) (rm1_B l Z a0 hw n0 ad7 (4 : Int32) (4 : Int32) h17 X176.size (by decide) (by decide)) (hw _ (List.mem_of_getElem? (i := 2) rfl)) (hw _ (List.mem_of_getElem? (i := 3) rfl)) (hw _ (List.mem_of_getElem? (i := 4) rfl)) (hw _ (List.mem_of_getElem? (i := 5) rfl)) (by decide) (by decide) (by decide) rfl rfl (by decide) (by decide) (lenOf pd_0 rfl) rfl (by first | decide | exact Nat.le_of_eq rfl) rfl at_128 rfl rfl ?_
        intro T204 h204 X204 qq204
        rw [show h204 = h17 from qq204] at X204
        refine own_iload X204 (pc' := 133) at_131 rfl rfl ?_
        refine own_callS X204 (W := 1) (argsL := [(.ref ad7), (.int (4 : Int32)), (.int (4 : Int32))]) (rest := [(.ref ad7)]) (S' := [(.int (4 : Int32)), (.ref ad7)]) (pc' := 136) (rm1_B l Z a0 hw n0 ad7 (4 : Int32) (4 : Int32) h17 X204.size (by decide) (by decide)) (hw _ (List.mem_of_getElem? (i := 2) rfl)) (hw _ (List.mem_of_getElem? (i := 3) rfl)) (hw _ (List.mem_of_getElem? (i := 4) rfl)) (hw _ (List.mem_of_getElem? (i := 5) rfl)) (by decide) (by decide) (by decide) rfl rfl (by decide) (by decide) (lenOf pd_0 rfl) rfl (by first | decide | exact Nat.le_of_eq rfl) rfl at_133 rfl rfl ?_
        intro T205 h205 X205 qq205
        rw [show h205 = h17 from qq205] at X205
        refine own_iload X205 (pc' := 138) at_136 rfl rfl ?_
        refine own_callS X205 (W := 0) (argsL := [(.ref ad7), (.int (4 : Int32)), (.int (4 : Int32))]) (rest := []) (S' := [(.int (4 : Int32))]) (pc' := 141) (rm1_B l Z a0 hw n0 ad7 (4 : Int32) (4 : Int32) h17 X205.size (by decide) (by decide)) (hw _ (List.mem_of_getElem? (i := 2) rfl)) (hw _ (List.mem_of_getElem? (i := 3) rfl)) (hw _ (List.mem_of_getElem? (i := 4) rfl)) (hw _ (List.mem_of_getElem? (i := 5) rfl)) (by decide) (by decide) (by decide) rfl rfl (by decide) (by decide) (lenOf pd_0 rfl) rfl (by first | decide | exact Nat.le_of_eq rfl) rfl at_138 rfl rfl ?_
        intro T206 h206 X206 qq206
        rw [show h206 = h17 from qq206] at X206
        refine own_istore X206 (pc' := 143) (Ls' := #[.val (.int b0), .val (.int b1), .val (.int b2), .val (.int b3), .val (.int b4), .val (.int ctl), .val (.ref ad1), .val (.ref ad7), .val (.int (1 : Int32)), .val (.int (3 : Int32)), .val (.int (4 : Int32)), .val (.int (4 : Int32)), .unset]) at_141 rfl rfl ?_
        refine own_iload X206 (pc' := 145) at_143 rfl rfl ?_
        refine own_iload X206 (pc' := 147) at_145 rfl rfl ?_
        refine own_icmp_ne X206 (pct := 154) (pc' := 150) at_147 rfl (by decide) (by decide) (fun hc => absurd hc (by decide)) (fun _ => ?_)
        refine own_iconst X206 (v := (1 : Int32)) (pc' := 151) at_150 rfl (by decide) ?_
        refine own_goto X206 (pc' := 155) at_151 (by decide) (by decide) ?_
        refine own_istore X206 (pc' := 157) (Ls' := #[.val (.int b0), .val (.int b1), .val (.int b2), .val (.int b3), .val (.int b4), .val (.int ctl), .val (.ref ad1), .val (.ref ad7), .val (.int (1 : Int32)), .val (.int (3 : Int32)), .val (.int (4 : Int32)), .val (.int (4 : Int32)), .val (.int (1 : Int32))]) at_155 rfl rfl ?_
        refine own_aload X206 (pc' := 159) at_157 rfl rfl rfl ?_
        refine own_iload X206 (pc' := 161) at_159 rfl rfl ?_
        refine own_iload X206 (pc' := 163) at_161 rfl rfl ?_
        refine own_callS X206 (W := 0) (argsL := [(.ref ad1), (.int (1 : Int32)), (.int (4 : Int32))]) (rest := []) (S' := [(.int (own_w 4 [((b1.toInt8.toInt32) &&& (255 : Int32)), ((b2.toInt8.toInt32) &&& (255 : Int32)), ((b3.toInt8.toInt32) &&& (255 : Int32))]))]) (pc' := 166) (rm3_3 l Z a0 hw n0 ad1 (1 : Int32) (4 : Int32) h17 X206.size _ A18 (b1.toInt8.toInt32) (b2.toInt8.toInt32) (b3.toInt8.toInt32) (by decide) (fun t i ht hi => own_H14 _ _ _ _ _ t i ht hi) (c_i2b _).2 (c_i2b _).2 (c_i2b _).2) (hw _ (List.mem_of_getElem? (i := 9) rfl)) (hw _ (List.mem_of_getElem? (i := 10) rfl)) (hw _ (List.mem_of_getElem? (i := 11) rfl)) (hw _ (List.mem_of_getElem? (i := 12) rfl)) (by decide) (by decide) (by decide) rfl rfl (by decide) (by decide) (lenOf pd_1 rfl) rfl (by first | decide | exact Nat.le_of_eq rfl) rfl at_163 rfl rfl ?_
        intro T207 h207 X207 qq207
        rw [show h207 = h17 from qq207] at X207
        refine own_iload X207 (pc' := 168) at_166 rfl rfl ?_
        refine own_icmp_ne X207 (pct := 175) (pc' := 171) at_168 rfl (by decide) (by decide) (fun hc => absurd hc (fun q => q (by (try simp only [own_m8]); exact (Eq.trans (own_wc e177 (by decide) rfl) (own_wn _))))) (fun _ => ?_)
        refine own_iconst X207 (v := (1 : Int32)) (pc' := 172) at_171 rfl (by decide) ?_
        refine own_goto X207 (pc' := 176) at_172 (by decide) (by decide) ?_
        subst hΦ
        exact own_retZ X207 at_176 (by decide) (by decide) (by decide) rfl trivial
    · refine own_iload X17 (pc' := 106) at_104 rfl rfl ?_
      refine own_iload X17 (pc' := 108) at_106 rfl rfl ?_
      refine own_iadd X17 (r := (5 : Int32)) (pc' := 109) at_108 rfl (by decide) ?_
      refine own_istore X17 (pc' := 111) (Ls' := #[.val (.int b0), .val (.int b1), .val (.int b2), .val (.int b3), .val (.int b4), .val (.int ctl), .val (.ref ad1), .val (.ref ad7), .val (.int (1 : Int32)), .val (.int (4 : Int32)), .val (.int (5 : Int32)), .unset, .unset]) at_109 rfl rfl ?_
      refine own_aload X17 (pc' := 113) at_111 rfl rfl rfl ?_
      refine own_aload X17 (pc' := 115) at_113 rfl rfl rfl ?_
      refine own_aload X17 (pc' := 117) at_115 rfl rfl rfl ?_
      refine own_aload X17 (pc' := 119) at_117 rfl rfl rfl ?_
      refine own_iload X17 (pc' := 121) at_119 rfl rfl ?_
      refine own_iload X17 (pc' := 123) at_121 rfl rfl ?_
      refine own_callS X17 (W := 3) (argsL := [(.ref ad7), (.int (1 : Int32)), (.int (5 : Int32))]) (rest := [(.ref ad7), (.ref ad7), (.ref ad7)]) (S' := [(.int (own_nv (1 : Int32) [(b1 &&& (255 : Int32)), (b2 &&& (255 : Int32)), (b3 &&& (255 : Int32)), (b4 &&& (255 : Int32))])), (.ref ad7), (.ref ad7), (.ref ad7)]) (pc' := 126) (rm1_4 l Z a0 hw n0 ad7 (1 : Int32) (5 : Int32) h17 X17.size _ A17 (b1 &&& (255 : Int32)) (b2 &&& (255 : Int32)) (b3 &&& (255 : Int32)) (b4 &&& (255 : Int32)) (by decide) (by decide) (by decide) rfl rfl rfl rfl rfl rfl rfl rfl (own_mr _) (own_mr _) (own_mr _) (own_mr _)) (hw _ (List.mem_of_getElem? (i := 2) rfl)) (hw _ (List.mem_of_getElem? (i := 3) rfl)) (hw _ (List.mem_of_getElem? (i := 4) rfl)) (hw _ (List.mem_of_getElem? (i := 5) rfl)) (by decide) (by decide) (by decide) rfl rfl (by decide) (by decide) (lenOf pd_0 rfl) rfl (by first | decide | exact Nat.le_of_eq rfl) rfl at_123 rfl rfl ?_
      intro T208 h208 X208 qq208
      rw [show h208 = h17 from qq208] at X208
      rcases own_s4 (b1 &&& (255 : Int32)) (b2 &&& (255 : Int32)) (b3 &&& (255 : Int32)) (b4 &&& (255 : Int32)) with e209 | e209 | e209 | e209 | e209
      · rw [show own_nv (1 : Int32) [(b1 &&& (255 : Int32)), (b2 &&& (255 : Int32)), (b3 &&& (255 : Int32)), (b4 &&& (255 : Int32))] = (-1 : Int32) from by rw [own_nv, e209]; decide]
        refine own_iload X208 (pc' := 128) at_126 rfl rfl ?_
        refine own_callS X208 (W := 2) (argsL := [(.ref ad7), (.int (-1 : Int32)), (.int (5 : Int32))]) (rest := [(.ref ad7), (.ref ad7)]) (S' := [(.int (-1 : Int32)), (.ref ad7), (.ref ad7)]) (pc' := 131) (rm1_A l Z a0 hw n0 ad7 (-1 : Int32) (5 : Int32) h17 X208.size (by decide)) (hw _ (List.mem_of_getElem? (i := 2) rfl)) (hw _ (List.mem_of_getElem? (i := 3) rfl)) (hw _ (List.mem_of_getElem? (i := 4) rfl)) (hw _ (List.mem_of_getElem? (i := 5) rfl)) (by decide) (by decide) (by decide) rfl rfl (by decide) (by decide) (lenOf pd_0 rfl) rfl (by first | decide | exact Nat.le_of_eq rfl) rfl at_128 rfl rfl ?_
        intro T210 h210 X210 qq210
        rw [show h210 = h17 from qq210] at X210
        refine own_iload X210 (pc' := 133) at_131 rfl rfl ?_
        refine own_callS X210 (W := 1) (argsL := [(.ref ad7), (.int (-1 : Int32)), (.int (5 : Int32))]) (rest := [(.ref ad7)]) (S' := [(.int (-1 : Int32)), (.ref ad7)]) (pc' := 136) (rm1_A l Z a0 hw n0 ad7 (-1 : Int32) (5 : Int32) h17 X210.size (by decide)) (hw _ (List.mem_of_getElem? (i := 2) rfl)) (hw _ (List.mem_of_getElem? (i := 3) rfl)) (hw _ (List.mem_of_getElem? (i := 4) rfl)) (hw _ (List.mem_of_getElem? (i := 5) rfl)) (by decide) (by decide) (by decide) rfl rfl (by decide) (by decide) (lenOf pd_0 rfl) rfl (by first | decide | exact Nat.le_of_eq rfl) rfl at_133 rfl rfl ?_
        intro T211 h211 X211 qq211
        rw [show h211 = h17 from qq211] at X211
        refine own_iload X211 (pc' := 138) at_136 rfl rfl ?_
        refine own_callS X211 (W := 0) (argsL := [(.ref ad7), (.int (-1 : Int32)), (.int (5 : Int32))]) (rest := []) (S' := [(.int (-1 : Int32))]) (pc' := 141) (rm1_A l Z a0 hw n0 ad7 (-1 : Int32) (5 : Int32) h17 X211.size (by decide)) (hw _ (List.mem_of_getElem? (i := 2) rfl)) (hw _ (List.mem_of_getElem? (i := 3) rfl)) (hw _ (List.mem_of_getElem? (i := 4) rfl)) (hw _ (List.mem_of_getElem? (i := 5) rfl)) (by decide) (by decide) (by decide) rfl rfl (by decide) (by decide) (lenOf pd_0 rfl) rfl (by first | decide | exact Nat.le_of_eq rfl) rfl at_138 rfl rfl ?_
        intro T212 h212 X212 qq212
        rw [show h212 = h17 from qq212] at X212
        refine own_istore X212 (pc' := 143) (Ls' := #[.val (.int b0), .val (.int b1), .val (.int b2), .val (.int b3), .val (.int b4), .val (.int ctl), .val (.ref ad1), .val (.ref ad7), .val (.int (1 : Int32)), .val (.int (4 : Int32)), .val (.int (5 : Int32)), .val (.int (-1 : Int32)), .unset]) at_141 rfl rfl ?_
        refine own_iload X212 (pc' := 145) at_143 rfl rfl ?_
        refine own_iload X212 (pc' := 147) at_145 rfl rfl ?_
        refine own_icmp_ne X212 (pct := 154) (pc' := 150) at_147 rfl (by decide) (by decide) (fun _ => ?_) (fun hc => absurd hc (by decide))
        refine own_iconst X212 (v := (0 : Int32)) (pc' := 155) at_154 rfl (by decide) ?_
        refine own_istore X212 (pc' := 157) (Ls' := #[.val (.int b0), .val (.int b1), .val (.int b2), .val (.int b3), .val (.int b4), .val (.int ctl), .val (.ref ad1), .val (.ref ad7), .val (.int (1 : Int32)), .val (.int (4 : Int32)), .val (.int (5 : Int32)), .val (.int (-1 : Int32)), .val (.int (0 : Int32))]) at_155 rfl rfl ?_
        refine own_aload X212 (pc' := 159) at_157 rfl rfl rfl ?_
        refine own_iload X212 (pc' := 161) at_159 rfl rfl ?_
        refine own_iload X212 (pc' := 163) at_161 rfl rfl ?_
        refine own_callS X212 (W := 0) (argsL := [(.ref ad1), (.int (1 : Int32)), (.int (5 : Int32))]) (rest := []) (S' := [(.int (own_w 4 [((b1.toInt8.toInt32) &&& (255 : Int32)), ((b2.toInt8.toInt32) &&& (255 : Int32)), ((b3.toInt8.toInt32) &&& (255 : Int32)), ((b4.toInt8.toInt32) &&& (255 : Int32))]))]) (pc' := 166) (rm3_4 l Z a0 hw n0 ad1 (1 : Int32) (5 : Int32) h17 X212.size _ A18 (b1.toInt8.toInt32) (b2.toInt8.toInt32) (b3.toInt8.toInt32) (b4.toInt8.toInt32) (by decide) (fun t i ht hi => own_H15 _ _ _ _ _ t i ht hi) (c_i2b _).2 (c_i2b _).2 (c_i2b _).2 (c_i2b _).2) (hw _ (List.mem_of_getElem? (i := 9) rfl)) (hw _ (List.mem_of_getElem? (i := 10) rfl)) (hw _ (List.mem_of_getElem? (i := 11) rfl)) (hw _ (List.mem_of_getElem? (i := 12) rfl)) (by decide) (by decide) (by decide) rfl rfl (by decide) (by decide) (lenOf pd_1 rfl) rfl (by first | decide | exact Nat.le_of_eq rfl) rfl at_163 rfl rfl ?_
        intro T213 h213 X213 qq213
        rw [show h213 = h17 from qq213] at X213
        refine own_iload X213 (pc' := 168) at_166 rfl rfl ?_
        refine own_icmp_ne X213 (pct := 175) (pc' := 171) at_168 rfl (by decide) (by decide) (fun hc => absurd hc (fun q => q (by (try simp only [own_m8]); exact (own_w0 e209)))) (fun _ => ?_)
        refine own_iconst X213 (v := (1 : Int32)) (pc' := 172) at_171 rfl (by decide) ?_
        refine own_goto X213 (pc' := 176) at_172 (by decide) (by decide) ?_
        subst hΦ
        exact own_retZ X213 at_176 (by decide) (by decide) (by decide) rfl trivial
      · rw [show own_nv (1 : Int32) [(b1 &&& (255 : Int32)), (b2 &&& (255 : Int32)), (b3 &&& (255 : Int32)), (b4 &&& (255 : Int32))] = (2 : Int32) from by rw [own_nv, e209]; decide]
        refine own_iload X208 (pc' := 128) at_126 rfl rfl ?_
        refine own_callS X208 (W := 2) (argsL := [(.ref ad7), (.int (2 : Int32)), (.int (5 : Int32))]) (rest := [(.ref ad7), (.ref ad7)]) (S' := [(.int (own_nv (2 : Int32) [(b2 &&& (255 : Int32)), (b3 &&& (255 : Int32)), (b4 &&& (255 : Int32))])), (.ref ad7), (.ref ad7)]) (pc' := 131) (rm1_3 l Z a0 hw n0 ad7 (2 : Int32) (5 : Int32) h17 X208.size _ A17 (b2 &&& (255 : Int32)) (b3 &&& (255 : Int32)) (b4 &&& (255 : Int32)) (by decide) (by decide) (by decide) rfl rfl rfl rfl rfl rfl (own_mr _) (own_mr _) (own_mr _)) (hw _ (List.mem_of_getElem? (i := 2) rfl)) (hw _ (List.mem_of_getElem? (i := 3) rfl)) (hw _ (List.mem_of_getElem? (i := 4) rfl)) (hw _ (List.mem_of_getElem? (i := 5) rfl)) (by decide) (by decide) (by decide) rfl rfl (by decide) (by decide) (lenOf pd_0 rfl) rfl (by first | decide | exact Nat.le_of_eq rfl) rfl at_128 rfl rfl ?_
        intro T214 h214 X214 qq214
        rw [show h214 = h17 from qq214] at X214
        rcases own_s3 (b2 &&& (255 : Int32)) (b3 &&& (255 : Int32)) (b4 &&& (255 : Int32)) with e215 | e215 | e215 | e215
        · rw [show own_nv (2 : Int32) [(b2 &&& (255 : Int32)), (b3 &&& (255 : Int32)), (b4 &&& (255 : Int32))] = (-1 : Int32) from by rw [own_nv, e215]; decide]
          refine own_iload X214 (pc' := 133) at_131 rfl rfl ?_
          refine own_callS X214 (W := 1) (argsL := [(.ref ad7), (.int (-1 : Int32)), (.int (5 : Int32))]) (rest := [(.ref ad7)]) (S' := [(.int (-1 : Int32)), (.ref ad7)]) (pc' := 136) (rm1_A l Z a0 hw n0 ad7 (-1 : Int32) (5 : Int32) h17 X214.size (by decide)) (hw _ (List.mem_of_getElem? (i := 2) rfl)) (hw _ (List.mem_of_getElem? (i := 3) rfl)) (hw _ (List.mem_of_getElem? (i := 4) rfl)) (hw _ (List.mem_of_getElem? (i := 5) rfl)) (by decide) (by decide) (by decide) rfl rfl (by decide) (by decide) (lenOf pd_0 rfl) rfl (by first | decide | exact Nat.le_of_eq rfl) rfl at_133 rfl rfl ?_
          intro T216 h216 X216 qq216
          rw [show h216 = h17 from qq216] at X216
          refine own_iload X216 (pc' := 138) at_136 rfl rfl ?_
          refine own_callS X216 (W := 0) (argsL := [(.ref ad7), (.int (-1 : Int32)), (.int (5 : Int32))]) (rest := []) (S' := [(.int (-1 : Int32))]) (pc' := 141) (rm1_A l Z a0 hw n0 ad7 (-1 : Int32) (5 : Int32) h17 X216.size (by decide)) (hw _ (List.mem_of_getElem? (i := 2) rfl)) (hw _ (List.mem_of_getElem? (i := 3) rfl)) (hw _ (List.mem_of_getElem? (i := 4) rfl)) (hw _ (List.mem_of_getElem? (i := 5) rfl)) (by decide) (by decide) (by decide) rfl rfl (by decide) (by decide) (lenOf pd_0 rfl) rfl (by first | decide | exact Nat.le_of_eq rfl) rfl at_138 rfl rfl ?_
          intro T217 h217 X217 qq217
          rw [show h217 = h17 from qq217] at X217
          refine own_istore X217 (pc' := 143) (Ls' := #[.val (.int b0), .val (.int b1), .val (.int b2), .val (.int b3), .val (.int b4), .val (.int ctl), .val (.ref ad1), .val (.ref ad7), .val (.int (1 : Int32)), .val (.int (4 : Int32)), .val (.int (5 : Int32)), .val (.int (-1 : Int32)), .unset]) at_141 rfl rfl ?_
          refine own_iload X217 (pc' := 145) at_143 rfl rfl ?_
          refine own_iload X217 (pc' := 147) at_145 rfl rfl ?_
          refine own_icmp_ne X217 (pct := 154) (pc' := 150) at_147 rfl (by decide) (by decide) (fun _ => ?_) (fun hc => absurd hc (by decide))
          refine own_iconst X217 (v := (0 : Int32)) (pc' := 155) at_154 rfl (by decide) ?_
          refine own_istore X217 (pc' := 157) (Ls' := #[.val (.int b0), .val (.int b1), .val (.int b2), .val (.int b3), .val (.int b4), .val (.int ctl), .val (.ref ad1), .val (.ref ad7), .val (.int (1 : Int32)), .val (.int (4 : Int32)), .val (.int (5 : Int32)), .val (.int (-1 : Int32)), .val (.int (0 : Int32))]) at_155 rfl rfl ?_
          refine own_aload X217 (pc' := 159) at_157 rfl rfl rfl ?_
          refine own_iload X217 (pc' := 161) at_159 rfl rfl ?_
          refine own_iload X217 (pc' := 163) at_161 rfl rfl ?_
          refine own_callS X217 (W := 0) (argsL := [(.ref ad1), (.int (1 : Int32)), (.int (5 : Int32))]) (rest := []) (S' := [(.int (own_w 4 [((b1.toInt8.toInt32) &&& (255 : Int32)), ((b2.toInt8.toInt32) &&& (255 : Int32)), ((b3.toInt8.toInt32) &&& (255 : Int32)), ((b4.toInt8.toInt32) &&& (255 : Int32))]))]) (pc' := 166) (rm3_4 l Z a0 hw n0 ad1 (1 : Int32) (5 : Int32) h17 X217.size _ A18 (b1.toInt8.toInt32) (b2.toInt8.toInt32) (b3.toInt8.toInt32) (b4.toInt8.toInt32) (by decide) (fun t i ht hi => own_H15 _ _ _ _ _ t i ht hi) (c_i2b _).2 (c_i2b _).2 (c_i2b _).2 (c_i2b _).2) (hw _ (List.mem_of_getElem? (i := 9) rfl)) (hw _ (List.mem_of_getElem? (i := 10) rfl)) (hw _ (List.mem_of_getElem? (i := 11) rfl)) (hw _ (List.mem_of_getElem? (i := 12) rfl)) (by decide) (by decide) (by decide) rfl rfl (by decide) (by decide) (lenOf pd_1 rfl) rfl (by first | decide | exact Nat.le_of_eq rfl) rfl at_163 rfl rfl ?_
          intro T218 h218 X218 qq218
          rw [show h218 = h17 from qq218] at X218
          refine own_iload X218 (pc' := 168) at_166 rfl rfl ?_
          refine own_icmp_ne X218 (pct := 175) (pc' := 171) at_168 rfl (by decide) (by decide) (fun hc => absurd hc (fun q => q (by (try simp only [own_m8]); exact (Eq.trans (own_wc e209 (by decide) rfl) (own_w0 e215))))) (fun _ => ?_)
          refine own_iconst X218 (v := (1 : Int32)) (pc' := 172) at_171 rfl (by decide) ?_
          refine own_goto X218 (pc' := 176) at_172 (by decide) (by decide) ?_
          subst hΦ
          exact own_retZ X218 at_176 (by decide) (by decide) (by decide) rfl trivial
        · rw [show own_nv (2 : Int32) [(b2 &&& (255 : Int32)), (b3 &&& (255 : Int32)), (b4 &&& (255 : Int32))] = (3 : Int32) from by rw [own_nv, e215]; decide]
          refine own_iload X214 (pc' := 133) at_131 rfl rfl ?_
          refine own_callS X214 (W := 1) (argsL := [(.ref ad7), (.int (3 : Int32)), (.int (5 : Int32))]) (rest := [(.ref ad7)]) (S' := [(.int (own_nv (3 : Int32) [(b3 &&& (255 : Int32)), (b4 &&& (255 : Int32))])), (.ref ad7)]) (pc' := 136) (rm1_2 l Z a0 hw n0 ad7 (3 : Int32) (5 : Int32) h17 X214.size _ A17 (b3 &&& (255 : Int32)) (b4 &&& (255 : Int32)) (by decide) (by decide) (by decide) rfl rfl rfl rfl (own_mr _) (own_mr _)) (hw _ (List.mem_of_getElem? (i := 2) rfl)) (hw _ (List.mem_of_getElem? (i := 3) rfl)) (hw _ (List.mem_of_getElem? (i := 4) rfl)) (hw _ (List.mem_of_getElem? (i := 5) rfl)) (by decide) (by decide) (by decide) rfl rfl (by decide) (by decide) (lenOf pd_0 rfl) rfl (by first | decide | exact Nat.le_of_eq rfl) rfl at_133 rfl rfl ?_
          intro T219 h219 X219 qq219
          rw [show h219 = h17 from qq219] at X219
          rcases own_s2 (b3 &&& (255 : Int32)) (b4 &&& (255 : Int32)) with e220 | e220 | e220
          · rw [show own_nv (3 : Int32) [(b3 &&& (255 : Int32)), (b4 &&& (255 : Int32))] = (-1 : Int32) from by rw [own_nv, e220]; decide]
            refine own_iload X219 (pc' := 138) at_136 rfl rfl ?_
            refine own_callS X219 (W := 0) (argsL := [(.ref ad7), (.int (-1 : Int32)), (.int (5 : Int32))]) (rest := []) (S' := [(.int (-1 : Int32))]) (pc' := 141) (rm1_A l Z a0 hw n0 ad7 (-1 : Int32) (5 : Int32) h17 X219.size (by decide)) (hw _ (List.mem_of_getElem? (i := 2) rfl)) (hw _ (List.mem_of_getElem? (i := 3) rfl)) (hw _ (List.mem_of_getElem? (i := 4) rfl)) (hw _ (List.mem_of_getElem? (i := 5) rfl)) (by decide) (by decide) (by decide) rfl rfl (by decide) (by decide) (lenOf pd_0 rfl) rfl (by first | decide | exact Nat.le_of_eq rfl) rfl at_138 rfl rfl ?_
            intro T221 h221 X221 qq221
            rw [show h221 = h17 from qq221] at X221
            refine own_istore X221 (pc' := 143) (Ls' := #[.val (.int b0), .val (.int b1), .val (.int b2), .val (.int b3), .val (.int b4), .val (.int ctl), .val (.ref ad1), .val (.ref ad7), .val (.int (1 : Int32)), .val (.int (4 : Int32)), .val (.int (5 : Int32)), .val (.int (-1 : Int32)), .unset]) at_141 rfl rfl ?_
            refine own_iload X221 (pc' := 145) at_143 rfl rfl ?_
            refine own_iload X221 (pc' := 147) at_145 rfl rfl ?_
            refine own_icmp_ne X221 (pct := 154) (pc' := 150) at_147 rfl (by decide) (by decide) (fun _ => ?_) (fun hc => absurd hc (by decide))
            refine own_iconst X221 (v := (0 : Int32)) (pc' := 155) at_154 rfl (by decide) ?_
            refine own_istore X221 (pc' := 157) (Ls' := #[.val (.int b0), .val (.int b1), .val (.int b2), .val (.int b3), .val (.int b4), .val (.int ctl), .val (.ref ad1), .val (.ref ad7), .val (.int (1 : Int32)), .val (.int (4 : Int32)), .val (.int (5 : Int32)), .val (.int (-1 : Int32)), .val (.int (0 : Int32))]) at_155 rfl rfl ?_
            refine own_aload X221 (pc' := 159) at_157 rfl rfl rfl ?_
            refine own_iload X221 (pc' := 161) at_159 rfl rfl ?_
            refine own_iload X221 (pc' := 163) at_161 rfl rfl ?_
            refine own_callS X221 (W := 0) (argsL := [(.ref ad1), (.int (1 : Int32)), (.int (5 : Int32))]) (rest := []) (S' := [(.int (own_w 4 [((b1.toInt8.toInt32) &&& (255 : Int32)), ((b2.toInt8.toInt32) &&& (255 : Int32)), ((b3.toInt8.toInt32) &&& (255 : Int32)), ((b4.toInt8.toInt32) &&& (255 : Int32))]))]) (pc' := 166) (rm3_4 l Z a0 hw n0 ad1 (1 : Int32) (5 : Int32) h17 X221.size _ A18 (b1.toInt8.toInt32) (b2.toInt8.toInt32) (b3.toInt8.toInt32) (b4.toInt8.toInt32) (by decide) (fun t i ht hi => own_H15 _ _ _ _ _ t i ht hi) (c_i2b _).2 (c_i2b _).2 (c_i2b _).2 (c_i2b _).2) (hw _ (List.mem_of_getElem? (i := 9) rfl)) (hw _ (List.mem_of_getElem? (i := 10) rfl)) (hw _ (List.mem_of_getElem? (i := 11) rfl)) (hw _ (List.mem_of_getElem? (i := 12) rfl)) (by decide) (by decide) (by decide) rfl rfl (by decide) (by decide) (lenOf pd_1 rfl) rfl (by first | decide | exact Nat.le_of_eq rfl) rfl at_163 rfl rfl ?_
            intro T222 h222 X222 qq222
            rw [show h222 = h17 from qq222] at X222
            refine own_iload X222 (pc' := 168) at_166 rfl rfl ?_
            refine own_icmp_ne X222 (pct := 175) (pc' := 171) at_168 rfl (by decide) (by decide) (fun hc => absurd hc (fun q => q (by (try simp only [own_m8]); exact (Eq.trans (own_wc e209 (by decide) rfl) (Eq.trans (own_wc e215 (by decide) rfl) (own_w0 e220)))))) (fun _ => ?_)
            refine own_iconst X222 (v := (1 : Int32)) (pc' := 172) at_171 rfl (by decide) ?_
            refine own_goto X222 (pc' := 176) at_172 (by decide) (by decide) ?_
            subst hΦ
            exact own_retZ X222 at_176 (by decide) (by decide) (by decide) rfl trivial
          · rw [show own_nv (3 : Int32) [(b3 &&& (255 : Int32)), (b4 &&& (255 : Int32))] = (4 : Int32) from by rw [own_nv, e220]; decide]
            refine own_iload X219 (pc' := 138) at_136 rfl rfl ?_
            refine own_callS X219 (W := 0) (argsL := [(.ref ad7), (.int (4 : Int32)), (.int (5 : Int32))]) (rest := []) (S' := [(.int (own_nv (4 : Int32) [(b4 &&& (255 : Int32))]))]) (pc' := 141) (rm1_1 l Z a0 hw n0 ad7 (4 : Int32) (5 : Int32) h17 X219.size _ A17 (b4 &&& (255 : Int32)) (by decide) (by decide) (by decide) rfl rfl (own_mr _)) (hw _ (List.mem_of_getElem? (i := 2) rfl)) (hw _ (List.mem_of_getElem? (i := 3) rfl)) (hw _ (List.mem_of_getElem? (i := 4) rfl)) (hw _ (List.mem_of_getElem? (i := 5) rfl)) (by decide) (by decide) (by decide) rfl rfl (by decide) (by decide) (lenOf pd_0 rfl) rfl (by first | decide | exact Nat.le_of_eq rfl) rfl at_138 rfl rfl ?_
            intro T223 h223 X223 qq223
            rw [show h223 = h17 from qq223] at X223
            rcases own_s1 (b4 &&& (255 : Int32)) with e224 | e224
            · rw [show own_nv (4 : Int32) [(b4 &&& (255 : Int32))] = (-1 : Int32) from by rw [own_nv, e224]; decide]
              refine own_istore X223 (pc' := 143) (Ls' := #[.val (.int b0), .val (.int b1), .val (.int b2), .val (.int b3), .val (.int b4), .val (.int ctl), .val (.ref ad1), .val (.ref ad7), .val (.int (1 : Int32)), .val (.int (4 : Int32)), .val (.int (5 : Int32)), .val (.int (-1 : Int32)), .unset]) at_141 rfl rfl ?_
              refine own_iload X223 (pc' := 145) at_143 rfl rfl ?_
              refine own_iload X223 (pc' := 147) at_145 rfl rfl ?_
              refine own_icmp_ne X223 (pct := 154) (pc' := 150) at_147 rfl (by decide) (by decide) (fun _ => ?_) (fun hc => absurd hc (by decide))
              refine own_iconst X223 (v := (0 : Int32)) (pc' := 155) at_154 rfl (by decide) ?_
              refine own_istore X223 (pc' := 157) (Ls' := #[.val (.int b0), .val (.int b1), .val (.int b2), .val (.int b3), .val (.int b4), .val (.int ctl), .val (.ref ad1), .val (.ref ad7), .val (.int (1 : Int32)), .val (.int (4 : Int32)), .val (.int (5 : Int32)), .val (.int (-1 : Int32)), .val (.int (0 : Int32))]) at_155 rfl rfl ?_
              refine own_aload X223 (pc' := 159) at_157 rfl rfl rfl ?_
              refine own_iload X223 (pc' := 161) at_159 rfl rfl ?_
              refine own_iload X223 (pc' := 163) at_161 rfl rfl ?_
              refine own_callS X223 (W := 0) (argsL := [(.ref ad1), (.int (1 : Int32)), (.int (5 : Int32))]) (rest := []) (S' := [(.int (own_w 4 [((b1.toInt8.toInt32) &&& (255 : Int32)), ((b2.toInt8.toInt32) &&& (255 : Int32)), ((b3.toInt8.toInt32) &&& (255 : Int32)), ((b4.toInt8.toInt32) &&& (255 : Int32))]))]) (pc' := 166) (rm3_4 l Z a0 hw n0 ad1 (1 : Int32) (5 : Int32) h17 X223.size _ A18 (b1.toInt8.toInt32) (b2.toInt8.toInt32) (b3.toInt8.toInt32) (b4.toInt8.toInt32) (by decide) (fun t i ht hi => own_H15 _ _ _ _ _ t i ht hi) (c_i2b _).2 (c_i2b _).2 (c_i2b _).2 (c_i2b _).2) (hw _ (List.mem_of_getElem? (i := 9) rfl)) (hw _ (List.mem_of_getElem? (i := 10) rfl)) (hw _ (List.mem_of_getElem? (i := 11) rfl)) (hw _ (List.mem_of_getElem? (i := 12) rfl)) (by decide) (by decide) (by decide) rfl rfl (by decide) (by decide) (lenOf pd_1 rfl) rfl (by first | decide | exact Nat.le_of_eq rfl) rfl at_163 rfl rfl ?_
              intro T225 h225 X225 qq225
              rw [show h225 = h17 from qq225] at X225
              refine own_iload X225 (pc' := 168) at_166 rfl rfl ?_
              refine own_icmp_ne X225 (pct := 175) (pc' := 171) at_168 rfl (by decide) (by decide) (fun hc => absurd hc (fun q => q (by (try simp only [own_m8]); exact (Eq.trans (own_wc e209 (by decide) rfl) (Eq.trans (own_wc e215 (by decide) rfl) (Eq.trans (own_wc e220 (by decide) rfl) (own_w0 e224))))))) (fun _ => ?_)
              refine own_iconst X225 (v := (1 : Int32)) (pc' := 172) at_171 rfl (by decide) ?_
              refine own_goto X225 (pc' := 176) at_172 (by decide) (by decide) ?_
              subst hΦ
              exact own_retZ X225 at_176 (by decide) (by decide) (by decide) rfl trivial
            · rw [show own_nv (4 : Int32) [(b4 &&& (255 : Int32))] = (5 : Int32) from by rw [own_nv, e224]; decide]
              refine own_istore X223 (pc' := 143) (Ls' := #[.val (.int b0), .val (.int b1), .val (.int b2), .val (.int b3), .val (.int b4), .val (.int ctl), .val (.ref ad1), .val (.ref ad7), .val (.int (1 : Int32)), .val (.int (4 : Int32)), .val (.int (5 : Int32)), .val (.int (5 : Int32)), .unset]) at_141 rfl rfl ?_
              refine own_iload X223 (pc' := 145) at_143 rfl rfl ?_
              refine own_iload X223 (pc' := 147) at_145 rfl rfl ?_
              refine own_icmp_ne X223 (pct := 154) (pc' := 150) at_147 rfl (by decide) (by decide) (fun hc => absurd hc (by decide)) (fun _ => ?_)
              refine own_iconst X223 (v := (1 : Int32)) (pc' := 151) at_150 rfl (by decide) ?_
              refine own_goto X223 (pc' := 155) at_151 (by decide) (by decide) ?_
              refine own_istore X223 (pc' := 157) (Ls' := #[.val (.int b0), .val (.int b1), .val (.int b2), .val (.int b3), .val (.int b4), .val (.int ctl), .val (.ref ad1), .val (.ref ad7), .val (.int (1 : Int32)), .val (.int (4 : Int32)), .val (.int (5 : Int32)), .val (.int (5 : Int32)), .val (.int (1 : Int32))]) at_155 rfl rfl ?_
              refine own_aload X223 (pc' := 159) at_157 rfl rfl rfl ?_
              refine own_iload X223 (pc' := 161) at_159 rfl rfl ?_
              refine own_iload X223 (pc' := 163) at_161 rfl rfl ?_
              refine own_callS X223 (W := 0) (argsL := [(.ref ad1), (.int (1 : Int32)), (.int (5 : Int32))]) (rest := []) (S' := [(.int (own_w 4 [((b1.toInt8.toInt32) &&& (255 : Int32)), ((b2.toInt8.toInt32) &&& (255 : Int32)), ((b3.toInt8.toInt32) &&& (255 : Int32)), ((b4.toInt8.toInt32) &&& (255 : Int32))]))]) (pc' := 166) (rm3_4 l Z a0 hw n0 ad1 (1 : Int32) (5 : Int32) h17 X223.size _ A18 (b1.toInt8.toInt32) (b2.toInt8.toInt32) (b3.toInt8.toInt32) (b4.toInt8.toInt32) (by decide) (fun t i ht hi => own_H15 _ _ _ _ _ t i ht hi) (c_i2b _).2 (c_i2b _).2 (c_i2b _).2 (c_i2b _).2) (hw _ (List.mem_of_getElem? (i := 9) rfl)) (hw _ (List.mem_of_getElem? (i := 10) rfl)) (hw _ (List.mem_of_getElem? (i := 11) rfl)) (hw _ (List.mem_of_getElem? (i := 12) rfl)) (by decide) (by decide) (by decide) rfl rfl (by decide) (by decide) (lenOf pd_1 rfl) rfl (by first | decide | exact Nat.le_of_eq rfl) rfl at_163 rfl rfl ?_
              intro T226 h226 X226 qq226
              rw [show h226 = h17 from qq226] at X226
              refine own_iload X226 (pc' := 168) at_166 rfl rfl ?_
              refine own_icmp_ne X226 (pct := 175) (pc' := 171) at_168 rfl (by decide) (by decide) (fun hc => absurd hc (fun q => q (by (try simp only [own_m8]); exact (Eq.trans (own_wc e209 (by decide) rfl) (Eq.trans (own_wc e215 (by decide) rfl) (Eq.trans (own_wc e220 (by decide) rfl) (Eq.trans (own_wc e224 (by decide) rfl) (own_wn _)))))))) (fun _ => ?_)
              refine own_iconst X226 (v := (1 : Int32)) (pc' := 172) at_171 rfl (by decide) ?_
              refine own_goto X226 (pc' := 176) at_172 (by decide) (by decide) ?_
              subst hΦ
              exact own_retZ X226 at_176 (by decide) (by decide) (by decide) rfl trivial
          · rw [show own_nv (3 : Int32) [(b3 &&& (255 : Int32)), (b4 &&& (255 : Int32))] = (5 : Int32) from by rw [own_nv, e220]; decide]
            refine own_iload X219 (pc' := 138) at_136 rfl rfl ?_
            refine own_callS X219 (W := 0) (argsL := [(.ref ad7), (.int (5 : Int32)), (.int (5 : Int32))]) (rest := []) (S' := [(.int (5 : Int32))]) (pc' := 141) (rm1_B l Z a0 hw n0 ad7 (5 : Int32) (5 : Int32) h17 X219.size (by decide) (by decide)) (hw _ (List.mem_of_getElem? (i := 2) rfl)) (hw _ (List.mem_of_getElem? (i := 3) rfl)) (hw _ (List.mem_of_getElem? (i := 4) rfl)) (hw _ (List.mem_of_getElem? (i := 5) rfl)) (by decide) (by decide) (by decide) rfl rfl (by decide) (by decide) (lenOf pd_0 rfl) rfl (by first | decide | exact Nat.le_of_eq rfl) rfl at_138 rfl rfl ?_
            intro T227 h227 X227 qq227
            rw [show h227 = h17 from qq227] at X227
            refine own_istore X227 (pc' := 143) (Ls' := #[.val (.int b0), .val (.int b1), .val (.int b2), .val (.int b3), .val (.int b4), .val (.int ctl), .val (.ref ad1), .val (.ref ad7), .val (.int (1 : Int32)), .val (.int (4 : Int32)), .val (.int (5 : Int32)), .val (.int (5 : Int32)), .unset]) at_141 rfl rfl ?_
            refine own_iload X227 (pc' := 145) at_143 rfl rfl ?_
            refine own_iload X227 (pc' := 147) at_145 rfl rfl ?_
            refine own_icmp_ne X227 (pct := 154) (pc' := 150) at_147 rfl (by decide) (by decide) (fun hc => absurd hc (by decide)) (fun _ => ?_)
            refine own_iconst X227 (v := (1 : Int32)) (pc' := 151) at_150 rfl (by decide) ?_
            refine own_goto X227 (pc' := 155) at_151 (by decide) (by decide) ?_
            refine own_istore X227 (pc' := 157) (Ls' := #[.val (.int b0), .val (.int b1), .val (.int b2), .val (.int b3), .val (.int b4), .val (.int ctl), .val (.ref ad1), .val (.ref ad7), .val (.int (1 : Int32)), .val (.int (4 : Int32)), .val (.int (5 : Int32)), .val (.int (5 : Int32)), .val (.int (1 : Int32))]) at_155 rfl rfl ?_
            refine own_aload X227 (pc' := 159) at_157 rfl rfl rfl ?_
            refine own_iload X227 (pc' := 161) at_159 rfl rfl ?_
            refine own_iload X227 (pc' := 163) at_161 rfl rfl ?_
            refine own_callS X227 (W := 0) (argsL := [(.ref ad1), (.int (1 : Int32)), (.int (5 : Int32))]) (rest := []) (S' := [(.int (own_w 4 [((b1.toInt8.toInt32) &&& (255 : Int32)), ((b2.toInt8.toInt32) &&& (255 : Int32)), ((b3.toInt8.toInt32) &&& (255 : Int32)), ((b4.toInt8.toInt32) &&& (255 : Int32))]))]) (pc' := 166) (rm3_4 l Z a0 hw n0 ad1 (1 : Int32) (5 : Int32) h17 X227.size _ A18 (b1.toInt8.toInt32) (b2.toInt8.toInt32) (b3.toInt8.toInt32) (b4.toInt8.toInt32) (by decide) (fun t i ht hi => own_H15 _ _ _ _ _ t i ht hi) (c_i2b _).2 (c_i2b _).2 (c_i2b _).2 (c_i2b _).2) (hw _ (List.mem_of_getElem? (i := 9) rfl)) (hw _ (List.mem_of_getElem? (i := 10) rfl)) (hw _ (List.mem_of_getElem? (i := 11) rfl)) (hw _ (List.mem_of_getElem? (i := 12) rfl)) (by decide) (by decide) (by decide) rfl rfl (by decide) (by decide) (lenOf pd_1 rfl) rfl (by first | decide | exact Nat.le_of_eq rfl) rfl at_163 rfl rfl ?_
            intro T228 h228 X228 qq228
            rw [show h228 = h17 from qq228] at X228
            refine own_iload X228 (pc' := 168) at_166 rfl rfl ?_
            refine own_icmp_ne X228 (pct := 175) (pc' := 171) at_168 rfl (by decide) (by decide) (fun hc => absurd hc (fun q => q (by (try simp only [own_m8]); exact (Eq.trans (own_wc e209 (by decide) rfl) (Eq.trans (own_wc e215 (by decide) rfl) (Eq.trans (own_wc e220 (by decide) rfl) (own_wn _))))))) (fun _ => ?_)
            refine own_iconst X228 (v := (1 : Int32)) (pc' := 172) at_171 rfl (by decide) ?_
            refine own_goto X228 (pc' := 176) at_172 (by decide) (by decide) ?_
            subst hΦ
            exact own_retZ X228 at_176 (by decide) (by decide) (by decide) rfl trivial
        · rw [show own_nv (2 : Int32) [(b2 &&& (255 : Int32)), (b3 &&& (255 : Int32)), (b4 &&& (255 : Int32))] = (4 : Int32) from by rw [own_nv, e215]; decide]
          refine own_iload X214 (pc' := 133) at_131 rfl rfl ?_
          refine own_callS X214 (W := 1) (argsL := [(.ref ad7), (.int (4 : Int32)), (.int (5 : Int32))]) (rest := [(.ref ad7)]) (S' := [(.int (own_nv (4 : Int32) [(b4 &&& (255 : Int32))])), (.ref ad7)]) (pc' := 136) (rm1_1 l Z a0 hw n0 ad7 (4 : Int32) (5 : Int32) h17 X214.size _ A17 (b4 &&& (255 : Int32)) (by decide) (by decide) (by decide) rfl rfl (own_mr _)) (hw _ (List.mem_of_getElem? (i := 2) rfl)) (hw _ (List.mem_of_getElem? (i := 3) rfl)) (hw _ (List.mem_of_getElem? (i := 4) rfl)) (hw _ (List.mem_of_getElem? (i := 5) rfl)) (by decide) (by decide) (by decide) rfl rfl (by decide) (by decide) (lenOf pd_0 rfl) rfl (by first | decide | exact Nat.le_of_eq rfl) rfl at_133 rfl rfl ?_
          intro T229 h229 X229 qq229
          rw [show h229 = h17 from qq229] at X229
          rcases own_s1 (b4 &&& (255 : Int32)) with e230 | e230
          · rw [show own_nv (4 : Int32) [(b4 &&& (255 : Int32))] = (-1 : Int32) from by rw [own_nv, e230]; decide]
            refine own_iload X229 (pc' := 138) at_136 rfl rfl ?_
            refine own_callS X229 (W := 0) (argsL := [(.ref ad7), (.int (-1 : Int32)), (.int (5 : Int32))]) (rest := []) (S' := [(.int (-1 : Int32))]) (pc' := 141) (rm1_A l Z a0 hw n0 ad7 (-1 : Int32) (5 : Int32) h17 X229.size (by decide)) (hw _ (List.mem_of_getElem? (i := 2) rfl)) (hw _ (List.mem_of_getElem? (i := 3) rfl)) (hw _ (List.mem_of_getElem? (i := 4) rfl)) (hw _ (List.mem_of_getElem? (i := 5) rfl)) (by decide) (by decide) (by decide) rfl rfl (by decide) (by decide) (lenOf pd_0 rfl) rfl (by first | decide | exact Nat.le_of_eq rfl) rfl at_138 rfl rfl ?_
            intro T231 h231 X231 qq231
            rw [show h231 = h17 from qq231] at X231
            refine own_istore X231 (pc' := 143) (Ls' := #[.val (.int b0), .val (.int b1), .val (.int b2), .val (.int b3), .val (.int b4), .val (.int ctl), .val (.ref ad1), .val (.ref ad7), .val (.int (1 : Int32)), .val (.int (4 : Int32)), .val (.int (5 : Int32)), .val (.int (-1 : Int32)), .unset]) at_141 rfl rfl ?_
            refine own_iload X231 (pc' := 145) at_143 rfl rfl ?_
            refine own_iload X231 (pc' := 147) at_145 rfl rfl ?_
            refine own_icmp_ne X231 (pct := 154) (pc' := 150) at_147 rfl (by decide) (by decide) (fun _ => ?_) (fun hc => absurd hc (by decide))
            refine own_iconst X231 (v := (0 : Int32)) (pc' := 155) at_154 rfl (by decide) ?_
            refine own_istore X231 (pc' := 157) (Ls' := #[.val (.int b0), .val (.int b1), .val (.int b2), .val (.int b3), .val (.int b4), .val (.int ctl), .val (.ref ad1), .val (.ref ad7), .val (.int (1 : Int32)), .val (.int (4 : Int32)), .val (.int (5 : Int32)), .val (.int (-1 : Int32)), .val (.int (0 : Int32))]) at_155 rfl rfl ?_
            refine own_aload X231 (pc' := 159) at_157 rfl rfl rfl ?_
            refine own_iload X231 (pc' := 161) at_159 rfl rfl ?_
            refine own_iload X231 (pc' := 163) at_161 rfl rfl ?_
            refine own_callS X231 (W := 0) (argsL := [(.ref ad1), (.int (1 : Int32)), (.int (5 : Int32))]) (rest := []) (S' := [(.int (own_w 4 [((b1.toInt8.toInt32) &&& (255 : Int32)), ((b2.toInt8.toInt32) &&& (255 : Int32)), ((b3.toInt8.toInt32) &&& (255 : Int32)), ((b4.toInt8.toInt32) &&& (255 : Int32))]))]) (pc' := 166) (rm3_4 l Z a0 hw n0 ad1 (1 : Int32) (5 : Int32) h17 X231.size _ A18 (b1.toInt8.toInt32) (b2.toInt8.toInt32) (b3.toInt8.toInt32) (b4.toInt8.toInt32) (by decide) (fun t i ht hi => own_H15 _ _ _ _ _ t i ht hi) (c_i2b _).2 (c_i2b _).2 (c_i2b _).2 (c_i2b _).2) (hw _ (List.mem_of_getElem? (i := 9) rfl)) (hw _ (List.mem_of_getElem? (i := 10) rfl)) (hw _ (List.mem_of_getElem? (i := 11) rfl)) (hw _ (List.mem_of_getElem? (i := 12) rfl)) (by decide) (by decide) (by decide) rfl rfl (by decide) (by decide) (lenOf pd_1 rfl) rfl (by first | decide | exact Nat.le_of_eq rfl) rfl at_163 rfl rfl ?_
            intro T232 h232 X232 qq232
            rw [show h232 = h17 from qq232] at X232
            refine own_iload X232 (pc' := 168) at_166 rfl rfl ?_
            refine own_icmp_ne X232 (pct := 175) (pc' := 171) at_168 rfl (by decide) (by decide) (fun hc => absurd hc (fun q => q (by (try simp only [own_m8]); exact (Eq.trans (own_wc e209 (by decide) rfl) (Eq.trans (own_wc e215 (by decide) rfl) (own_w0 e230)))))) (fun _ => ?_)
            refine own_iconst X232 (v := (1 : Int32)) (pc' := 172) at_171 rfl (by decide) ?_
            refine own_goto X232 (pc' := 176) at_172 (by decide) (by decide) ?_
            subst hΦ
            exact own_retZ X232 at_176 (by decide) (by decide) (by decide) rfl trivial
          · rw [show own_nv (4 : Int32) [(b4 &&& (255 : Int32))] = (5 : Int32) from by rw [own_nv, e230]; decide]
            refine own_iload X229 (pc' := 138) at_136 rfl rfl ?_
            refine own_callS X229 (W := 0) (argsL := [(.ref ad7), (.int (5 : Int32)), (.int (5 : Int32))]) (rest := []) (S' := [(.int (5 : Int32))]) (pc' := 141) (rm1_B l Z a0 hw n0 ad7 (5 : Int32) (5 : Int32) h17 X229.size (by decide) (by decide)) (hw _ (List.mem_of_getElem? (i := 2) rfl)) (hw _ (List.mem_of_getElem? (i := 3) rfl)) (hw _ (List.mem_of_getElem? (i := 4) rfl)) (hw _ (List.mem_of_getElem? (i := 5) rfl)) (by decide) (by decide) (by decide) rfl rfl (by decide) (by decide) (lenOf pd_0 rfl) rfl (by first | decide | exact Nat.le_of_eq rfl) rfl at_138 rfl rfl ?_
            intro T233 h233 X233 qq233
            rw [show h233 = h17 from qq233] at X233
            refine own_istore X233 (pc' := 143) (Ls' := #[.val (.int b0), .val (.int b1), .val (.int b2), .val (.int b3), .val (.int b4), .val (.int ctl), .val (.ref ad1), .val (.ref ad7), .val (.int (1 : Int32)), .val (.int (4 : Int32)), .val (.int (5 : Int32)), .val (.int (5 : Int32)), .unset]) at_141 rfl rfl ?_
            refine own_iload X233 (pc' := 145) at_143 rfl rfl ?_
            refine own_iload X233 (pc' := 147) at_145 rfl rfl ?_
            refine own_icmp_ne X233 (pct := 154) (pc' := 150) at_147 rfl (by decide) (by decide) (fun hc => absurd hc (by decide)) (fun _ => ?_)
            refine own_iconst X233 (v := (1 : Int32)) (pc' := 151) at_150 rfl (by decide) ?_
            refine own_goto X233 (pc' := 155) at_151 (by decide) (by decide) ?_
            refine own_istore X233 (pc' := 157) (Ls' := #[.val (.int b0), .val (.int b1), .val (.int b2), .val (.int b3), .val (.int b4), .val (.int ctl), .val (.ref ad1), .val (.ref ad7), .val (.int (1 : Int32)), .val (.int (4 : Int32)), .val (.int (5 : Int32)), .val (.int (5 : Int32)), .val (.int (1 : Int32))]) at_155 rfl rfl ?_
            refine own_aload X233 (pc' := 159) at_157 rfl rfl rfl ?_
            refine own_iload X233 (pc' := 161) at_159 rfl rfl ?_
            refine own_iload X233 (pc' := 163) at_161 rfl rfl ?_
            refine own_callS X233 (W := 0) (argsL := [(.ref ad1), (.int (1 : Int32)), (.int (5 : Int32))]) (rest := []) (S' := [(.int (own_w 4 [((b1.toInt8.toInt32) &&& (255 : Int32)), ((b2.toInt8.toInt32) &&& (255 : Int32)), ((b3.toInt8.toInt32) &&& (255 : Int32)), ((b4.toInt8.toInt32) &&& (255 : Int32))]))]) (pc' := 166) (rm3_4 l Z a0 hw n0 ad1 (1 : Int32) (5 : Int32) h17 X233.size _ A18 (b1.toInt8.toInt32) (b2.toInt8.toInt32) (b3.toInt8.toInt32) (b4.toInt8.toInt32) (by decide) (fun t i ht hi => own_H15 _ _ _ _ _ t i ht hi) (c_i2b _).2 (c_i2b _).2 (c_i2b _).2 (c_i2b _).2) (hw _ (List.mem_of_getElem? (i := 9) rfl)) (hw _ (List.mem_of_getElem? (i := 10) rfl)) (hw _ (List.mem_of_getElem? (i := 11) rfl)) (hw _ (List.mem_of_getElem? (i := 12) rfl)) (by decide) (by decide) (by decide) rfl rfl (by decide) (by decide) (lenOf pd_1 rfl) rfl (by first | decide | exact Nat.le_of_eq rfl) rfl at_163 rfl rfl ?_
            intro T234 h234 X234 qq234
            rw [show h234 = h17 from qq234] at X234
            refine own_iload X234 (pc' := 168) at_166 rfl rfl ?_
            refine own_icmp_ne X234 (pct := 175) (pc' := 171) at_168 rfl (by decide) (by decide) (fun hc => absurd hc (fun q => q (by (try simp only [own_m8]); exact (Eq.trans (own_wc e209 (by decide) rfl) (Eq.trans (own_wc e215 (by decide) rfl) (Eq.trans (own_wc e230 (by decide) rfl) (own_wn _))))))) (fun _ => ?_)
            refine own_iconst X234 (v := (1 : Int32)) (pc' := 172) at_171 rfl (by decide) ?_
            refine own_goto X234 (pc' := 176) at_172 (by decide) (by decide) ?_
            subst hΦ
            exact own_retZ X234 at_176 (by decide) (by decide) (by decide) rfl trivial
        · rw [show own_nv (2 : Int32) [(b2 &&& (255 : Int32)), (b3 &&& (255 : Int32)), (b4 &&& (255 : Int32))] = (5 : Int32) from by rw [own_nv, e215]; decide]
          refine own_iload X214 (pc' := 133) at_131 rfl rfl ?_
          refine own_callS X214 (W := 1) (argsL := [(.ref ad7), (.int (5 : Int32)), (.int (5 : Int32))]) (rest := [(.ref ad7)]) (S' := [(.int (5 : Int32)), (.ref ad7)]) (pc' := 136) (rm1_B l Z a0 hw n0 ad7 (5 : Int32) (5 : Int32) h17 X214.size (by decide) (by decide)) (hw _ (List.mem_of_getElem? (i := 2) rfl)) (hw _ (List.mem_of_getElem? (i := 3) rfl)) (hw _ (List.mem_of_getElem? (i := 4) rfl)) (hw _ (List.mem_of_getElem? (i := 5) rfl)) (by decide) (by decide) (by decide) rfl rfl (by decide) (by decide) (lenOf pd_0 rfl) rfl (by first | decide | exact Nat.le_of_eq rfl) rfl at_133 rfl rfl ?_
          intro T235 h235 X235 qq235
          rw [show h235 = h17 from qq235] at X235
          refine own_iload X235 (pc' := 138) at_136 rfl rfl ?_
          refine own_callS X235 (W := 0) (argsL := [(.ref ad7), (.int (5 : Int32)), (.int (5 : Int32))]) (rest := []) (S' := [(.int (5 : Int32))]) (pc' := 141) (rm1_B l Z a0 hw n0 ad7 (5 : Int32) (5 : Int32) h17 X235.size (by decide) (by decide)) (hw _ (List.mem_of_getElem? (i := 2) rfl)) (hw _ (List.mem_of_getElem? (i := 3) rfl)) (hw _ (List.mem_of_getElem? (i := 4) rfl)) (hw _ (List.mem_of_getElem? (i := 5) rfl)) (by decide) (by decide) (by decide) rfl rfl (by decide) (by decide) (lenOf pd_0 rfl) rfl (by first | decide | exact Nat.le_of_eq rfl) rfl at_138 rfl rfl ?_
          intro T236 h236 X236 qq236
          rw [show h236 = h17 from qq236] at X236
          refine own_istore X236 (pc' := 143) (Ls' := #[.val (.int b0), .val (.int b1), .val (.int b2), .val (.int b3), .val (.int b4), .val (.int ctl), .val (.ref ad1), .val (.ref ad7), .val (.int (1 : Int32)), .val (.int (4 : Int32)), .val (.int (5 : Int32)), .val (.int (5 : Int32)), .unset]) at_141 rfl rfl ?_
          refine own_iload X236 (pc' := 145) at_143 rfl rfl ?_
          refine own_iload X236 (pc' := 147) at_145 rfl rfl ?_
          refine own_icmp_ne X236 (pct := 154) (pc' := 150) at_147 rfl (by decide) (by decide) (fun hc => absurd hc (by decide)) (fun _ => ?_)
          refine own_iconst X236 (v := (1 : Int32)) (pc' := 151) at_150 rfl (by decide) ?_
          refine own_goto X236 (pc' := 155) at_151 (by decide) (by decide) ?_
          refine own_istore X236 (pc' := 157) (Ls' := #[.val (.int b0), .val (.int b1), .val (.int b2), .val (.int b3), .val (.int b4), .val (.int ctl), .val (.ref ad1), .val (.ref ad7), .val (.int (1 : Int32)), .val (.int (4 : Int32)), .val (.int (5 : Int32)), .val (.int (5 : Int32)), .val (.int (1 : Int32))]) at_155 rfl rfl ?_
          refine own_aload X236 (pc' := 159) at_157 rfl rfl rfl ?_
          refine own_iload X236 (pc' := 161) at_159 rfl rfl ?_
          refine own_iload X236 (pc' := 163) at_161 rfl rfl ?_
          refine own_callS X236 (W := 0) (argsL := [(.ref ad1), (.int (1 : Int32)), (.int (5 : Int32))]) (rest := []) (S' := [(.int (own_w 4 [((b1.toInt8.toInt32) &&& (255 : Int32)), ((b2.toInt8.toInt32) &&& (255 : Int32)), ((b3.toInt8.toInt32) &&& (255 : Int32)), ((b4.toInt8.toInt32) &&& (255 : Int32))]))]) (pc' := 166) (rm3_4 l Z a0 hw n0 ad1 (1 : Int32) (5 : Int32) h17 X236.size _ A18 (b1.toInt8.toInt32) (b2.toInt8.toInt32) (b3.toInt8.toInt32) (b4.toInt8.toInt32) (by decide) (fun t i ht hi => own_H15 _ _ _ _ _ t i ht hi) (c_i2b _).2 (c_i2b _).2 (c_i2b _).2 (c_i2b _).2) (hw _ (List.mem_of_getElem? (i := 9) rfl)) (hw _ (List.mem_of_getElem? (i := 10) rfl)) (hw _ (List.mem_of_getElem? (i := 11) rfl)) (hw _ (List.mem_of_getElem? (i := 12) rfl)) (by decide) (by decide) (by decide) rfl rfl (by decide) (by decide) (lenOf pd_1 rfl) rfl (by first | decide | exact Nat.le_of_eq rfl) rfl at_163 rfl rfl ?_
          intro T237 h237 X237 qq237
          rw [show h237 = h17 from qq237] at X237
          refine own_iload X237 (pc' := 168) at_166 rfl rfl ?_
          refine own_icmp_ne X237 (pct := 175) (pc' := 171) at_168 rfl (by decide) (by decide) (fun hc => absurd hc (fun q => q (by (try simp only [own_m8]); exact (Eq.trans (own_wc e209 (by decide) rfl) (Eq.trans (own_wc e215 (by decide) rfl) (own_wn _)))))) (fun _ => ?_)
          refine own_iconst X237 (v := (1 : Int32)) (pc' := 172) at_171 rfl (by decide) ?_
          refine own_goto X237 (pc' := 176) at_172 (by decide) (by decide) ?_
          subst hΦ
          exact own_retZ X237 at_176 (by decide) (by decide) (by decide) rfl trivial
      · rw [show own_nv (1 : Int32) [(b1 &&& (255 : Int32)), (b2 &&& (255 : Int32)), (b3 &&& (255 : Int32)), (b4 &&& (255 : Int32))] = (3 : Int32) from by rw [own_nv, e209]; decide]
        refine own_iload X208 (pc' := 128) at_126 rfl rfl ?_
        refine own_callS X208 (W := 2) (argsL := [(.ref ad7), (.int (3 : Int32)), (.int (5 : Int32))]) (rest := [(.ref ad7), (.ref ad7)]) (S' := [(.int (own_nv (3 : Int32) [(b3 &&& (255 : Int32)), (b4 &&& (255 : Int32))])), (.ref ad7), (.ref ad7)]) (pc' := 131) (rm1_2 l Z a0 hw n0 ad7 (3 : Int32) (5 : Int32) h17 X208.size _ A17 (b3 &&& (255 : Int32)) (b4 &&& (255 : Int32)) (by decide) (by decide) (by decide) rfl rfl rfl rfl (own_mr _) (own_mr _)) (hw _ (List.mem_of_getElem? (i := 2) rfl)) (hw _ (List.mem_of_getElem? (i := 3) rfl)) (hw _ (List.mem_of_getElem? (i := 4) rfl)) (hw _ (List.mem_of_getElem? (i := 5) rfl)) (by decide) (by decide) (by decide) rfl rfl (by decide) (by decide) (lenOf pd_0 rfl) rfl (by first | decide | exact Nat.le_of_eq rfl) rfl at_128 rfl rfl ?_
        intro T238 h238 X238 qq238
        rw [show h238 = h17 from qq238] at X238
        rcases own_s2 (b3 &&& (255 : Int32)) (b4 &&& (255 : Int32)) with e239 | e239 | e239
        · rw [show own_nv (3 : Int32) [(b3 &&& (255 : Int32)), (b4 &&& (255 : Int32))] = (-1 : Int32) from by rw [own_nv, e239]; decide]
          refine own_iload X238 (pc' := 133) at_131 rfl rfl ?_
          refine own_callS X238 (W := 1) (argsL := [(.ref ad7), (.int (-1 : Int32)), (.int (5 : Int32))]) (rest := [(.ref ad7)]) (S' := [(.int (-1 : Int32)), (.ref ad7)]) (pc' := 136) (rm1_A l Z a0 hw n0 ad7 (-1 : Int32) (5 : Int32) h17 X238.size (by decide)) (hw _ (List.mem_of_getElem? (i := 2) rfl)) (hw _ (List.mem_of_getElem? (i := 3) rfl)) (hw _ (List.mem_of_getElem? (i := 4) rfl)) (hw _ (List.mem_of_getElem? (i := 5) rfl)) (by decide) (by decide) (by decide) rfl rfl (by decide) (by decide) (lenOf pd_0 rfl) rfl (by first | decide | exact Nat.le_of_eq rfl) rfl at_133 rfl rfl ?_
          intro T240 h240 X240 qq240
          rw [show h240 = h17 from qq240] at X240
          refine own_iload X240 (pc' := 138) at_136 rfl rfl ?_
          refine own_callS X240 (W := 0) (argsL := [(.ref ad7), (.int (-1 : Int32)), (.int (5 : Int32))]) (rest := []) (S' := [(.int (-1 : Int32))]) (pc' := 141) (rm1_A l Z a0 hw n0 ad7 (-1 : Int32) (5 : Int32) h17 X240.size (by decide)) (hw _ (List.mem_of_getElem? (i := 2) rfl)) (hw _ (List.mem_of_getElem? (i := 3) rfl)) (hw _ (List.mem_of_getElem? (i := 4) rfl)) (hw _ (List.mem_of_getElem? (i := 5) rfl)) (by decide) (by decide) (by decide) rfl rfl (by decide) (by decide) (lenOf pd_0 rfl) rfl (by first | decide | exact Nat.le_of_eq rfl) rfl at_138 rfl rfl ?_
          intro T241 h241 X241 qq241
          rw [show h241 = h17 from qq241] at X241
          refine own_istore X241 (pc' := 143) (Ls' := #[.val (.int b0), .val (.int b1), .val (.int b2), .val (.int b3), .val (.int b4), .val (.int ctl), .val (.ref ad1), .val (.ref ad7), .val (.int (1 : Int32)), .val (.int (4 : Int32)), .val (.int (5 : Int32)), .val (.int (-1 : Int32)), .unset]) at_141 rfl rfl ?_
          refine own_iload X241 (pc' := 145) at_143 rfl rfl ?_
          refine own_iload X241 (pc' := 147) at_145 rfl rfl ?_
          refine own_icmp_ne X241 (pct := 154) (pc' := 150) at_147 rfl (by decide) (by decide) (fun _ => ?_) (fun hc => absurd hc (by decide))
          refine own_iconst X241 (v := (0 : Int32)) (pc' := 155) at_154 rfl (by decide) ?_
          refine own_istore X241 (pc' := 157) (Ls' := #[.val (.int b0), .val (.int b1), .val (.int b2), .val (.int b3), .val (.int b4), .val (.int ctl), .val (.ref ad1), .val (.ref ad7), .val (.int (1 : Int32)), .val (.int (4 : Int32)), .val (.int (5 : Int32)), .val (.int (-1 : Int32)), .val (.int (0 : Int32))]) at_155 rfl rfl ?_
          refine own_aload X241 (pc' := 159) at_157 rfl rfl rfl ?_
          refine own_iload X241 (pc' := 161) at_159 rfl rfl ?_
          refine own_iload X241 (pc' := 163) at_161 rfl rfl ?_
          refine own_callS X241 (W := 0) (argsL := [(.ref ad1), (.int (1 : Int32)), (.int (5 : Int32))]) (rest := []) (S' := [(.int (own_w 4 [((b1.toInt8.toInt32) &&& (255 : Int32)), ((b2.toInt8.toInt32) &&& (255 : Int32)), ((b3.toInt8.toInt32) &&& (255 : Int32)), ((b4.toInt8.toInt32) &&& (255 : Int32))]))]) (pc' := 166) (rm3_4 l Z a0 hw n0 ad1 (1 : Int32) (5 : Int32) h17 X241.size _ A18 (b1.toInt8.toInt32) (b2.toInt8.toInt32) (b3.toInt8.toInt32) (b4.toInt8.toInt32) (by decide) (fun t i ht hi => own_H15 _ _ _ _ _ t i ht hi) (c_i2b _).2 (c_i2b _).2 (c_i2b _).2 (c_i2b _).2) (hw _ (List.mem_of_getElem? (i := 9) rfl)) (hw _ (List.mem_of_getElem? (i := 10) rfl)) (hw _ (List.mem_of_getElem? (i := 11) rfl)) (hw _ (List.mem_of_getElem? (i := 12) rfl)) (by decide) (by decide) (by decide) rfl rfl (by decide) (by decide) (lenOf pd_1 rfl) rfl (by first | decide | exact Nat.le_of_eq rfl) rfl at_163 rfl rfl ?_
          intro T242 h242 X242 qq242
          rw [show h242 = h17 from qq242] at X242
          refine own_iload X242 (pc' := 168) at_166 rfl rfl ?_
          refine own_icmp_ne X242 (pct := 175) (pc' := 171) at_168 rfl (by decide) (by decide) (fun hc => absurd hc (fun q => q (by (try simp only [own_m8]); exact (Eq.trans (own_wc e209 (by decide) rfl) (own_w0 e239))))) (fun _ => ?_)
          refine own_iconst X242 (v := (1 : Int32)) (pc' := 172) at_171 rfl (by decide) ?_
          refine own_goto X242 (pc' := 176) at_172 (by decide) (by decide) ?_
          subst hΦ
          exact own_retZ X242 at_176 (by decide) (by decide) (by decide) rfl trivial
        · rw [show own_nv (3 : Int32) [(b3 &&& (255 : Int32)), (b4 &&& (255 : Int32))] = (4 : Int32) from by rw [own_nv, e239]; decide]
          refine own_iload X238 (pc' := 133) at_131 rfl rfl ?_
          refine own_callS X238 (W := 1) (argsL := [(.ref ad7), (.int (4 : Int32)), (.int (5 : Int32))]) (rest := [(.ref ad7)]) (S' := [(.int (own_nv (4 : Int32) [(b4 &&& (255 : Int32))])), (.ref ad7)]) (pc' := 136) (rm1_1 l Z a0 hw n0 ad7 (4 : Int32) (5 : Int32) h17 X238.size _ A17 (b4 &&& (255 : Int32)) (by decide) (by decide) (by decide) rfl rfl (own_mr _)) (hw _ (List.mem_of_getElem? (i := 2) rfl)) (hw _ (List.mem_of_getElem? (i := 3) rfl)) (hw _ (List.mem_of_getElem? (i := 4) rfl)) (hw _ (List.mem_of_getElem? (i := 5) rfl)) (by decide) (by decide) (by decide) rfl rfl (by decide) (by decide) (lenOf pd_0 rfl) rfl (by first | decide | exact Nat.le_of_eq rfl) rfl at_133 rfl rfl ?_
          intro T243 h243 X243 qq243
          rw [show h243 = h17 from qq243] at X243
          rcases own_s1 (b4 &&& (255 : Int32)) with e244 | e244
          · rw [show own_nv (4 : Int32) [(b4 &&& (255 : Int32))] = (-1 : Int32) from by rw [own_nv, e244]; decide]
            refine own_iload X243 (pc' := 138) at_136 rfl rfl ?_
            refine own_callS X243 (W := 0) (argsL := [(.ref ad7), (.int (-1 : Int32)), (.int (5 : Int32))]) (rest := []) (S' := [(.int (-1 : Int32))]) (pc' := 141) (rm1_A l Z a0 hw n0 ad7 (-1 : Int32) (5 : Int32) h17 X243.size (by decide)) (hw _ (List.mem_of_getElem? (i := 2) rfl)) (hw _ (List.mem_of_getElem? (i := 3) rfl)) (hw _ (List.mem_of_getElem? (i := 4) rfl)) (hw _ (List.mem_of_getElem? (i := 5) rfl)) (by decide) (by decide) (by decide) rfl rfl (by decide) (by decide) (lenOf pd_0 rfl) rfl (by first | decide | exact Nat.le_of_eq rfl) rfl at_138 rfl rfl ?_
            intro T245 h245 X245 qq245
            rw [show h245 = h17 from qq245] at X245
            refine own_istore X245 (pc' := 143) (Ls' := #[.val (.int b0), .val (.int b1), .val (.int b2), .val (.int b3), .val (.int b4), .val (.int ctl), .val (.ref ad1), .val (.ref ad7), .val (.int (1 : Int32)), .val (.int (4 : Int32)), .val (.int (5 : Int32)), .val (.int (-1 : Int32)), .unset]) at_141 rfl rfl ?_
            refine own_iload X245 (pc' := 145) at_143 rfl rfl ?_
            refine own_iload X245 (pc' := 147) at_145 rfl rfl ?_
            refine own_icmp_ne X245 (pct := 154) (pc' := 150) at_147 rfl (by decide) (by decide) (fun _ => ?_) (fun hc => absurd hc (by decide))
            refine own_iconst X245 (v := (0 : Int32)) (pc' := 155) at_154 rfl (by decide) ?_
            refine own_istore X245 (pc' := 157) (Ls' := #[.val (.int b0), .val (.int b1), .val (.int b2), .val (.int b3), .val (.int b4), .val (.int ctl), .val (.ref ad1), .val (.ref ad7), .val (.int (1 : Int32)), .val (.int (4 : Int32)), .val (.int (5 : Int32)), .val (.int (-1 : Int32)), .val (.int (0 : Int32))]) at_155 rfl rfl ?_
            refine own_aload X245 (pc' := 159) at_157 rfl rfl rfl ?_
            refine own_iload X245 (pc' := 161) at_159 rfl rfl ?_
            refine own_iload X245 (pc' := 163) at_161 rfl rfl ?_
            refine own_callS X245 (W := 0) (argsL := [(.ref ad1), (.int (1 : Int32)), (.int (5 : Int32))]) (rest := []) (S' := [(.int (own_w 4 [((b1.toInt8.toInt32) &&& (255 : Int32)), ((b2.toInt8.toInt32) &&& (255 : Int32)), ((b3.toInt8.toInt32) &&& (255 : Int32)), ((b4.toInt8.toInt32) &&& (255 : Int32))]))]) (pc' := 166) (rm3_4 l Z a0 hw n0 ad1 (1 : Int32) (5 : Int32) h17 X245.size _ A18 (b1.toInt8.toInt32) (b2.toInt8.toInt32) (b3.toInt8.toInt32) (b4.toInt8.toInt32) (by decide) (fun t i ht hi => own_H15 _ _ _ _ _ t i ht hi) (c_i2b _).2 (c_i2b _).2 (c_i2b _).2 (c_i2b _).2) (hw _ (List.mem_of_getElem? (i := 9) rfl)) (hw _ (List.mem_of_getElem? (i := 10) rfl)) (hw _ (List.mem_of_getElem? (i := 11) rfl)) (hw _ (List.mem_of_getElem? (i := 12) rfl)) (by decide) (by decide) (by decide) rfl rfl (by decide) (by decide) (lenOf pd_1 rfl) rfl (by first | decide | exact Nat.le_of_eq rfl) rfl at_163 rfl rfl ?_
            intro T246 h246 X246 qq246
            rw [show h246 = h17 from qq246] at X246
            refine own_iload X246 (pc' := 168) at_166 rfl rfl ?_
            refine own_icmp_ne X246 (pct := 175) (pc' := 171) at_168 rfl (by decide) (by decide) (fun hc => absurd hc (fun q => q (by (try simp only [own_m8]); exact (Eq.trans (own_wc e209 (by decide) rfl) (Eq.trans (own_wc e239 (by decide) rfl) (own_w0 e244)))))) (fun _ => ?_)
            refine own_iconst X246 (v := (1 : Int32)) (pc' := 172) at_171 rfl (by decide) ?_
            refine own_goto X246 (pc' := 176) at_172 (by decide) (by decide) ?_
            subst hΦ
            exact own_retZ X246 at_176 (by decide) (by decide) (by decide) rfl trivial
          · rw [show own_nv (4 : Int32) [(b4 &&& (255 : Int32))] = (5 : Int32) from by rw [own_nv, e244]; decide]
            refine own_iload X243 (pc' := 138) at_136 rfl rfl ?_
            refine own_callS X243 (W := 0) (argsL := [(.ref ad7), (.int (5 : Int32)), (.int (5 : Int32))]) (rest := []) (S' := [(.int (5 : Int32))]) (pc' := 141) (rm1_B l Z a0 hw n0 ad7 (5 : Int32) (5 : Int32) h17 X243.size (by decide) (by decide)) (hw _ (List.mem_of_getElem? (i := 2) rfl)) (hw _ (List.mem_of_getElem? (i := 3) rfl)) (hw _ (List.mem_of_getElem? (i := 4) rfl)) (hw _ (List.mem_of_getElem? (i := 5) rfl)) (by decide) (by decide) (by decide) rfl rfl (by decide) (by decide) (lenOf pd_0 rfl) rfl (by first | decide | exact Nat.le_of_eq rfl) rfl at_138 rfl rfl ?_
            intro T247 h247 X247 qq247
            rw [show h247 = h17 from qq247] at X247
            refine own_istore X247 (pc' := 143) (Ls' := #[.val (.int b0), .val (.int b1), .val (.int b2), .val (.int b3), .val (.int b4), .val (.int ctl), .val (.ref ad1), .val (.ref ad7), .val (.int (1 : Int32)), .val (.int (4 : Int32)), .val (.int (5 : Int32)), .val (.int (5 : Int32)), .unset]) at_141 rfl rfl ?_
            refine own_iload X247 (pc' := 145) at_143 rfl rfl ?_
            refine own_iload X247 (pc' := 147) at_145 rfl rfl ?_
            refine own_icmp_ne X247 (pct := 154) (pc' := 150) at_147 rfl (by decide) (by decide) (fun hc => absurd hc (by decide)) (fun _ => ?_)
            refine own_iconst X247 (v := (1 : Int32)) (pc' := 151) at_150 rfl (by decide) ?_
            refine own_goto X247 (pc' := 155) at_151 (by decide) (by decide) ?_
            refine own_istore X247 (pc' := 157) (Ls' := #[.val (.int b0), .val (.int b1), .val (.int b2), .val (.int b3), .val (.int b4), .val (.int ctl), .val (.ref ad1), .val (.ref ad7), .val (.int (1 : Int32)), .val (.int (4 : Int32)), .val (.int (5 : Int32)), .val (.int (5 : Int32)), .val (.int (1 : Int32))]) at_155 rfl rfl ?_
            refine own_aload X247 (pc' := 159) at_157 rfl rfl rfl ?_
            refine own_iload X247 (pc' := 161) at_159 rfl rfl ?_
            refine own_iload X247 (pc' := 163) at_161 rfl rfl ?_
            refine own_callS X247 (W := 0) (argsL := [(.ref ad1), (.int (1 : Int32)), (.int (5 : Int32))]) (rest := []) (S' := [(.int (own_w 4 [((b1.toInt8.toInt32) &&& (255 : Int32)), ((b2.toInt8.toInt32) &&& (255 : Int32)), ((b3.toInt8.toInt32) &&& (255 : Int32)), ((b4.toInt8.toInt32) &&& (255 : Int32))]))]) (pc' := 166) (rm3_4 l Z a0 hw n0 ad1 (1 : Int32) (5 : Int32) h17 X247.size _ A18 (b1.toInt8.toInt32) (b2.toInt8.toInt32) (b3.toInt8.toInt32) (b4.toInt8.toInt32) (by decide) (fun t i ht hi => own_H15 _ _ _ _ _ t i ht hi) (c_i2b _).2 (c_i2b _).2 (c_i2b _).2 (c_i2b _).2) (hw _ (List.mem_of_getElem? (i := 9) rfl)) (hw _ (List.mem_of_getElem? (i := 10) rfl)) (hw _ (List.mem_of_getElem? (i := 11) rfl)) (hw _ (List.mem_of_getElem? (i := 12) rfl)) (by decide) (by decide) (by decide) rfl rfl (by decide) (by decide) (lenOf pd_1 rfl) rfl (by first | decide | exact Nat.le_of_eq rfl) rfl at_163 rfl rfl ?_
            intro T248 h248 X248 qq248
            rw [show h248 = h17 from qq248] at X248
            refine own_iload X248 (pc' := 168) at_166 rfl rfl ?_
            refine own_icmp_ne X248 (pct := 175) (pc' := 171) at_168 rfl (by decide) (by decide) (fun hc => absurd hc (fun q => q (by (try simp only [own_m8]); exact (Eq.trans (own_wc e209 (by decide) rfl) (Eq.trans (own_wc e239 (by decide) rfl) (Eq.trans (own_wc e244 (by decide) rfl) (own_wn _))))))) (fun _ => ?_)
            refine own_iconst X248 (v := (1 : Int32)) (pc' := 172) at_171 rfl (by decide) ?_
            refine own_goto X248 (pc' := 176) at_172 (by decide) (by decide) ?_
            subst hΦ
            exact own_retZ X248 at_176 (by decide) (by decide) (by decide) rfl trivial
        · rw [show own_nv (3 : Int32) [(b3 &&& (255 : Int32)), (b4 &&& (255 : Int32))] = (5 : Int32) from by rw [own_nv, e239]; decide]
          refine own_iload X238 (pc' := 133) at_131 rfl rfl ?_
          refine own_callS X238 (W := 1) (argsL := [(.ref ad7), (.int (5 : Int32)), (.int (5 : Int32))]) (rest := [(.ref ad7)]) (S' := [(.int (5 : Int32)), (.ref ad7)]) (pc' := 136) (rm1_B l Z a0 hw n0 ad7 (5 : Int32) (5 : Int32) h17 X238.size (by decide) (by decide)) (hw _ (List.mem_of_getElem? (i := 2) rfl)) (hw _ (List.mem_of_getElem? (i := 3) rfl)) (hw _ (List.mem_of_getElem? (i := 4) rfl)) (hw _ (List.mem_of_getElem? (i := 5) rfl)) (by decide) (by decide) (by decide) rfl rfl (by decide) (by decide) (lenOf pd_0 rfl) rfl (by first | decide | exact Nat.le_of_eq rfl) rfl at_133 rfl rfl ?_
          intro T249 h249 X249 qq249
          rw [show h249 = h17 from qq249] at X249
          refine own_iload X249 (pc' := 138) at_136 rfl rfl ?_
          refine own_callS X249 (W := 0) (argsL := [(.ref ad7), (.int (5 : Int32)), (.int (5 : Int32))]) (rest := []) (S' := [(.int (5 : Int32))]) (pc' := 141) (rm1_B l Z a0 hw n0 ad7 (5 : Int32) (5 : Int32) h17 X249.size (by decide) (by decide)) (hw _ (List.mem_of_getElem? (i := 2) rfl)) (hw _ (List.mem_of_getElem? (i := 3) rfl)) (hw _ (List.mem_of_getElem? (i := 4) rfl)) (hw _ (List.mem_of_getElem? (i := 5) rfl)) (by decide) (by decide) (by decide) rfl rfl (by decide) (by decide) (lenOf pd_0 rfl) rfl (by first | decide | exact Nat.le_of_eq rfl) rfl at_138 rfl rfl ?_
          intro T250 h250 X250 qq250
          rw [show h250 = h17 from qq250] at X250
          refine own_istore X250 (pc' := 143) (Ls' := #[.val (.int b0), .val (.int b1), .val (.int b2), .val (.int b3), .val (.int b4), .val (.int ctl), .val (.ref ad1), .val (.ref ad7), .val (.int (1 : Int32)), .val (.int (4 : Int32)), .val (.int (5 : Int32)), .val (.int (5 : Int32)), .unset]) at_141 rfl rfl ?_
          refine own_iload X250 (pc' := 145) at_143 rfl rfl ?_
          refine own_iload X250 (pc' := 147) at_145 rfl rfl ?_
          refine own_icmp_ne X250 (pct := 154) (pc' := 150) at_147 rfl (by decide) (by decide) (fun hc => absurd hc (by decide)) (fun _ => ?_)
          refine own_iconst X250 (v := (1 : Int32)) (pc' := 151) at_150 rfl (by decide) ?_
          refine own_goto X250 (pc' := 155) at_151 (by decide) (by decide) ?_
          refine own_istore X250 (pc' := 157) (Ls' := #[.val (.int b0), .val (.int b1), .val (.int b2), .val (.int b3), .val (.int b4), .val (.int ctl), .val (.ref ad1), .val (.ref ad7), .val (.int (1 : Int32)), .val (.int (4 : Int32)), .val (.int (5 : Int32)), .val (.int (5 : Int32)), .val (.int (1 : Int32))]) at_155 rfl rfl ?_
          refine own_aload X250 (pc' := 159) at_157 rfl rfl rfl ?_
          refine own_iload X250 (pc' := 161) at_159 rfl rfl ?_
          refine own_iload X250 (pc' := 163) at_161 rfl rfl ?_
          refine own_callS X250 (W := 0) (argsL := [(.ref ad1), (.int (1 : Int32)), (.int (5 : Int32))]) (rest := []) (S' := [(.int (own_w 4 [((b1.toInt8.toInt32) &&& (255 : Int32)), ((b2.toInt8.toInt32) &&& (255 : Int32)), ((b3.toInt8.toInt32) &&& (255 : Int32)), ((b4.toInt8.toInt32) &&& (255 : Int32))]))]) (pc' := 166) (rm3_4 l Z a0 hw n0 ad1 (1 : Int32) (5 : Int32) h17 X250.size _ A18 (b1.toInt8.toInt32) (b2.toInt8.toInt32) (b3.toInt8.toInt32) (b4.toInt8.toInt32) (by decide) (fun t i ht hi => own_H15 _ _ _ _ _ t i ht hi) (c_i2b _).2 (c_i2b _).2 (c_i2b _).2 (c_i2b _).2) (hw _ (List.mem_of_getElem? (i := 9) rfl)) (hw _ (List.mem_of_getElem? (i := 10) rfl)) (hw _ (List.mem_of_getElem? (i := 11) rfl)) (hw _ (List.mem_of_getElem? (i := 12) rfl)) (by decide) (by decide) (by decide) rfl rfl (by decide) (by decide) (lenOf pd_1 rfl) rfl (by first | decide | exact Nat.le_of_eq rfl) rfl at_163 rfl rfl ?_
          intro T251 h251 X251 qq251
          rw [show h251 = h17 from qq251] at X251
          refine own_iload X251 (pc' := 168) at_166 rfl rfl ?_
          refine own_icmp_ne X251 (pct := 175) (pc' := 171) at_168 rfl (by decide) (by decide) (fun hc => absurd hc (fun q => q (by (try simp only [own_m8]); exact (Eq.trans (own_wc e209 (by decide) rfl) (Eq.trans (own_wc e239 (by decide) rfl) (own_wn _)))))) (fun _ => ?_)
          refine own_iconst X251 (v := (1 : Int32)) (pc' := 172) at_171 rfl (by decide) ?_
          refine own_goto X251 (pc' := 176) at_172 (by decide) (by decide) ?_
          subst hΦ
          exact own_retZ X251 at_176 (by decide) (by decide) (by decide) rfl trivial
      · rw [show own_nv (1 : Int32) [(b1 &&& (255 : Int32)), (b2 &&& (255 : Int32)), (b3 &&& (255 : Int32)), (b4 &&& (255 : Int32))] = (4 : Int32) from by rw [own_nv, e209]; decide]
        refine own_iload X208 (pc' := 128) at_126 rfl rfl ?_
        refine own_callS X208 (W := 2) (argsL := [(.ref ad7), (.int (4 : Int32)), (.int (5 : Int32))]) (rest := [(.ref ad7), (.ref ad7)]) (S' := [(.int (own_nv (4 : Int32) [(b4 &&& (255 : Int32))])), (.ref ad7), (.ref ad7)]) (pc' := 131) (rm1_1 l Z a0 hw n0 ad7 (4 : Int32) (5 : Int32) h17 X208.size _ A17 (b4 &&& (255 : Int32)) (by decide) (by decide) (by decide) rfl rfl (own_mr _)) (hw _ (List.mem_of_getElem? (i := 2) rfl)) (hw _ (List.mem_of_getElem? (i := 3) rfl)) (hw _ (List.mem_of_getElem? (i := 4) rfl)) (hw _ (List.mem_of_getElem? (i := 5) rfl)) (by decide) (by decide) (by decide) rfl rfl (by decide) (by decide) (lenOf pd_0 rfl) rfl (by first | decide | exact Nat.le_of_eq rfl) rfl at_128 rfl rfl ?_
        intro T252 h252 X252 qq252
        rw [show h252 = h17 from qq252] at X252
        rcases own_s1 (b4 &&& (255 : Int32)) with e253 | e253
        · rw [show own_nv (4 : Int32) [(b4 &&& (255 : Int32))] = (-1 : Int32) from by rw [own_nv, e253]; decide]
          refine own_iload X252 (pc' := 133) at_131 rfl rfl ?_
          refine own_callS X252 (W := 1) (argsL := [(.ref ad7), (.int (-1 : Int32)), (.int (5 : Int32))]) (rest := [(.ref ad7)]) (S' := [(.int (-1 : Int32)), (.ref ad7)]) (pc' := 136) (rm1_A l Z a0 hw n0 ad7 (-1 : Int32) (5 : Int32) h17 X252.size (by decide)) (hw _ (List.mem_of_getElem? (i := 2) rfl)) (hw _ (List.mem_of_getElem? (i := 3) rfl)) (hw _ (List.mem_of_getElem? (i := 4) rfl)) (hw _ (List.mem_of_getElem? (i := 5) rfl)) (by decide) (by decide) (by decide) rfl rfl (by decide) (by decide) (lenOf pd_0 rfl) rfl (by first | decide | exact Nat.le_of_eq rfl) rfl at_133 rfl rfl ?_
          intro T254 h254 X254 qq254
          rw [show h254 = h17 from qq254] at X254
          refine own_iload X254 (pc' := 138) at_136 rfl rfl ?_
          refine own_callS X254 (W := 0) (argsL := [(.ref ad7), (.int (-1 : Int32)), (.int (5 : Int32))]) (rest := []) (S' := [(.int (-1 : Int32))]) (pc' := 141) (rm1_A l Z a0 hw n0 ad7 (-1 : Int32) (5 : Int32) h17 X254.size (by decide)) (hw _ (List.mem_of_getElem? (i := 2) rfl)) (hw _ (List.mem_of_getElem? (i := 3) rfl)) (hw _ (List.mem_of_getElem? (i := 4) rfl)) (hw _ (List.mem_of_getElem? (i := 5) rfl)) (by decide) (by decide) (by decide) rfl rfl (by decide) (by decide) (lenOf pd_0 rfl) rfl (by first | decide | exact Nat.le_of_eq rfl) rfl at_138 rfl rfl ?_
          intro T255 h255 X255 qq255
          rw [show h255 = h17 from qq255] at X255
          refine own_istore X255 (pc' := 143) (Ls' := #[.val (.int b0), .val (.int b1), .val (.int b2), .val (.int b3), .val (.int b4), .val (.int ctl), .val (.ref ad1), .val (.ref ad7), .val (.int (1 : Int32)), .val (.int (4 : Int32)), .val (.int (5 : Int32)), .val (.int (-1 : Int32)), .unset]) at_141 rfl rfl ?_
          refine own_iload X255 (pc' := 145) at_143 rfl rfl ?_
          refine own_iload X255 (pc' := 147) at_145 rfl rfl ?_
          refine own_icmp_ne X255 (pct := 154) (pc' := 150) at_147 rfl (by decide) (by decide) (fun _ => ?_) (fun hc => absurd hc (by decide))
          refine own_iconst X255 (v := (0 : Int32)) (pc' := 155) at_154 rfl (by decide) ?_
          refine own_istore X255 (pc' := 157) (Ls' := #[.val (.int b0), .val (.int b1), .val (.int b2), .val (.int b3), .val (.int b4), .val (.int ctl), .val (.ref ad1), .val (.ref ad7), .val (.int (1 : Int32)), .val (.int (4 : Int32)), .val (.int (5 : Int32)), .val (.int (-1 : Int32)), .val (.int (0 : Int32))]) at_155 rfl rfl ?_
          refine own_aload X255 (pc' := 159) at_157 rfl rfl rfl ?_
          refine own_iload X255 (pc' := 161) at_159 rfl rfl ?_
          refine own_iload X255 (pc' := 163) at_161 rfl rfl ?_
          refine own_callS X255 (W := 0) (argsL := [(.ref ad1), (.int (1 : Int32)), (.int (5 : Int32))]) (rest := []) (S' := [(.int (own_w 4 [((b1.toInt8.toInt32) &&& (255 : Int32)), ((b2.toInt8.toInt32) &&& (255 : Int32)), ((b3.toInt8.toInt32) &&& (255 : Int32)), ((b4.toInt8.toInt32) &&& (255 : Int32))]))]) (pc' := 166) (rm3_4 l Z a0 hw n0 ad1 (1 : Int32) (5 : Int32) h17 X255.size _ A18 (b1.toInt8.toInt32) (b2.toInt8.toInt32) (b3.toInt8.toInt32) (b4.toInt8.toInt32) (by decide) (fun t i ht hi => own_H15 _ _ _ _ _ t i ht hi) (c_i2b _).2 (c_i2b _).2 (c_i2b _).2 (c_i2b _).2) (hw _ (List.mem_of_getElem? (i := 9) rfl)) (hw _ (List.mem_of_getElem? (i := 10) rfl)) (hw _ (List.mem_of_getElem? (i := 11) rfl)) (hw _ (List.mem_of_getElem? (i := 12) rfl)) (by decide) (by decide) (by decide) rfl rfl (by decide) (by decide) (lenOf pd_1 rfl) rfl (by first | decide | exact Nat.le_of_eq rfl) rfl at_163 rfl rfl ?_
          intro T256 h256 X256 qq256
          rw [show h256 = h17 from qq256] at X256
          refine own_iload X256 (pc' := 168) at_166 rfl rfl ?_
          refine own_icmp_ne X256 (pct := 175) (pc' := 171) at_168 rfl (by decide) (by decide) (fun hc => absurd hc (fun q => q (by (try simp only [own_m8]); exact (Eq.trans (own_wc e209 (by decide) rfl) (own_w0 e253))))) (fun _ => ?_)
          refine own_iconst X256 (v := (1 : Int32)) (pc' := 172) at_171 rfl (by decide) ?_
          refine own_goto X256 (pc' := 176) at_172 (by decide) (by decide) ?_
          subst hΦ
          exact own_retZ X256 at_176 (by decide) (by decide) (by decide) rfl trivial
        · rw [show own_nv (4 : Int32) [(b4 &&& (255 : Int32))] = (5 : Int32) from by rw [own_nv, e253]; decide]
          refine own_iload X252 (pc' := 133) at_131 rfl rfl ?_
          refine own_callS X252 (W := 1) (argsL := [(.ref ad7), (.int (5 : Int32)), (.int (5 : Int32))]) (rest := [(.ref ad7)]) (S' := [(.int (5 : Int32)), (.ref ad7)]) (pc' := 136) (rm1_B l Z a0 hw n0 ad7 (5 : Int32) (5 : Int32) h17 X252.size (by decide) (by decide)) (hw _ (List.mem_of_getElem? (i := 2) rfl)) (hw _ (List.mem_of_getElem? (i := 3) rfl)) (hw _ (List.mem_of_getElem? (i := 4) rfl)) (hw _ (List.mem_of_getElem? (i := 5) rfl)) (by decide) (by decide) (by decide) rfl rfl (by decide) (by decide) (lenOf pd_0 rfl) rfl (by first | decide | exact Nat.le_of_eq rfl) rfl at_133 rfl rfl ?_
          intro T257 h257 X257 qq257
          rw [show h257 = h17 from qq257] at X257
          refine own_iload X257 (pc' := 138) at_136 rfl rfl ?_
          refine own_callS X257 (W := 0) (argsL := [(.ref ad7), (.int (5 : Int32)), (.int (5 : Int32))]) (rest := []) (S' := [(.int (5 : Int32))]) (pc' := 141) (rm1_B l Z a0 hw n0 ad7 (5 : Int32) (5 : Int32) h17 X257.size (by decide) (by decide)) (hw _ (List.mem_of_getElem? (i := 2) rfl)) (hw _ (List.mem_of_getElem? (i := 3) rfl)) (hw _ (List.mem_of_getElem? (i := 4) rfl)) (hw _ (List.mem_of_getElem? (i := 5) rfl)) (by decide) (by decide) (by decide) rfl rfl (by decide) (by decide) (lenOf pd_0 rfl) rfl (by first | decide | exact Nat.le_of_eq rfl) rfl at_138 rfl rfl ?_
          intro T258 h258 X258 qq258
          rw [show h258 = h17 from qq258] at X258
          refine own_istore X258 (pc' := 143) (Ls' := #[.val (.int b0), .val (.int b1), .val (.int b2), .val (.int b3), .val (.int b4), .val (.int ctl), .val (.ref ad1), .val (.ref ad7), .val (.int (1 : Int32)), .val (.int (4 : Int32)), .val (.int (5 : Int32)), .val (.int (5 : Int32)), .unset]) at_141 rfl rfl ?_
          refine own_iload X258 (pc' := 145) at_143 rfl rfl ?_
          refine own_iload X258 (pc' := 147) at_145 rfl rfl ?_
          refine own_icmp_ne X258 (pct := 154) (pc' := 150) at_147 rfl (by decide) (by decide) (fun hc => absurd hc (by decide)) (fun _ => ?_)
          refine own_iconst X258 (v := (1 : Int32)) (pc' := 151) at_150 rfl (by decide) ?_
          refine own_goto X258 (pc' := 155) at_151 (by decide) (by decide) ?_
          refine own_istore X258 (pc' := 157) (Ls' := #[.val (.int b0), .val (.int b1), .val (.int b2), .val (.int b3), .val (.int b4), .val (.int ctl), .val (.ref ad1), .val (.ref ad7), .val (.int (1 : Int32)), .val (.int (4 : Int32)), .val (.int (5 : Int32)), .val (.int (5 : Int32)), .val (.int (1 : Int32))]) at_155 rfl rfl ?_
          refine own_aload X258 (pc' := 159) at_157 rfl rfl rfl ?_
          refine own_iload X258 (pc' := 161) at_159 rfl rfl ?_
          refine own_iload X258 (pc' := 163) at_161 rfl rfl ?_
          refine own_callS X258 (W := 0) (argsL := [(.ref ad1), (.int (1 : Int32)), (.int (5 : Int32))]) (rest := []) (S' := [(.int (own_w 4 [((b1.toInt8.toInt32) &&& (255 : Int32)), ((b2.toInt8.toInt32) &&& (255 : Int32)), ((b3.toInt8.toInt32) &&& (255 : Int32)), ((b4.toInt8.toInt32) &&& (255 : Int32))]))]) (pc' := 166) (rm3_4 l Z a0 hw n0 ad1 (1 : Int32) (5 : Int32) h17 X258.size _ A18 (b1.toInt8.toInt32) (b2.toInt8.toInt32) (b3.toInt8.toInt32) (b4.toInt8.toInt32) (by decide) (fun t i ht hi => own_H15 _ _ _ _ _ t i ht hi) (c_i2b _).2 (c_i2b _).2 (c_i2b _).2 (c_i2b _).2) (hw _ (List.mem_of_getElem? (i := 9) rfl)) (hw _ (List.mem_of_getElem? (i := 10) rfl)) (hw _ (List.mem_of_getElem? (i := 11) rfl)) (hw _ (List.mem_of_getElem? (i := 12) rfl)) (by decide) (by decide) (by decide) rfl rfl (by decide) (by decide) (lenOf pd_1 rfl) rfl (by first | decide | exact Nat.le_of_eq rfl) rfl at_163 rfl rfl ?_
          intro T259 h259 X259 qq259
          rw [show h259 = h17 from qq259] at X259
          refine own_iload X259 (pc' := 168) at_166 rfl rfl ?_
          refine own_icmp_ne X259 (pct := 175) (pc' := 171) at_168 rfl (by decide) (by decide) (fun hc => absurd hc (fun q => q (by (try simp only [own_m8]); exact (Eq.trans (own_wc e209 (by decide) rfl) (Eq.trans (own_wc e253 (by decide) rfl) (own_wn _)))))) (fun _ => ?_)
          refine own_iconst X259 (v := (1 : Int32)) (pc' := 172) at_171 rfl (by decide) ?_
          refine own_goto X259 (pc' := 176) at_172 (by decide) (by decide) ?_
          subst hΦ
          exact own_retZ X259 at_176 (by decide) (by decide) (by decide) rfl trivial
      · rw [show own_nv (1 : Int32) [(b1 &&& (255 : Int32)), (b2 &&& (255 : Int32)), (b3 &&& (255 : Int32)), (b4 &&& (255 : Int32))] = (5 : Int32) from by rw [own_nv, e209]; decide]
        refine own_iload X208 (pc' := 128) at_126 rfl rfl ?_
        refine own_callS X208 (W := 2) (argsL := [(.ref ad7), (.int (5 : Int32)), (.int (5 : Int32))]) (rest := [(.ref ad7), (.ref ad7)]) (S' := [(.int (5 : Int32)), (.ref ad7), (.ref ad7)]) (pc' := 131) (rm1_B l Z a0 hw n0 ad7 (5 : Int32) (5 : Int32) h17 X208.size (by decide) (by decide)) (hw _ (List.mem_of_getElem? (i := 2) rfl)) (hw _ (List.mem_of_getElem? (i := 3) rfl)) (hw _ (List.mem_of_getElem? (i := 4) rfl)) (hw _ (List.mem_of_getElem? (i := 5) rfl)) (by decide) (by decide) (by decide) rfl rfl (by decide) (by decide) (lenOf pd_0 rfl) rfl (by first | decide | exact Nat.le_of_eq rfl) rfl at_128 rfl rfl ?_
        intro T260 h260 X260 qq260
        rw [show h260 = h17 from qq260] at X260
        refine own_iload X260 (pc' := 133) at_131 rfl rfl ?_
        refine own_callS X260 (W := 1) (argsL := [(.ref ad7), (.int (5 : Int32)), (.int (5 : Int32))]) (rest := [(.ref ad7)]) (S' := [(.int (5 : Int32)), (.ref ad7)]) (pc' := 136) (rm1_B l Z a0 hw n0 ad7 (5 : Int32) (5 : Int32) h17 X260.size (by decide) (by decide)) (hw _ (List.mem_of_getElem? (i := 2) rfl)) (hw _ (List.mem_of_getElem? (i := 3) rfl)) (hw _ (List.mem_of_getElem? (i := 4) rfl)) (hw _ (List.mem_of_getElem? (i := 5) rfl)) (by decide) (by decide) (by decide) rfl rfl (by decide) (by decide) (lenOf pd_0 rfl) rfl (by first | decide | exact Nat.le_of_eq rfl) rfl at_133 rfl rfl ?_
        intro T261 h261 X261 qq261
        rw [show h261 = h17 from qq261] at X261
        refine own_iload X261 (pc' := 138) at_136 rfl rfl ?_
        refine own_callS X261 (W := 0) (argsL := [(.ref ad7), (.int (5 : Int32)), (.int (5 : Int32))]) (rest := []) (S' := [(.int (5 : Int32))]) (pc' := 141) (rm1_B l Z a0 hw n0 ad7 (5 : Int32) (5 : Int32) h17 X261.size (by decide) (by decide)) (hw _ (List.mem_of_getElem? (i := 2) rfl)) (hw _ (List.mem_of_getElem? (i := 3) rfl)) (hw _ (List.mem_of_getElem? (i := 4) rfl)) (hw _ (List.mem_of_getElem? (i := 5) rfl)) (by decide) (by decide) (by decide) rfl rfl (by decide) (by decide) (lenOf pd_0 rfl) rfl (by first | decide | exact Nat.le_of_eq rfl) rfl at_138 rfl rfl ?_
        intro T262 h262 X262 qq262
        rw [show h262 = h17 from qq262] at X262
        refine own_istore X262 (pc' := 143) (Ls' := #[.val (.int b0), .val (.int b1), .val (.int b2), .val (.int b3), .val (.int b4), .val (.int ctl), .val (.ref ad1), .val (.ref ad7), .val (.int (1 : Int32)), .val (.int (4 : Int32)), .val (.int (5 : Int32)), .val (.int (5 : Int32)), .unset]) at_141 rfl rfl ?_
        refine own_iload X262 (pc' := 145) at_143 rfl rfl ?_
        refine own_iload X262 (pc' := 147) at_145 rfl rfl ?_
        refine own_icmp_ne X262 (pct := 154) (pc' := 150) at_147 rfl (by decide) (by decide) (fun hc => absurd hc (by decide)) (fun _ => ?_)
        refine own_iconst X262 (v := (1 : Int32)) (pc' := 151) at_150 rfl (by decide) ?_
        refine own_goto X262 (pc' := 155) at_151 (by decide) (by decide) ?_
        refine own_istore X262 (pc' := 157) (Ls' := #[.val (.int b0), .val (.int b1), .val (.int b2), .val (.int b3), .val (.int b4), .val (.int ctl), .val (.ref ad1), .val (.ref ad7), .val (.int (1 : Int32)), .val (.int (4 : Int32)), .val (.int (5 : Int32)), .val (.int (5 : Int32)), .val (.int (1 : Int32))]) at_155 rfl rfl ?_
        refine own_aload X262 (pc' := 159) at_157 rfl rfl rfl ?_
        refine own_iload X262 (pc' := 161) at_159 rfl rfl ?_
        refine own_iload X262 (pc' := 163) at_161 rfl rfl ?_
        refine own_callS X262 (W := 0) (argsL := [(.ref ad1), (.int (1 : Int32)), (.int (5 : Int32))]) (rest := []) (S' := [(.int (own_w 4 [((b1.toInt8.toInt32) &&& (255 : Int32)), ((b2.toInt8.toInt32) &&& (255 : Int32)), ((b3.toInt8.toInt32) &&& (255 : Int32)), ((b4.toInt8.toInt32) &&& (255 : Int32))]))]) (pc' := 166) (rm3_4 l Z a0 hw n0 ad1 (1 : Int32) (5 : Int32) h17 X262.size _ A18 (b1.toInt8.toInt32) (b2.toInt8.toInt32) (b3.toInt8.toInt32) (b4.toInt8.toInt32) (by decide) (fun t i ht hi => own_H15 _ _ _ _ _ t i ht hi) (c_i2b _).2 (c_i2b _).2 (c_i2b _).2 (c_i2b _).2) (hw _ (List.mem_of_getElem? (i := 9) rfl)) (hw _ (List.mem_of_getElem? (i := 10) rfl)) (hw _ (List.mem_of_getElem? (i := 11) rfl)) (hw _ (List.mem_of_getElem? (i := 12) rfl)) (by decide) (by decide) (by decide) rfl rfl (by decide) (by decide) (lenOf pd_1 rfl) rfl (by first | decide | exact Nat.le_of_eq rfl) rfl at_163 rfl rfl ?_
        intro T263 h263 X263 qq263
        rw [show h263 = h17 from qq263] at X263
        refine own_iload X263 (pc' := 168) at_166 rfl rfl ?_
        refine own_icmp_ne X263 (pct := 175) (pc' := 171) at_168 rfl (by decide) (by decide) (fun hc => absurd hc (fun q => q (by (try simp only [own_m8]); exact (Eq.trans (own_wc e209 (by decide) rfl) (own_wn _))))) (fun _ => ?_)
        refine own_iconst X263 (v := (1 : Int32)) (pc' := 172) at_171 rfl (by decide) ?_
        refine own_goto X263 (pc' := 176) at_172 (by decide) (by decide) ?_
        subst hΦ
        exact own_retZ X263 at_176 (by decide) (by decide) (by decide) rfl trivial
set_option maxRecDepth 65536 in
set_option maxHeartbeats 4000000 in
theorem comes_1 {Post : Tables → Env → Array Value → State → Outcome → State → Prop} (hpost : ∀ tb e args s v u, (limb_1_1.after args s (.returned v) u = true ∧ limb_1_2.after args s (.returned v) u = true ∧ True) → FrameEnd s (.returned v) u (Jvm.fieldLocs frame_1_writes args s ++ Jvm.arrayLocs frame_1_arrays args s ++ Jvm.staticLocs frame_1_statics s) 16 128 → Post tb e args s (.returned v) u) :
    ArmFor flags0 classFile x code maxLocals ret World_1 tables_1 room_1 Calls_1 rest_1 Pre_1 Post := by
  intro l hfl _ _ p e ha hc hk s m args below hf hA hF happ hP
  obtain ⟨hcalls, hrest, hpre⟩ := hP
  obtain ⟨-, -, -, hnamed, -, -, -, hat⟩ := (Spec.applies_iff hf).mp happ
  obtain ⟨hg, hn⟩ := and_e (Cond.before_iff.mp (show (Jvm.Cond.and given_1 narrow_1).before args s = true from hpre))
  obtain ⟨hcnt, r0⟩ := and_e hg
  obtain ⟨k0, r1⟩ := and_e r0
  obtain ⟨k1, r2⟩ := and_e r1
  obtain ⟨k2, r3⟩ := and_e r2
  obtain ⟨k3, r4⟩ := and_e r3
  obtain ⟨k4, r5⟩ := and_e r4
  obtain ⟨w0, w1, w2, w3, w4, w5, rfl⟩ : ∃ w0 w1 w2 w3 w4 w5 : Value, args = #[w0, w1, w2, w3, w4, w5] := by
    have hs : args.size = 6 := by simpa [Cond.value, given_1] using hcnt
    obtain ⟨L⟩ := args
    match L, hs with
    | [w0, w1, w2, w3, w4, w5], _ => exact ⟨w0, w1, w2, w3, w4, w5, rfl⟩
  have hw := fun d (hd : d ∈ tables_1) => atoms_spec (ws := Jvm.Cond.code x code maxLocals ret :: tables_1) hat d (List.mem_cons_of_mem _ hd)
  obtain ⟨i0, ei0⟩ := is_v k0
  obtain rfl : w0 = (.int i0) := Option.some.inj ei0
  obtain ⟨i1, ei1⟩ := is_v k1
  obtain rfl : w1 = (.int i1) := Option.some.inj ei1
  obtain ⟨i2, ei2⟩ := is_v k2
  obtain rfl : w2 = (.int i2) := Option.some.inj ei2
  obtain ⟨i3, ei3⟩ := is_v k3
  obtain rfl : w3 = (.int i3) := Option.some.inj ei3
  obtain ⟨i4, ei4⟩ := is_v k4
  obtain rfl : w4 = (.int i4) := Option.some.inj ei4
  obtain ⟨i5, ei5⟩ := is_v r5
  obtain rfl : w5 = (.int i5) := Option.some.inj ei5
  obtain ⟨n, o, h1, h2, h3, _, L, rfl, ⟨⟨rfl, -⟩, N⟩, hq⟩ := rm0 l s _ hw s.heap.size i0 i1 i2 i3 i4 i5 s.heap (Nat.le_refl _) tables_1 p e ha hc hk s m _ below hf ((Spec.applies_iff_loose hf).mp happ).1 ⟨rfl, State.Warmed39.refl s, rfl⟩ trivial
  refine ⟨n, _, h1, h2, h3, hpost _ _ _ _ _ _ ⟨Cond.after_iff.mpr rfl, Cond.after_iff.mpr (eq_i res_at (Term.int_eval (1)) rfl), trivial⟩ ⟨hq.1, hq.2.1, (hq.2.2.sift fun y hy => Or.inr (N y hy)).mono (by decide) (by decide)⟩⟩
theorem main_1_1 : Claimed_1_1 := comes_1 fun _ _ _ _ _ _ h hF => ⟨h.1, hF⟩
theorem main_1_2 : Claimed_1_2 := comes_1 fun _ _ _ _ _ _ h hF => ⟨h.2.1, hF⟩
end Jvm.Pilot.@@N@@
namespace Jvm.Pilot.@@N@@
open Jvm Jvm.ClassFile Sem Op Lib Jvm.Free Jvm.Stand Jvm.Pilot.@@N@@.Jvm.D
/-! MADE BY PROGRAM (witnessworld.py) out of the Statement's table words and the real class files: 9 classes; the members and pool entries that the words name. The judged class is class 1, her method 1. -/
namespace start1
open Jvm.ClassFile
def u (s : String) : CpInfo := .utf8 (stringToUtf16 s)
/-- a pool by its gaps: so many unusable entries, then the entry; so many at the end -/
def gap : Nat → List CpInfo → List CpInfo
  | 0, r => r
  | n + 1, r => .unusable :: gap n r
def poolList (es : List (Nat × CpInfo)) (last : Nat) : List CpInfo := es.foldr (fun e r => gap e.1 (e.2 :: r)) (gap last [])
def pool (es : List (Nat × CpInfo)) (last : Nat) : Array CpInfo := ⟨poolList es last⟩
def fileOf (pool : Array CpInfo) (this : Nat) (attrs : Array Attribute := #[]) (ms : Array MethodInfo := #[]) (fl : Nat := 33) (sup : Nat := 0) (ifs : Array Nat := #[]) (fds : Array FieldInfo := #[]) : ClassFile where
  minorVersion := 0
  majorVersion := 65
  constantPool := pool
  accessFlags := fl
  thisClass := this
  superClass := sup
  interfaces := ifs
  fields := fds
  methods := ms
  attributes := attrs
def plain (name : String) (sup : Option ClassId) : Class where
  name := name
  kind := .ordinary
  loader := none
  accessFlags := 33
  super := sup
  interfaces := #[]
  cf := none
  fields := #[]
  methods := #[]
  instanceTypes := #[]
  staticTypes := #[]
  resolved := #[]
  callSites := []
  init := .initialized
  statics := none
  mirror := none

def pool0 : Array CpInfo := pool [(5, u "<init>"), (0, u "()V"), (1, .class_ 10), (1, u "java/lang/Object")] 113

def k0m0 : Method := { name := "<init>", desc := "()V", sig := { parameters := [], returnType := none }, accessFlags := 1, code := none }
/-- java/lang/Object -/
def k0 : Class := { plain "java/lang/Object" none with
  accessFlags := 33
  interfaces := #[]
  cf := some (fileOf pool0 8 #[] #[{ accessFlags := 1, nameIndex := 5, descriptorIndex := 6, attributes := #[] }] 33 0 #[] #[])
  fields := #[]
  methods := #[k0m0]
  instanceTypes := #[]
  staticTypes := #[]
  resolved := Array.replicate 124 none
  statics := none }

def pool1 : Array CpInfo := pool [(2, .class_ 4), (1, u "java/lang/Object"), (0, u "<init>"), (0, u "()V"), (0, .methodref 8 9), (0, .class_ 10), (0, .nameAndType 11 12), (0, u "com/example/vegeu/vegeu/model/Utf8IsWellFormedPinLaw"), (0, u "next"), (0, u "([III)I"), (0, .methodref 14 15), (0, .class_ 16), (0, .nameAndType 17 18), (0, u "com/example/vegeu/vegeu/model/Utf8"), (0, u "isWellFormed"), (0, u "([BII)Z"), (0, .methodref 8 20), (0, .nameAndType 21 12), (0, u "seq"), (0, .integer 65536), (0, .integer 55296), (0, .integer 57343), (0, .integer 1114111), (2, u "law"), (0, u "(IIIIII)Z")] 7

def k1m0 : Method := { name := "<init>", desc := "()V", sig := { parameters := [], returnType := none }, accessFlags := 2, code := none }
def k1c1 : Code := { maxStack := 6, maxLocals := 13, code := code, exceptionTable := #[], attributes := #[] }
def k1m1 : Method := { name := "law", desc := "(IIIIII)Z", sig := { parameters := [.int, .int, .int, .int, .int, .int], returnType := some .boolean }, accessFlags := 9, code := some k1c1 }
def k1c2 : Code := { maxStack := 3, maxLocals := 4, code := method_3_code, exceptionTable := #[], attributes := #[] }
def k1m2 : Method := { name := "next", desc := "([III)I", sig := { parameters := [(.array .int), .int, .int], returnType := some .int }, accessFlags := 10, code := some k1c2 }
def k1c3 : Code := { maxStack := 3, maxLocals := 9, code := method_4_code, exceptionTable := #[], attributes := #[] }
def k1m3 : Method := { name := "seq", desc := "([III)I", sig := { parameters := [(.array .int), .int, .int], returnType := some .int }, accessFlags := 10, code := some k1c3 }
/-- com/example/vegeu/vegeu/model/Utf8IsWellFormedPinLaw -/
def k1 : Class := { plain "com/example/vegeu/vegeu/model/Utf8IsWellFormedPinLaw" (some 0) with
  accessFlags := 49
  interfaces := #[]
  cf := some (fileOf pool1 8 #[] #[{ accessFlags := 2, nameIndex := 5, descriptorIndex := 6, attributes := #[] }, { accessFlags := 9, nameIndex := 28, descriptorIndex := 29, attributes := #[] }, { accessFlags := 10, nameIndex := 11, descriptorIndex := 12, attributes := #[] }, { accessFlags := 10, nameIndex := 21, descriptorIndex := 12, attributes := #[] }] 49 2 #[] #[])
  fields := #[]
  methods := #[k1m0, k1m1, k1m2, k1m3]
  instanceTypes := #[]
  staticTypes := #[]
  resolved := Array.replicate 37 none
  statics := none }

def pool2 : Array CpInfo := pool [(2, .class_ 4), (1, u "java/lang/Object"), (0, u "<init>"), (0, u "()V"), (11, .class_ 20), (1, u "com/example/vegeu/vegeu/model/Utf8"), (41, u "CODING_AT"), (0, u "I"), (2, u "REPLACEMENT"), (0, u "C"), (6, u "isWellFormed"), (0, u "([BII)Z")] 6

def k2m0 : Method := { name := "<init>", desc := "()V", sig := { parameters := [], returnType := none }, accessFlags := 2, code := none }
def k2c1 : Code := { maxStack := 3, maxLocals := 10, code := prog_75_method_6_code, exceptionTable := #[], attributes := #[] }
def k2m1 : Method := { name := "isWellFormed", desc := "([BII)Z", sig := { parameters := [(.array .byte), .int, .int], returnType := some .boolean }, accessFlags := 8, code := some k2c1 }
/-- com/example/vegeu/vegeu/model/Utf8 -/
def k2 : Class := { plain "com/example/vegeu/vegeu/model/Utf8" (some 0) with
  accessFlags := 48
  interfaces := #[]
  cf := some (fileOf pool2 18 #[] #[{ accessFlags := 2, nameIndex := 5, descriptorIndex := 6, attributes := #[] }, { accessFlags := 8, nameIndex := 74, descriptorIndex := 75, attributes := #[] }] 48 2 #[] #[{ accessFlags := 24, nameIndex := 62, descriptorIndex := 63, attributes := #[] }, { accessFlags := 26, nameIndex := 66, descriptorIndex := 67, attributes := #[] }])
  fields := #[{ name := "CODING_AT", type := .int, accessFlags := 24, slot := 0, constantValue := 0 }, { name := "REPLACEMENT", type := .char, accessFlags := 26, slot := 1, constantValue := 0 }]
  methods := #[k2m0, k2m1]
  instanceTypes := #[]
  staticTypes := #[.int, .char]
  resolved := Array.replicate 82 none
  statics := none }

def pool3 : Array CpInfo := pool [(1, u "java/lang/Cloneable"), (0, .class_ 1), (0, u "java/lang/Object"), (0, .class_ 3)] 3

/-- java/lang/Cloneable -/
def k3 : Class := { plain "java/lang/Cloneable" (some 0) with
  accessFlags := 1537
  interfaces := #[]
  cf := some (fileOf pool3 2 #[] #[] 1537 4 #[] #[])
  fields := #[]
  methods := #[]
  instanceTypes := #[]
  staticTypes := #[]
  resolved := Array.replicate 8 none
  statics := none }

def pool4 : Array CpInfo := pool [(1, u "java/io/Serializable"), (0, .class_ 1), (0, u "java/lang/Object"), (0, .class_ 3)] 3

/-- java/io/Serializable -/
def k4 : Class := { plain "java/io/Serializable" (some 0) with
  accessFlags := 1537
  interfaces := #[]
  cf := some (fileOf pool4 2 #[] #[] 1537 4 #[] #[])
  fields := #[]
  methods := #[]
  instanceTypes := #[]
  staticTypes := #[]
  resolved := Array.replicate 8 none
  statics := none }

/-- the primitive byte -/
def k5 : Class := { plain "byte" none with kind := .primitive 'B', accessFlags := 0x411 }
/-- [B -/
def k6 : Class := { plain "[B" (some 0) with kind := .array 5 .byte, interfaces := #[3, 4], accessFlags := 1041 }

/-- the primitive int -/
def k7 : Class := { plain "int" none with kind := .primitive 'I', accessFlags := 0x411 }
/-- [I -/
def k8 : Class := { plain "[I" (some 0) with kind := .array 7 .int, interfaces := #[3, 4], accessFlags := 1041 }

def heap : Heap := #[]
def classes : Array Class := #[k0, k1, k2, k3, k4, k5, k6, k7, k8]
def interned : List (Array UInt16 × Addr) := []
def slotsUsed : Nat := 0
def theMethod : MethodId := ⟨1, 1⟩
def args0 : Array Value := #[.int 7, .int 1, .int 2, .int 3, .int 4, .int 5]
def aboutOver (below : List Frame) : State where
  vm := { classes := classes, interned := interned.toArray }
  heap := heap
  slotsUsed := slotsUsed
  threads := #[{ frames := .invoking theMethod args0 :: below }]
def below0 : List Frame := [.native { method := ⟨0, 0⟩, args := #[] }]
def about1 : State := aboutOver below0
def p0 : Program := .bare "" "" ""
def e0 : Env := launch0.env 0 0 0
theorem w_frames : about1.frames = Frame.invoking theMethod args0 :: below0 := rfl
set_option maxRecDepth 65536 in
theorem w_args : argsFit about1.vm theMethod args0 = true := by decide +kernel
set_option maxRecDepth 65536 in
theorem w_heap : heapFits about1 = true := by decide +kernel
set_option maxRecDepth 65536 in
theorem w_runnable : about1.curStatus? = some .runnable := by decide +kernel
set_option maxRecDepth 65536 in
theorem w_alone : about1.alone = true := by decide +kernel
set_option maxRecDepth 65536 in
theorem w_named : about1.methodNamed? x = some theMethod := by decide +kernel
set_option maxRecDepth 65536 in
theorem w_hears : about1.hears theMethod below0 = true := by decide +kernel
set_option maxRecDepth 65536 in
theorem w_ripe : about1.ripe theMethod args0 below0 = true := by decide +kernel
theorem w_running : about1.status = .running := rfl
set_option maxRecDepth 65536 in
theorem w_room : about1.hasRoom e0.platform room_1 = true :=
  launch0.hasRoom_least _ room_1 (by decide +kernel) (by decide +kernel) (by decide +kernel) (by decide +kernel) (by decide +kernel) (by decide +kernel)
theorem allAtoms_all (ts : List Jvm.Cond) (a : Array Jvm.Value) (st : Jvm.State) : (allAtoms ts).before a st = ts.all (fun c => c.before a st) := by
  induction ts with
  | nil => rfl
  | cons c t ih =>
    show (Jvm.Cond.and c (allAtoms t)).before a st = _
    rw [Jvm.Cond.before_and, ih, List.all_cons]
def words1 : List Jvm.Cond := Jvm.Cond.code x code maxLocals ret :: tables_1
/-- a 'code' word, met by the world's own term for the bytes: nothing is compared byte by byte -/
theorem code_word {y : MethodName} {bytes : ByteArray} {mx : Nat} {rt : Option FieldType} {a : Array Value} {s : State} {m : MethodId} {meth : Method} {c : Code} (h1 : s.methodNamed? y = some m) (h2 : s.vm.method? m = some meth) (h3 : meth.code = some c) (h4 : c.code = bytes)
    (h5 : (c.maxLocals == mx && c.exceptionTable.isEmpty && decide (c.maxStack ≤ mostOperands) && decide (meth.sig.returnType = rt) && !meth.locks && decide (parseMethodDescriptor y.desc = some meth.sig)) = true) : (Jvm.Cond.code y bytes mx rt).before a s = true := by
  simp only [Bool.and_eq_true, beq_iff_eq, Bool.not_eq_true', decide_eq_true_eq] at h5
  obtain ⟨⟨⟨⟨⟨g1, g2⟩, g3⟩, g4⟩, g5⟩, g6⟩ := h5
  simp [Cond.before, Cond.holds, Cond.value, h1, h2, h3, h4, g1, g2, g3, g4, g5, g6]
def isCode : Jvm.Cond → Bool
  | .code _ _ _ _ => true
  | _ => false
theorem all_split {L : List Jvm.Cond} {P : Jvm.Cond → Bool} (h1 : L.all (fun c => isCode c || P c) = true) (h2 : ∀ c ∈ L.filter isCode, P c = true) : L.all P = true := by
  refine List.all_eq_true.mpr fun c hc => ?_
  have h := List.all_eq_true.mp h1 c hc
  rcases Bool.eq_false_or_eq_true (isCode c) with hi | hi
  · exact h2 c (List.mem_filter.mpr ⟨hc, hi⟩)
  · simpa [hi] using h
set_option maxRecDepth 65536 in
theorem w_c0 : (Jvm.Cond.code x code maxLocals ret).before args0 about1 = true := code_word (m := ⟨1, 1⟩) (meth := k1m1) (c := k1c1) (by decide +kernel) rfl rfl rfl (by decide +kernel)
set_option maxRecDepth 65536 in
theorem w_c1 : (Jvm.Cond.code ({ cls := "com/example/vegeu/vegeu/model/Utf8IsWellFormedPinLaw", name := "next", desc := "([III)I" } : Jvm.MethodName) method_3_code (4 : Nat) (Option.some Jvm.ClassFile.FieldType.int)).before args0 about1 = true := code_word (m := ⟨1, 2⟩) (meth := k1m2) (c := k1c2) (by decide +kernel) rfl rfl rfl (by decide +kernel)
set_option maxRecDepth 65536 in
theorem w_c2 : (Jvm.Cond.code ({ cls := "com/example/vegeu/vegeu/model/Utf8IsWellFormedPinLaw", name := "seq", desc := "([III)I" } : Jvm.MethodName) method_4_code (9 : Nat) (Option.some Jvm.ClassFile.FieldType.int)).before args0 about1 = true := code_word (m := ⟨1, 3⟩) (meth := k1m3) (c := k1c3) (by decide +kernel) rfl rfl rfl (by decide +kernel)
set_option maxRecDepth 65536 in
theorem w_c3 : (Jvm.Cond.code ({ cls := "com/example/vegeu/vegeu/model/Utf8", name := "isWellFormed", desc := "([BII)Z" } : Jvm.MethodName) prog_75_method_6_code (10 : Nat) (Option.some Jvm.ClassFile.FieldType.boolean)).before args0 about1 = true := code_word (m := ⟨2, 1⟩) (meth := k2m1) (c := k2c1) (by decide +kernel) rfl rfl rfl (by decide +kernel)
def codes1 : List Jvm.Cond := [Jvm.Cond.code x code maxLocals ret, Jvm.Cond.code ({ cls := "com/example/vegeu/vegeu/model/Utf8IsWellFormedPinLaw", name := "next", desc := "([III)I" } : Jvm.MethodName) method_3_code (4 : Nat) (Option.some Jvm.ClassFile.FieldType.int), Jvm.Cond.code ({ cls := "com/example/vegeu/vegeu/model/Utf8IsWellFormedPinLaw", name := "seq", desc := "([III)I" } : Jvm.MethodName) method_4_code (9 : Nat) (Option.some Jvm.ClassFile.FieldType.int), Jvm.Cond.code ({ cls := "com/example/vegeu/vegeu/model/Utf8", name := "isWellFormed", desc := "([BII)Z" } : Jvm.MethodName) prog_75_method_6_code (10 : Nat) (Option.some Jvm.ClassFile.FieldType.boolean)]
set_option maxRecDepth 65536 in
theorem codes_eq : words1.filter isCode = codes1 := rfl
theorem w_codes : ∀ c ∈ words1.filter isCode, c.before args0 about1 = true := by
  rw [codes_eq]
  intro c hc
  simp only [codes1, List.mem_cons, List.not_mem_nil, or_false] at hc
  rcases hc with rfl | rfl | rfl | rfl
  · exact w_c0
  · exact w_c1
  · exact w_c2
  · exact w_c3
set_option maxRecDepth 65536 in
theorem w_t1 : words1.all (fun c => isCode c || c.before args0 about1) = true := by decide +kernel
theorem w_tables : (allAtoms (Jvm.Cond.code x code maxLocals ret :: tables_1)).before args0 about1 = true := by
  rw [allAtoms_all]
  show words1.all (fun c => c.before args0 about1) = true
  refine all_split ?_ w_codes
  rw [w_t1]
set_option maxRecDepth 65536 in
theorem w_case : (Jvm.Cond.and given_1 narrow_1).before args0 about1 = true := by decide +kernel
theorem w_applies : (headSpec (Jvm.Cond.code x code maxLocals ret :: tables_1) room_1).applies x e0.platform about1 = true :=
  (Spec.applies_iff w_frames).mpr ⟨w_running, w_runnable, w_alone, w_named, w_hears, w_ripe, w_room, w_tables⟩
theorem atStart : AtStart classFile x code maxLocals ret World_1 tables_1 room_1 Calls_1 rest_1 Pre_1 launch0 p0 e0 about1 theMethod args0 below0 :=
  ⟨lists_1, trivial, launch0.admits_env _ _ _, launch0.least_env, fairChoices_fair.cas, fairChoices_fair.clock, w_frames, w_args, w_heap, w_applies, trivial, trivial, w_case⟩
end start1
theorem witness_1 : WitnessClaimed_1 := ⟨start1.p0, start1.e0, start1.about1, start1.theMethod, start1.args0, start1.below0, start1.atStart⟩
end Jvm.Pilot.@@N@@
