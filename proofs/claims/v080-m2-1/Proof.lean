import JvmDerived
import JvmDerived.Pilot.@@N@@Statement
import JvmDerived.Pilot.@@N@@Code
set_option linter.unusedVariables false
set_option linter.unusedSimpArgs false
namespace Jvm.Pilot.@@N@@
open Jvm Jvm.ClassFile Sem Op Lib Jvm.Free Jvm.Stand Jvm.LawKit Jvm.RoadKit Bundle Jvm.Pilot.@@N@@.Jvm.D
section OwnKit
def own_G (p : Program) (e : Env) (below : List Frame) (Φ : State → Outcome → Prop) (T : State) (f : JFrame) : Prop := ∃ s₂ o, Steps p.tables e below (T.setTop f) s₂ ∧ Φ s₂ o
def own_S (Z : State) (n0 : Nat) (bytes : ByteArray) (y : MethodName) (ml : Nat) (ret : Option FieldType) (p : Program) (l : Launch) (e : Env) (R : Room) (s : State) (m : MethodId) (args : Array Value) (below : List Frame) (meth : Method) (c : Code) (T : State) (k sl : Nat) (h : Heap) : Prop :=
  (∃ locs, Stand p l e R s m args below meth c T locs k sl ∧ Fr n0 locs) ∧ T.heap = h ∧ n0 ≤ s.heap.size ∧ p.tables.exec = Jvm.exec ∧ Z.Warmed39 s.vm ∧ c.code = bytes ∧ c.maxLocals = ml ∧ s.vm.findClass y.cls = some m.cls ∧ meth.name = y.name ∧ meth.sig.returnType = ret ∧ meth.locks = false
def own_Q (n0 : Nat) (below : List Frame) (s : State) (R : Room) (w : Option Value) (Θ : Heap → Prop) : State → Outcome → Prop := fun s₂ o => s₂.status = .running ∧ Ended s₂ below o ∧ ∃ v L, o = .returned v ∧ ((v = w ∧ Θ s₂.heap) ∧ Fr n0 L) ∧ FrameEnd s o s₂ L R.cells R.slots
def own_Met (l : Launch) (y : MethodName) (bytes : ByteArray) (ml : Nat) (ret : Option FieldType) (rm : Room) (Z : State) (n0 : Nat) (as : Array Value) (h0 : Heap) (w : Option Value) (Θ : Heap → Prop) : Prop :=
  ∀ ws, MetFree l y (head1 (Jvm.Cond.code y bytes ml ret :: ws) rm) (fun a U => a = as ∧ Z.Warmed39 U.vm ∧ U.heap = h0) (fun _ _ _ _ _ => True) (fun _ U o U' => ∃ v L, o = .returned v ∧ ((v = w ∧ Θ U'.heap) ∧ Fr n0 L) ∧ FrameEnd U o U' L rm.cells rm.slots)
theorem own_met {l : Launch} {y : MethodName} {bytes : ByteArray} {ml : Nat} {ret : Option FieldType} {rm : Room} {Z : State} {n0 : Nat} {as : Array Value} {h0 : Heap} {w : Option Value} {Θ : Heap → Prop} (hp : plainFor y = true) (hn0 : n0 ≤ h0.size)
    (body : ∀ p e s m below meth c T, own_S Z n0 bytes y ml ret p l e rm s m as below meth c T 0 0 h0 → own_G p e below (own_Q n0 below s rm w Θ) T (entryFrame m as ml)) : own_Met l y bytes ml ret rm Z n0 as h0 w Θ := by
  intro ws
  refine MetFree.of_bodySF hp hisR ?_
  intro p e s m args below meth c s₁ Bd hml0 hP hK
  obtain ⟨rfl, hZ, hh⟩ := hP
  obtain ⟨s₂, o, st, h1, h2, h3⟩ := body p e s m below meth c s₁ ⟨⟨[], Stand.of_body Bd, Fr.nil n0⟩, by rw [← hh, Bd.state]; rfl, by rw [hh]; exact hn0, Bd.exec, hZ, Bd.bytes, hml0, findClass_of_methodNamed Bd.named, (name_of_methodNamed Bd.named Bd.method).1, Bd.returns, BodyLoose.notSynchronized Bd⟩
  exact ⟨s₂, o, st, h1, h2, h3⟩
variable {Z : State} {n0 : Nat} {bytes : ByteArray} {y : MethodName} {ml : Nat} {ret : Option FieldType} {p : Program} {l : Launch} {e : Env} {R : Room} {s : State} {m : MethodId} {args : Array Value} {below : List Frame} {meth : Method} {c : Code} {T : State} {k sl : Nat} {h : Heap} {Φ : State → Outcome → Prop} {pc pc' : Nat} {Ls Ls' : Array Slot} {S : List Value} {a0 : Array Value}
theorem own_cast {f f' : JFrame} (q : f = f') (K : own_G p e below Φ T f') : own_G p e below Φ T f := q ▸ K
theorem own_by {T T' : State} {f f' : JFrame} (K : own_G p e below Φ T' f') (st : ∀ t, Steps p.tables e below (T'.setTop f') t → Steps p.tables e below (T.setTop f) t) : own_G p e below Φ T f := by
  obtain ⟨s₂, o, q, r⟩ := K
  exact ⟨s₂, o, st _ q, r⟩
theorem own_S.size (X : own_S Z n0 bytes y ml ret p l e R s m args below meth c T k sl h) : n0 ≤ h.size := by
  obtain ⟨⟨locs, Y, N⟩, hh, hn, hx, hZ, hby, hml, hown, hnm, hret, hlk⟩ := X
  subst hh
  exact Nat.le_trans hn Y.same.2.1
theorem own_iadd (X : own_S Z n0 bytes y ml ret p l e R s m args below meth c T k sl h) {a b r : Int32} (hd : decode bytes pc = .ok (.iadd, 1)) (hpc : pc + 1 = pc') (hr : a + b = r) (K : own_G p e below Φ T (mkF m pc' Ls (.int r :: S))) : own_G p e below Φ T (mkF m pc Ls (.int b :: .int a :: S)) := by
  obtain ⟨⟨locs, Y, N⟩, hh, hn, hx, hZ, hby, hml, hown, hnm, hret, hlk⟩ := X
  subst hpc
  exact own_by K fun t kk => XS.iadd Y.here hx rfl (hb hby hd) rfl (hr ▸ kk)
theorem own_ladd (X : own_S Z n0 bytes y ml ret p l e R s m args below meth c T k sl h) {a b r : Int64} (hd : decode bytes pc = .ok (.ladd, 1)) (hpc : pc + 1 = pc') (hr : a + b = r) (K : own_G p e below Φ T (mkF m pc' Ls (.long r :: S))) : own_G p e below Φ T (mkF m pc Ls (.long b :: .long a :: S)) := by
  obtain ⟨⟨locs, Y, N⟩, hh, hn, hx, hZ, hby, hml, hown, hnm, hret, hlk⟩ := X
  subst hpc
  exact own_by K fun t kk => XS.ladd Y.here hx rfl (hb hby hd) rfl (hr ▸ kk)
theorem own_isub (X : own_S Z n0 bytes y ml ret p l e R s m args below meth c T k sl h) {a b r : Int32} (hd : decode bytes pc = .ok (.isub, 1)) (hpc : pc + 1 = pc') (hr : a - b = r) (K : own_G p e below Φ T (mkF m pc' Ls (.int r :: S))) : own_G p e below Φ T (mkF m pc Ls (.int b :: .int a :: S)) := by
  obtain ⟨⟨locs, Y, N⟩, hh, hn, hx, hZ, hby, hml, hown, hnm, hret, hlk⟩ := X
  subst hpc
  exact own_by K fun t kk => XS.isub Y.here hx rfl (hb hby hd) rfl (hr ▸ kk)
theorem own_lsub (X : own_S Z n0 bytes y ml ret p l e R s m args below meth c T k sl h) {a b r : Int64} (hd : decode bytes pc = .ok (.lsub, 1)) (hpc : pc + 1 = pc') (hr : a - b = r) (K : own_G p e below Φ T (mkF m pc' Ls (.long r :: S))) : own_G p e below Φ T (mkF m pc Ls (.long b :: .long a :: S)) := by
  obtain ⟨⟨locs, Y, N⟩, hh, hn, hx, hZ, hby, hml, hown, hnm, hret, hlk⟩ := X
  subst hpc
  exact own_by K fun t kk => XS.lsub Y.here hx rfl (hb hby hd) rfl (hr ▸ kk)
theorem own_imul (X : own_S Z n0 bytes y ml ret p l e R s m args below meth c T k sl h) {a b r : Int32} (hd : decode bytes pc = .ok (.imul, 1)) (hpc : pc + 1 = pc') (hr : a * b = r) (K : own_G p e below Φ T (mkF m pc' Ls (.int r :: S))) : own_G p e below Φ T (mkF m pc Ls (.int b :: .int a :: S)) := by
  obtain ⟨⟨locs, Y, N⟩, hh, hn, hx, hZ, hby, hml, hown, hnm, hret, hlk⟩ := X
  subst hpc
  exact own_by K fun t kk => XS.imul Y.here hx rfl (hb hby hd) rfl (hr ▸ kk)
theorem own_lmul (X : own_S Z n0 bytes y ml ret p l e R s m args below meth c T k sl h) {a b r : Int64} (hd : decode bytes pc = .ok (.lmul, 1)) (hpc : pc + 1 = pc') (hr : a * b = r) (K : own_G p e below Φ T (mkF m pc' Ls (.long r :: S))) : own_G p e below Φ T (mkF m pc Ls (.long b :: .long a :: S)) := by
  obtain ⟨⟨locs, Y, N⟩, hh, hn, hx, hZ, hby, hml, hown, hnm, hret, hlk⟩ := X
  subst hpc
  exact own_by K fun t kk => XS.lmul Y.here hx rfl (hb hby hd) rfl (hr ▸ kk)
theorem own_iand (X : own_S Z n0 bytes y ml ret p l e R s m args below meth c T k sl h) {a b r : Int32} (hd : decode bytes pc = .ok (.iand, 1)) (hpc : pc + 1 = pc') (hr : a &&& b = r) (K : own_G p e below Φ T (mkF m pc' Ls (.int r :: S))) : own_G p e below Φ T (mkF m pc Ls (.int b :: .int a :: S)) := by
  obtain ⟨⟨locs, Y, N⟩, hh, hn, hx, hZ, hby, hml, hown, hnm, hret, hlk⟩ := X
  subst hpc
  exact own_by K fun t kk => XS.iand Y.here hx rfl (hb hby hd) rfl (hr ▸ kk)
theorem own_land (X : own_S Z n0 bytes y ml ret p l e R s m args below meth c T k sl h) {a b r : Int64} (hd : decode bytes pc = .ok (.land, 1)) (hpc : pc + 1 = pc') (hr : a &&& b = r) (K : own_G p e below Φ T (mkF m pc' Ls (.long r :: S))) : own_G p e below Φ T (mkF m pc Ls (.long b :: .long a :: S)) := by
  obtain ⟨⟨locs, Y, N⟩, hh, hn, hx, hZ, hby, hml, hown, hnm, hret, hlk⟩ := X
  subst hpc
  exact own_by K fun t kk => XS.land Y.here hx rfl (hb hby hd) rfl (hr ▸ kk)
theorem own_ior (X : own_S Z n0 bytes y ml ret p l e R s m args below meth c T k sl h) {a b r : Int32} (hd : decode bytes pc = .ok (.ior, 1)) (hpc : pc + 1 = pc') (hr : a ||| b = r) (K : own_G p e below Φ T (mkF m pc' Ls (.int r :: S))) : own_G p e below Φ T (mkF m pc Ls (.int b :: .int a :: S)) := by
  obtain ⟨⟨locs, Y, N⟩, hh, hn, hx, hZ, hby, hml, hown, hnm, hret, hlk⟩ := X
  subst hpc
  exact own_by K fun t kk => XS.ior Y.here hx rfl (hb hby hd) rfl (hr ▸ kk)
theorem own_lor (X : own_S Z n0 bytes y ml ret p l e R s m args below meth c T k sl h) {a b r : Int64} (hd : decode bytes pc = .ok (.lor, 1)) (hpc : pc + 1 = pc') (hr : a ||| b = r) (K : own_G p e below Φ T (mkF m pc' Ls (.long r :: S))) : own_G p e below Φ T (mkF m pc Ls (.long b :: .long a :: S)) := by
  obtain ⟨⟨locs, Y, N⟩, hh, hn, hx, hZ, hby, hml, hown, hnm, hret, hlk⟩ := X
  subst hpc
  exact own_by K fun t kk => XS.lor Y.here hx rfl (hb hby hd) rfl (hr ▸ kk)
theorem own_ixor (X : own_S Z n0 bytes y ml ret p l e R s m args below meth c T k sl h) {a b r : Int32} (hd : decode bytes pc = .ok (.ixor, 1)) (hpc : pc + 1 = pc') (hr : a ^^^ b = r) (K : own_G p e below Φ T (mkF m pc' Ls (.int r :: S))) : own_G p e below Φ T (mkF m pc Ls (.int b :: .int a :: S)) := by
  obtain ⟨⟨locs, Y, N⟩, hh, hn, hx, hZ, hby, hml, hown, hnm, hret, hlk⟩ := X
  subst hpc
  exact own_by K fun t kk => XS.ixor Y.here hx rfl (hb hby hd) rfl (hr ▸ kk)
theorem own_lxor (X : own_S Z n0 bytes y ml ret p l e R s m args below meth c T k sl h) {a b r : Int64} (hd : decode bytes pc = .ok (.lxor, 1)) (hpc : pc + 1 = pc') (hr : a ^^^ b = r) (K : own_G p e below Φ T (mkF m pc' Ls (.long r :: S))) : own_G p e below Φ T (mkF m pc Ls (.long b :: .long a :: S)) := by
  obtain ⟨⟨locs, Y, N⟩, hh, hn, hx, hZ, hby, hml, hown, hnm, hret, hlk⟩ := X
  subst hpc
  exact own_by K fun t kk => XS.lxor Y.here hx rfl (hb hby hd) rfl (hr ▸ kk)
theorem own_ishl (X : own_S Z n0 bytes y ml ret p l e R s m args below meth c T k sl h) {a r : Int32} {b : Int32} (hd : decode bytes pc = .ok (.ishl, 1)) (hpc : pc + 1 = pc') (hr : (a <<< (b &&& 31)) = r) (K : own_G p e below Φ T (mkF m pc' Ls (.int r :: S))) : own_G p e below Φ T (mkF m pc Ls (.int b :: .int a :: S)) := by
  obtain ⟨⟨locs, Y, N⟩, hh, hn, hx, hZ, hby, hml, hown, hnm, hret, hlk⟩ := X
  subst hpc
  exact own_by K fun t kk => XS.ishl Y.here hx rfl (hb hby hd) rfl (hr ▸ kk)
theorem own_ishr (X : own_S Z n0 bytes y ml ret p l e R s m args below meth c T k sl h) {a r : Int32} {b : Int32} (hd : decode bytes pc = .ok (.ishr, 1)) (hpc : pc + 1 = pc') (hr : (a >>> (b &&& 31)) = r) (K : own_G p e below Φ T (mkF m pc' Ls (.int r :: S))) : own_G p e below Φ T (mkF m pc Ls (.int b :: .int a :: S)) := by
  obtain ⟨⟨locs, Y, N⟩, hh, hn, hx, hZ, hby, hml, hown, hnm, hret, hlk⟩ := X
  subst hpc
  exact own_by K fun t kk => XS.ishr Y.here hx rfl (hb hby hd) rfl (hr ▸ kk)
theorem own_iushr (X : own_S Z n0 bytes y ml ret p l e R s m args below meth c T k sl h) {a r : Int32} {b : Int32} (hd : decode bytes pc = .ok (.iushr, 1)) (hpc : pc + 1 = pc') (hr : ((a.toUInt32 >>> (b &&& 31).toUInt32).toInt32) = r) (K : own_G p e below Φ T (mkF m pc' Ls (.int r :: S))) : own_G p e below Φ T (mkF m pc Ls (.int b :: .int a :: S)) := by
  obtain ⟨⟨locs, Y, N⟩, hh, hn, hx, hZ, hby, hml, hown, hnm, hret, hlk⟩ := X
  subst hpc
  exact own_by K fun t kk => XS.iushr Y.here hx rfl (hb hby hd) rfl (hr ▸ kk)
theorem own_lshl (X : own_S Z n0 bytes y ml ret p l e R s m args below meth c T k sl h) {a r : Int64} {b : Int32} (hd : decode bytes pc = .ok (.lshl, 1)) (hpc : pc + 1 = pc') (hr : (a <<< (b &&& 0x3f).toInt64) = r) (K : own_G p e below Φ T (mkF m pc' Ls (.long r :: S))) : own_G p e below Φ T (mkF m pc Ls (.int b :: .long a :: S)) := by
  obtain ⟨⟨locs, Y, N⟩, hh, hn, hx, hZ, hby, hml, hown, hnm, hret, hlk⟩ := X
  subst hpc
  exact own_by K fun t kk => XS.lshl Y.here hx rfl (hb hby hd) rfl (hr ▸ kk)
theorem own_lshr (X : own_S Z n0 bytes y ml ret p l e R s m args below meth c T k sl h) {a r : Int64} {b : Int32} (hd : decode bytes pc = .ok (.lshr, 1)) (hpc : pc + 1 = pc') (hr : (a >>> (b &&& 0x3f).toInt64) = r) (K : own_G p e below Φ T (mkF m pc' Ls (.long r :: S))) : own_G p e below Φ T (mkF m pc Ls (.int b :: .long a :: S)) := by
  obtain ⟨⟨locs, Y, N⟩, hh, hn, hx, hZ, hby, hml, hown, hnm, hret, hlk⟩ := X
  subst hpc
  exact own_by K fun t kk => XS.lshr Y.here hx rfl (hb hby hd) rfl (hr ▸ kk)
theorem own_lushr (X : own_S Z n0 bytes y ml ret p l e R s m args below meth c T k sl h) {a r : Int64} {b : Int32} (hd : decode bytes pc = .ok (.lushr, 1)) (hpc : pc + 1 = pc') (hr : ((a.toUInt64 >>> (b &&& 0x3f).toInt64.toUInt64).toInt64) = r) (K : own_G p e below Φ T (mkF m pc' Ls (.long r :: S))) : own_G p e below Φ T (mkF m pc Ls (.int b :: .long a :: S)) := by
  obtain ⟨⟨locs, Y, N⟩, hh, hn, hx, hZ, hby, hml, hown, hnm, hret, hlk⟩ := X
  subst hpc
  exact own_by K fun t kk => XS.lushr Y.here hx rfl (hb hby hd) rfl (hr ▸ kk)
theorem own_idiv (X : own_S Z n0 bytes y ml ret p l e R s m args below meth c T k sl h) {a b r : Int32} (hd : decode bytes pc = .ok (.idiv, 1)) (hpc : pc + 1 = pc') (hz : b ≠ 0) (hr : a / b = r) (K : own_G p e below Φ T (mkF m pc' Ls (.int r :: S))) : own_G p e below Φ T (mkF m pc Ls (.int b :: .int a :: S)) := by
  obtain ⟨⟨locs, Y, N⟩, hh, hn, hx, hZ, hby, hml, hown, hnm, hret, hlk⟩ := X
  subst hpc
  exact own_by K fun t kk => XS.idiv Y.here hx rfl (hb hby hd) rfl hz (hr ▸ kk)
theorem own_irem (X : own_S Z n0 bytes y ml ret p l e R s m args below meth c T k sl h) {a b r : Int32} (hd : decode bytes pc = .ok (.irem, 1)) (hpc : pc + 1 = pc') (hz : b ≠ 0) (hr : a - (a / b) * b = r) (K : own_G p e below Φ T (mkF m pc' Ls (.int r :: S))) : own_G p e below Φ T (mkF m pc Ls (.int b :: .int a :: S)) := by
  obtain ⟨⟨locs, Y, N⟩, hh, hn, hx, hZ, hby, hml, hown, hnm, hret, hlk⟩ := X
  subst hpc
  exact own_by K fun t kk => XS.irem Y.here hx rfl (hb hby hd) rfl hz (hr ▸ kk)
theorem own_ldiv (X : own_S Z n0 bytes y ml ret p l e R s m args below meth c T k sl h) {a b r : Int64} (hd : decode bytes pc = .ok (.ldiv, 1)) (hpc : pc + 1 = pc') (hz : b ≠ 0) (hr : a / b = r) (K : own_G p e below Φ T (mkF m pc' Ls (.long r :: S))) : own_G p e below Φ T (mkF m pc Ls (.long b :: .long a :: S)) := by
  obtain ⟨⟨locs, Y, N⟩, hh, hn, hx, hZ, hby, hml, hown, hnm, hret, hlk⟩ := X
  subst hpc
  exact own_by K fun t kk => XS.ldiv Y.here hx rfl (hb hby hd) rfl hz (hr ▸ kk)
theorem own_lrem (X : own_S Z n0 bytes y ml ret p l e R s m args below meth c T k sl h) {a b r : Int64} (hd : decode bytes pc = .ok (.lrem, 1)) (hpc : pc + 1 = pc') (hz : b ≠ 0) (hr : a - (a / b) * b = r) (K : own_G p e below Φ T (mkF m pc' Ls (.long r :: S))) : own_G p e below Φ T (mkF m pc Ls (.long b :: .long a :: S)) := by
  obtain ⟨⟨locs, Y, N⟩, hh, hn, hx, hZ, hby, hml, hown, hnm, hret, hlk⟩ := X
  subst hpc
  exact own_by K fun t kk => XS.lrem Y.here hx rfl (hb hby hd) rfl hz (hr ▸ kk)
theorem own_ineg (X : own_S Z n0 bytes y ml ret p l e R s m args below meth c T k sl h) {a : Int32} {r : Int32} (hd : decode bytes pc = .ok (.ineg, 1)) (hpc : pc + 1 = pc') (hr : -a = r) (K : own_G p e below Φ T (mkF m pc' Ls (.int r :: S))) : own_G p e below Φ T (mkF m pc Ls (.int a :: S)) := by
  obtain ⟨⟨locs, Y, N⟩, hh, hn, hx, hZ, hby, hml, hown, hnm, hret, hlk⟩ := X
  subst hpc
  exact own_by K fun t kk => XS.ineg Y.here hx rfl (hb hby hd) rfl (hr ▸ kk)
theorem own_lneg (X : own_S Z n0 bytes y ml ret p l e R s m args below meth c T k sl h) {a : Int64} {r : Int64} (hd : decode bytes pc = .ok (.lneg, 1)) (hpc : pc + 1 = pc') (hr : -a = r) (K : own_G p e below Φ T (mkF m pc' Ls (.long r :: S))) : own_G p e below Φ T (mkF m pc Ls (.long a :: S)) := by
  obtain ⟨⟨locs, Y, N⟩, hh, hn, hx, hZ, hby, hml, hown, hnm, hret, hlk⟩ := X
  subst hpc
  exact own_by K fun t kk => XS.lneg Y.here hx rfl (hb hby hd) rfl (hr ▸ kk)
theorem own_i2l (X : own_S Z n0 bytes y ml ret p l e R s m args below meth c T k sl h) {a : Int32} {r : Int64} (hd : decode bytes pc = .ok (.i2l, 1)) (hpc : pc + 1 = pc') (hr : a.toInt64 = r) (K : own_G p e below Φ T (mkF m pc' Ls (.long r :: S))) : own_G p e below Φ T (mkF m pc Ls (.int a :: S)) := by
  obtain ⟨⟨locs, Y, N⟩, hh, hn, hx, hZ, hby, hml, hown, hnm, hret, hlk⟩ := X
  subst hpc
  exact own_by K fun t kk => XS.i2l Y.here hx rfl (hb hby hd) rfl (hr ▸ kk)
theorem own_l2i (X : own_S Z n0 bytes y ml ret p l e R s m args below meth c T k sl h) {a : Int64} {r : Int32} (hd : decode bytes pc = .ok (.l2i, 1)) (hpc : pc + 1 = pc') (hr : a.toInt32 = r) (K : own_G p e below Φ T (mkF m pc' Ls (.int r :: S))) : own_G p e below Φ T (mkF m pc Ls (.long a :: S)) := by
  obtain ⟨⟨locs, Y, N⟩, hh, hn, hx, hZ, hby, hml, hown, hnm, hret, hlk⟩ := X
  subst hpc
  exact own_by K fun t kk => XS.l2i Y.here hx rfl (hb hby hd) rfl (hr ▸ kk)
theorem own_i2b (X : own_S Z n0 bytes y ml ret p l e R s m args below meth c T k sl h) {a : Int32} {r : Int32} (hd : decode bytes pc = .ok (.i2b, 1)) (hpc : pc + 1 = pc') (hr : a.toInt8.toInt32 = r) (K : own_G p e below Φ T (mkF m pc' Ls (.int r :: S))) : own_G p e below Φ T (mkF m pc Ls (.int a :: S)) := by
  obtain ⟨⟨locs, Y, N⟩, hh, hn, hx, hZ, hby, hml, hown, hnm, hret, hlk⟩ := X
  subst hpc
  exact own_by K fun t kk => XS.i2b Y.here hx rfl (hb hby hd) rfl (hr ▸ kk)
theorem own_i2s (X : own_S Z n0 bytes y ml ret p l e R s m args below meth c T k sl h) {a : Int32} {r : Int32} (hd : decode bytes pc = .ok (.i2s, 1)) (hpc : pc + 1 = pc') (hr : a.toInt16.toInt32 = r) (K : own_G p e below Φ T (mkF m pc' Ls (.int r :: S))) : own_G p e below Φ T (mkF m pc Ls (.int a :: S)) := by
  obtain ⟨⟨locs, Y, N⟩, hh, hn, hx, hZ, hby, hml, hown, hnm, hret, hlk⟩ := X
  subst hpc
  exact own_by K fun t kk => XS.i2s Y.here hx rfl (hb hby hd) rfl (hr ▸ kk)
theorem own_i2c (X : own_S Z n0 bytes y ml ret p l e R s m args below meth c T k sl h) {a : Int32} {r : Int32} (hd : decode bytes pc = .ok (.i2c, 1)) (hpc : pc + 1 = pc') (hr : a.toUInt32.toUInt16.toUInt32.toInt32 = r) (K : own_G p e below Φ T (mkF m pc' Ls (.int r :: S))) : own_G p e below Φ T (mkF m pc Ls (.int a :: S)) := by
  obtain ⟨⟨locs, Y, N⟩, hh, hn, hx, hZ, hby, hml, hown, hnm, hret, hlk⟩ := X
  subst hpc
  exact own_by K fun t kk => XS.i2c Y.here hx rfl (hb hby hd) rfl (hr ▸ kk)
theorem own_lcmp (X : own_S Z n0 bytes y ml ret p l e R s m args below meth c T k sl h) {a b : Int64} (hd : decode bytes pc = .ok (.lcmp, 1)) (hpc : pc + 1 = pc') (K : own_G p e below Φ T (mkF m pc' Ls (.int (lcmpW a b) :: S))) : own_G p e below Φ T (mkF m pc Ls (.long b :: .long a :: S)) := by
  obtain ⟨⟨locs, Y, N⟩, hh, hn, hx, hZ, hby, hml, hown, hnm, hret, hlk⟩ := X
  subst hpc
  exact own_by K fun t kk => XS.lcmp Y.here hx rfl (hb hby hd) rfl kk
theorem own_iconst (X : own_S Z n0 bytes y ml ret p l e R s m args below meth c T k sl h) {i : Int} {v : Int32} (hd : decode bytes pc = .ok (.iconst i, 1)) (hpc : pc + 1 = pc') (hv : Int32.ofInt i = v) (K : own_G p e below Φ T (mkF m pc' Ls (.int v :: S))) : own_G p e below Φ T (mkF m pc Ls (S)) := by
  obtain ⟨⟨locs, Y, N⟩, hh, hn, hx, hZ, hby, hml, hown, hnm, hret, hlk⟩ := X
  subst hpc
  exact own_by K fun t kk => XS.iconst Y.here hx rfl (hb hby hd) (hv ▸ kk)
theorem own_bipush (X : own_S Z n0 bytes y ml ret p l e R s m args below meth c T k sl h) {i : Int} {v : Int32} (hd : decode bytes pc = .ok (.bipush i, 2)) (hpc : pc + 2 = pc') (hv : (Int8.ofInt i).toInt32 = v) (K : own_G p e below Φ T (mkF m pc' Ls (.int v :: S))) : own_G p e below Φ T (mkF m pc Ls (S)) := by
  obtain ⟨⟨locs, Y, N⟩, hh, hn, hx, hZ, hby, hml, hown, hnm, hret, hlk⟩ := X
  subst hpc
  exact own_by K fun t kk => XS.bipush Y.here hx rfl (hb hby hd) (hv ▸ kk)
theorem own_sipush (X : own_S Z n0 bytes y ml ret p l e R s m args below meth c T k sl h) {i : Int} {v : Int32} (hd : decode bytes pc = .ok (.sipush i, 3)) (hpc : pc + 3 = pc') (hv : (Int16.ofInt i).toInt32 = v) (K : own_G p e below Φ T (mkF m pc' Ls (.int v :: S))) : own_G p e below Φ T (mkF m pc Ls (S)) := by
  obtain ⟨⟨locs, Y, N⟩, hh, hn, hx, hZ, hby, hml, hown, hnm, hret, hlk⟩ := X
  subst hpc
  exact own_by K fun t kk => XS.sipush Y.here hx rfl (hb hby hd) (hv ▸ kk)
theorem own_lconst (X : own_S Z n0 bytes y ml ret p l e R s m args below meth c T k sl h) {i : Fin 2} {v : Int64} (hd : decode bytes pc = .ok (.lconst i, 1)) (hpc : pc + 1 = pc') (hv : Int64.ofNat i = v) (K : own_G p e below Φ T (mkF m pc' Ls (.long v :: S))) : own_G p e below Φ T (mkF m pc Ls (S)) := by
  obtain ⟨⟨locs, Y, N⟩, hh, hn, hx, hZ, hby, hml, hown, hnm, hret, hlk⟩ := X
  subst hpc
  exact own_by K fun t kk => XS.lconst Y.here hx rfl (hb hby hd) (hv ▸ kk)
theorem own_aconst_null (X : own_S Z n0 bytes y ml ret p l e R s m args below meth c T k sl h) (hd : decode bytes pc = .ok (.aconst_null, 1)) (hpc : pc + 1 = pc') (K : own_G p e below Φ T (mkF m pc' Ls (.null :: S))) : own_G p e below Φ T (mkF m pc Ls (S)) := by
  obtain ⟨⟨locs, Y, N⟩, hh, hn, hx, hZ, hby, hml, hown, hnm, hret, hlk⟩ := X
  subst hpc
  exact own_by K fun t kk => XS.aconstNull Y.here hx rfl (hb hby hd) kk
theorem own_iload (X : own_S Z n0 bytes y ml ret p l e R s m args below meth c T k sl h) {i : Nat} {v : Int32} (hd : decode bytes pc = .ok (.iload i, 2)) (hpc : pc + 2 = pc') (hl : Ls[i]? = some (.val (.int v))) (K : own_G p e below Φ T (mkF m pc' Ls (.int v :: S))) : own_G p e below Φ T (mkF m pc Ls (S)) := by
  obtain ⟨⟨locs, Y, N⟩, hh, hn, hx, hZ, hby, hml, hown, hnm, hret, hlk⟩ := X
  subst hpc
  exact own_by K fun t kk => XS.iload Y.here hx rfl (hb hby hd) hl kk
theorem own_iloadN (X : own_S Z n0 bytes y ml ret p l e R s m args below meth c T k sl h) {i : Fin 4} {v : Int32} (hd : decode bytes pc = .ok (.iload_n i, 1)) (hpc : pc + 1 = pc') (hl : Ls[i.val]? = some (.val (.int v))) (K : own_G p e below Φ T (mkF m pc' Ls (.int v :: S))) : own_G p e below Φ T (mkF m pc Ls (S)) := by
  obtain ⟨⟨locs, Y, N⟩, hh, hn, hx, hZ, hby, hml, hown, hnm, hret, hlk⟩ := X
  subst hpc
  exact own_by K fun t kk => XS.iloadN Y.here hx rfl (hb hby hd) hl kk
theorem own_lload (X : own_S Z n0 bytes y ml ret p l e R s m args below meth c T k sl h) {i : Nat} {v : Int64} (hd : decode bytes pc = .ok (.lload i, 2)) (hpc : pc + 2 = pc') (hl : Ls[i]? = some (.val (.long v))) (K : own_G p e below Φ T (mkF m pc' Ls (.long v :: S))) : own_G p e below Φ T (mkF m pc Ls (S)) := by
  obtain ⟨⟨locs, Y, N⟩, hh, hn, hx, hZ, hby, hml, hown, hnm, hret, hlk⟩ := X
  subst hpc
  exact own_by K fun t kk => XS.lload Y.here hx rfl (hb hby hd) hl kk
theorem own_lloadN (X : own_S Z n0 bytes y ml ret p l e R s m args below meth c T k sl h) {i : Fin 4} {v : Int64} (hd : decode bytes pc = .ok (.lload_n i, 1)) (hpc : pc + 1 = pc') (hl : Ls[i.val]? = some (.val (.long v))) (K : own_G p e below Φ T (mkF m pc' Ls (.long v :: S))) : own_G p e below Φ T (mkF m pc Ls (S)) := by
  obtain ⟨⟨locs, Y, N⟩, hh, hn, hx, hZ, hby, hml, hown, hnm, hret, hlk⟩ := X
  subst hpc
  exact own_by K fun t kk => XS.lloadN Y.here hx rfl (hb hby hd) hl kk
theorem own_aload (X : own_S Z n0 bytes y ml ret p l e R s m args below meth c T k sl h) {i : Nat} {v : Value} (hd : decode bytes pc = .ok (.aload i, 2)) (hpc : pc + 2 = pc') (hl : Ls[i]? = some (.val v)) (hv : v.isRef = true) (K : own_G p e below Φ T (mkF m pc' Ls (v :: S))) : own_G p e below Φ T (mkF m pc Ls (S)) := by
  obtain ⟨⟨locs, Y, N⟩, hh, hn, hx, hZ, hby, hml, hown, hnm, hret, hlk⟩ := X
  subst hpc
  exact own_by K fun t kk => XS.aload Y.here hx rfl (hb hby hd) hl hv kk
theorem own_aloadN (X : own_S Z n0 bytes y ml ret p l e R s m args below meth c T k sl h) {i : Fin 4} {v : Value} (hd : decode bytes pc = .ok (.aload_n i, 1)) (hpc : pc + 1 = pc') (hl : Ls[i.val]? = some (.val v)) (hv : v.isRef = true) (K : own_G p e below Φ T (mkF m pc' Ls (v :: S))) : own_G p e below Φ T (mkF m pc Ls (S)) := by
  obtain ⟨⟨locs, Y, N⟩, hh, hn, hx, hZ, hby, hml, hown, hnm, hret, hlk⟩ := X
  subst hpc
  exact own_by K fun t kk => XS.aloadN Y.here hx rfl (hb hby hd) hl hv kk
theorem own_dup (X : own_S Z n0 bytes y ml ret p l e R s m args below meth c T k sl h) {v : Value} (hd : decode bytes pc = .ok (.dup, 1)) (hpc : pc + 1 = pc') (hv : v.category = 1) (K : own_G p e below Φ T (mkF m pc' Ls (v :: v :: S))) : own_G p e below Φ T (mkF m pc Ls (v :: S)) := by
  obtain ⟨⟨locs, Y, N⟩, hh, hn, hx, hZ, hby, hml, hown, hnm, hret, hlk⟩ := X
  subst hpc
  exact own_by K fun t kk => XS.dup Y.here hx rfl (hb hby hd) rfl hv kk
theorem own_dup2 (X : own_S Z n0 bytes y ml ret p l e R s m args below meth c T k sl h) {v w : Value} (hd : decode bytes pc = .ok (.dup2, 1)) (hpc : pc + 1 = pc') (hv : v.category = 1) (hw : w.category = 1) (K : own_G p e below Φ T (mkF m pc' Ls (v :: w :: v :: w :: S))) : own_G p e below Φ T (mkF m pc Ls (v :: w :: S)) := by
  obtain ⟨⟨locs, Y, N⟩, hh, hn, hx, hZ, hby, hml, hown, hnm, hret, hlk⟩ := X
  subst hpc
  exact own_by K fun t kk => XT.dup2 Y.here hx rfl (hb hby hd) rfl hv hw kk
theorem own_pop (X : own_S Z n0 bytes y ml ret p l e R s m args below meth c T k sl h) {v : Value} (hd : decode bytes pc = .ok (.pop, 1)) (hpc : pc + 1 = pc') (hv : v.category = 1) (K : own_G p e below Φ T (mkF m pc' Ls (S))) : own_G p e below Φ T (mkF m pc Ls (v :: S)) := by
  obtain ⟨⟨locs, Y, N⟩, hh, hn, hx, hZ, hby, hml, hown, hnm, hret, hlk⟩ := X
  subst hpc
  exact own_by K fun t kk => XS.pop Y.here hx rfl (hb hby hd) rfl hv kk
theorem own_istore (X : own_S Z n0 bytes y ml ret p l e R s m args below meth c T k sl h) {i : Nat} {v : Int32} (hd : decode bytes pc = .ok (.istore i, 2)) (hpc : pc + 2 = pc') (hl : storeLocals Ls i (.int v) = some Ls') (K : own_G p e below Φ T (mkF m pc' Ls' S)) : own_G p e below Φ T (mkF m pc Ls (.int v :: S)) := by
  obtain ⟨⟨locs, Y, N⟩, hh, hn, hx, hZ, hby, hml, hown, hnm, hret, hlk⟩ := X
  subst hpc
  exact own_by K fun t kk => XS.istore Y.here hx rfl (hb hby hd) rfl hl kk
theorem own_istoreN (X : own_S Z n0 bytes y ml ret p l e R s m args below meth c T k sl h) {i : Fin 4} {v : Int32} (hd : decode bytes pc = .ok (.istore_n i, 1)) (hpc : pc + 1 = pc') (hl : storeLocals Ls i.val (.int v) = some Ls') (K : own_G p e below Φ T (mkF m pc' Ls' S)) : own_G p e below Φ T (mkF m pc Ls (.int v :: S)) := by
  obtain ⟨⟨locs, Y, N⟩, hh, hn, hx, hZ, hby, hml, hown, hnm, hret, hlk⟩ := X
  subst hpc
  exact own_by K fun t kk => XS.istoreN Y.here hx rfl (hb hby hd) rfl hl kk
theorem own_lstore (X : own_S Z n0 bytes y ml ret p l e R s m args below meth c T k sl h) {i : Nat} {v : Int64} (hd : decode bytes pc = .ok (.lstore i, 2)) (hpc : pc + 2 = pc') (hl : storeLocals Ls i (.long v) = some Ls') (K : own_G p e below Φ T (mkF m pc' Ls' S)) : own_G p e below Φ T (mkF m pc Ls (.long v :: S)) := by
  obtain ⟨⟨locs, Y, N⟩, hh, hn, hx, hZ, hby, hml, hown, hnm, hret, hlk⟩ := X
  subst hpc
  exact own_by K fun t kk => XS.lstore Y.here hx rfl (hb hby hd) rfl hl kk
theorem own_lstoreN (X : own_S Z n0 bytes y ml ret p l e R s m args below meth c T k sl h) {i : Fin 4} {v : Int64} (hd : decode bytes pc = .ok (.lstore_n i, 1)) (hpc : pc + 1 = pc') (hl : storeLocals Ls i.val (.long v) = some Ls') (K : own_G p e below Φ T (mkF m pc' Ls' S)) : own_G p e below Φ T (mkF m pc Ls (.long v :: S)) := by
  obtain ⟨⟨locs, Y, N⟩, hh, hn, hx, hZ, hby, hml, hown, hnm, hret, hlk⟩ := X
  subst hpc
  exact own_by K fun t kk => XS.lstoreN Y.here hx rfl (hb hby hd) rfl hl kk
theorem own_astore (X : own_S Z n0 bytes y ml ret p l e R s m args below meth c T k sl h) {i : Nat} {v : Value} (hd : decode bytes pc = .ok (.astore i, 2)) (hpc : pc + 2 = pc') (hv : v.isRef = true) (hl : storeLocals Ls i (v) = some Ls') (K : own_G p e below Φ T (mkF m pc' Ls' S)) : own_G p e below Φ T (mkF m pc Ls (v :: S)) := by
  obtain ⟨⟨locs, Y, N⟩, hh, hn, hx, hZ, hby, hml, hown, hnm, hret, hlk⟩ := X
  subst hpc
  exact own_by K fun t kk => XS.astore Y.here hx rfl (hb hby hd) rfl hv hl kk
theorem own_astoreN (X : own_S Z n0 bytes y ml ret p l e R s m args below meth c T k sl h) {i : Fin 4} {v : Value} (hd : decode bytes pc = .ok (.astore_n i, 1)) (hpc : pc + 1 = pc') (hv : v.isRef = true) (hl : storeLocals Ls i.val (v) = some Ls') (K : own_G p e below Φ T (mkF m pc' Ls' S)) : own_G p e below Φ T (mkF m pc Ls (v :: S)) := by
  obtain ⟨⟨locs, Y, N⟩, hh, hn, hx, hZ, hby, hml, hown, hnm, hret, hlk⟩ := X
  subst hpc
  exact own_by K fun t kk => XS.astoreN Y.here hx rfl (hb hby hd) rfl hv hl kk
theorem own_iinc (X : own_S Z n0 bytes y ml ret p l e R s m args below meth c T k sl h) {i : Nat} {cst : Int} {v : Int32} (hd : decode bytes pc = .ok (.iinc i cst, 3)) (hpc : pc + 3 = pc') (hl : Ls[i]? = some (.val (.int v))) {w : Int32} (hw : v + Int32.ofInt cst = w) (hs : storeLocals Ls i (.int w) = some Ls') (K : own_G p e below Φ T (mkF m pc' Ls' S)) : own_G p e below Φ T (mkF m pc Ls S) := by
  obtain ⟨⟨locs, Y, N⟩, hh, hn, hx, hZ, hby, hml, hown, hnm, hret, hlk⟩ := X
  subst hpc
  exact own_by K fun t kk => XS.iinc Y.here hx rfl (hb hby hd) hl (hw ▸ hs) kk
theorem own_goto (X : own_S Z n0 bytes y ml ret p l e R s m args below meth c T k sl h) {o : Int} (hd : decode bytes pc = .ok (.goto o, 3)) (ho : 0 ≤ (pc : Int) + o) (hp : ((pc : Int) + o).toNat = pc') (K : own_G p e below Φ T (mkF m pc' Ls S)) : own_G p e below Φ T (mkF m pc Ls S) := by
  obtain ⟨⟨locs, Y, N⟩, hh, hn, hx, hZ, hby, hml, hown, hnm, hret, hlk⟩ := X
  exact own_by K fun t kk => XS.goto Y.here hx rfl rfl (hb hby hd) ho hp kk
theorem own_icmp_eq (X : own_S Z n0 bytes y ml ret p l e R s m args below meth c T k sl h) {o : Int} {a b : Int32} {pct : Nat} (hd : decode bytes pc = .ok (.if_icmp .eq o, 3)) (hpc : pc + 3 = pc') (ho : 0 ≤ (pc : Int) + o) (hp : ((pc : Int) + o).toNat = pct) (Ky : a = b → own_G p e below Φ T (mkF m pct Ls S)) (Kn : ¬ a = b → own_G p e below Φ T (mkF m pc' Ls S)) : own_G p e below Φ T (mkF m pc Ls (.int b :: .int a :: S)) := by
  obtain ⟨⟨locs, Y, N⟩, hh, hn, hx, hZ, hby, hml, hown, hnm, hret, hlk⟩ := X
  subst hpc
  by_cases hc : a = b
  · exact own_by (Ky hc) fun t kk => XS.icmpYes Y.here hx rfl rfl (hb hby hd) rfl (teq hc).1 ho hp kk
  · exact own_by (Kn hc) fun t kk => XS.icmpNo Y.here hx rfl (hb hby hd) rfl (feq hc).1 kk
theorem own_if_eq (X : own_S Z n0 bytes y ml ret p l e R s m args below meth c T k sl h) {o : Int} {a : Int32} {pct : Nat} (hd : decode bytes pc = .ok (.ifCond .eq o, 3)) (hpc : pc + 3 = pc') (ho : 0 ≤ (pc : Int) + o) (hp : ((pc : Int) + o).toNat = pct) (Ky : a = 0 → own_G p e below Φ T (mkF m pct Ls S)) (Kn : ¬ a = 0 → own_G p e below Φ T (mkF m pc' Ls S)) : own_G p e below Φ T (mkF m pc Ls (.int a :: S)) := by
  obtain ⟨⟨locs, Y, N⟩, hh, hn, hx, hZ, hby, hml, hown, hnm, hret, hlk⟩ := X
  subst hpc
  by_cases hc : a = 0
  · exact own_by (Ky hc) fun t kk => XS.ifYes Y.here hx rfl rfl (hb hby hd) rfl ((if0 _ _).trans (teq hc).1) ho hp kk
  · exact own_by (Kn hc) fun t kk => XS.ifNo Y.here hx rfl (hb hby hd) rfl ((if0 _ _).trans (feq hc).1) kk
theorem own_icmp_ne (X : own_S Z n0 bytes y ml ret p l e R s m args below meth c T k sl h) {o : Int} {a b : Int32} {pct : Nat} (hd : decode bytes pc = .ok (.if_icmp .ne o, 3)) (hpc : pc + 3 = pc') (ho : 0 ≤ (pc : Int) + o) (hp : ((pc : Int) + o).toNat = pct) (Ky : ¬ a = b → own_G p e below Φ T (mkF m pct Ls S)) (Kn : a = b → own_G p e below Φ T (mkF m pc' Ls S)) : own_G p e below Φ T (mkF m pc Ls (.int b :: .int a :: S)) := by
  obtain ⟨⟨locs, Y, N⟩, hh, hn, hx, hZ, hby, hml, hown, hnm, hret, hlk⟩ := X
  subst hpc
  by_cases hc : ¬ a = b
  · exact own_by (Ky hc) fun t kk => XS.icmpYes Y.here hx rfl rfl (hb hby hd) rfl (feq hc).2 ho hp kk
  · replace hc := Decidable.not_not.mp hc; exact own_by (Kn hc) fun t kk => XS.icmpNo Y.here hx rfl (hb hby hd) rfl (teq hc).2 kk
theorem own_if_ne (X : own_S Z n0 bytes y ml ret p l e R s m args below meth c T k sl h) {o : Int} {a : Int32} {pct : Nat} (hd : decode bytes pc = .ok (.ifCond .ne o, 3)) (hpc : pc + 3 = pc') (ho : 0 ≤ (pc : Int) + o) (hp : ((pc : Int) + o).toNat = pct) (Ky : ¬ a = 0 → own_G p e below Φ T (mkF m pct Ls S)) (Kn : a = 0 → own_G p e below Φ T (mkF m pc' Ls S)) : own_G p e below Φ T (mkF m pc Ls (.int a :: S)) := by
  obtain ⟨⟨locs, Y, N⟩, hh, hn, hx, hZ, hby, hml, hown, hnm, hret, hlk⟩ := X
  subst hpc
  by_cases hc : ¬ a = 0
  · exact own_by (Ky hc) fun t kk => XS.ifYes Y.here hx rfl rfl (hb hby hd) rfl ((if0 _ _).trans (feq hc).2) ho hp kk
  · replace hc := Decidable.not_not.mp hc; exact own_by (Kn hc) fun t kk => XS.ifNo Y.here hx rfl (hb hby hd) rfl ((if0 _ _).trans (teq hc).2) kk
theorem own_icmp_lt (X : own_S Z n0 bytes y ml ret p l e R s m args below meth c T k sl h) {o : Int} {a b : Int32} {pct : Nat} (hd : decode bytes pc = .ok (.if_icmp .lt o, 3)) (hpc : pc + 3 = pc') (ho : 0 ≤ (pc : Int) + o) (hp : ((pc : Int) + o).toNat = pct) (Ky : a < b → own_G p e below Φ T (mkF m pct Ls S)) (Kn : ¬ a < b → own_G p e below Φ T (mkF m pc' Ls S)) : own_G p e below Φ T (mkF m pc Ls (.int b :: .int a :: S)) := by
  obtain ⟨⟨locs, Y, N⟩, hh, hn, hx, hZ, hby, hml, hown, hnm, hret, hlk⟩ := X
  subst hpc
  by_cases hc : a < b
  · exact own_by (Ky hc) fun t kk => XS.icmpYes Y.here hx rfl rfl (hb hby hd) rfl (tlt hc).1 ho hp kk
  · exact own_by (Kn hc) fun t kk => XS.icmpNo Y.here hx rfl (hb hby hd) rfl (flt hc).1 kk
theorem own_if_lt (X : own_S Z n0 bytes y ml ret p l e R s m args below meth c T k sl h) {o : Int} {a : Int32} {pct : Nat} (hd : decode bytes pc = .ok (.ifCond .lt o, 3)) (hpc : pc + 3 = pc') (ho : 0 ≤ (pc : Int) + o) (hp : ((pc : Int) + o).toNat = pct) (Ky : a < 0 → own_G p e below Φ T (mkF m pct Ls S)) (Kn : ¬ a < 0 → own_G p e below Φ T (mkF m pc' Ls S)) : own_G p e below Φ T (mkF m pc Ls (.int a :: S)) := by
  obtain ⟨⟨locs, Y, N⟩, hh, hn, hx, hZ, hby, hml, hown, hnm, hret, hlk⟩ := X
  subst hpc
  by_cases hc : a < 0
  · exact own_by (Ky hc) fun t kk => XS.ifYes Y.here hx rfl rfl (hb hby hd) rfl ((if0 _ _).trans (tlt hc).1) ho hp kk
  · exact own_by (Kn hc) fun t kk => XS.ifNo Y.here hx rfl (hb hby hd) rfl ((if0 _ _).trans (flt hc).1) kk
theorem own_icmp_ge (X : own_S Z n0 bytes y ml ret p l e R s m args below meth c T k sl h) {o : Int} {a b : Int32} {pct : Nat} (hd : decode bytes pc = .ok (.if_icmp .ge o, 3)) (hpc : pc + 3 = pc') (ho : 0 ≤ (pc : Int) + o) (hp : ((pc : Int) + o).toNat = pct) (Ky : ¬ a < b → own_G p e below Φ T (mkF m pct Ls S)) (Kn : a < b → own_G p e below Φ T (mkF m pc' Ls S)) : own_G p e below Φ T (mkF m pc Ls (.int b :: .int a :: S)) := by
  obtain ⟨⟨locs, Y, N⟩, hh, hn, hx, hZ, hby, hml, hown, hnm, hret, hlk⟩ := X
  subst hpc
  by_cases hc : ¬ a < b
  · exact own_by (Ky hc) fun t kk => XS.icmpYes Y.here hx rfl rfl (hb hby hd) rfl (flt hc).2.1 ho hp kk
  · replace hc := Decidable.not_not.mp hc; exact own_by (Kn hc) fun t kk => XS.icmpNo Y.here hx rfl (hb hby hd) rfl (tlt hc).2.1 kk
theorem own_if_ge (X : own_S Z n0 bytes y ml ret p l e R s m args below meth c T k sl h) {o : Int} {a : Int32} {pct : Nat} (hd : decode bytes pc = .ok (.ifCond .ge o, 3)) (hpc : pc + 3 = pc') (ho : 0 ≤ (pc : Int) + o) (hp : ((pc : Int) + o).toNat = pct) (Ky : ¬ a < 0 → own_G p e below Φ T (mkF m pct Ls S)) (Kn : a < 0 → own_G p e below Φ T (mkF m pc' Ls S)) : own_G p e below Φ T (mkF m pc Ls (.int a :: S)) := by
  obtain ⟨⟨locs, Y, N⟩, hh, hn, hx, hZ, hby, hml, hown, hnm, hret, hlk⟩ := X
  subst hpc
  by_cases hc : ¬ a < 0
  · exact own_by (Ky hc) fun t kk => XS.ifYes Y.here hx rfl rfl (hb hby hd) rfl ((if0 _ _).trans (flt hc).2.1) ho hp kk
  · replace hc := Decidable.not_not.mp hc; exact own_by (Kn hc) fun t kk => XS.ifNo Y.here hx rfl (hb hby hd) rfl ((if0 _ _).trans (tlt hc).2.1) kk
theorem own_icmp_gt (X : own_S Z n0 bytes y ml ret p l e R s m args below meth c T k sl h) {o : Int} {a b : Int32} {pct : Nat} (hd : decode bytes pc = .ok (.if_icmp .gt o, 3)) (hpc : pc + 3 = pc') (ho : 0 ≤ (pc : Int) + o) (hp : ((pc : Int) + o).toNat = pct) (Ky : b < a → own_G p e below Φ T (mkF m pct Ls S)) (Kn : ¬ b < a → own_G p e below Φ T (mkF m pc' Ls S)) : own_G p e below Φ T (mkF m pc Ls (.int b :: .int a :: S)) := by
  obtain ⟨⟨locs, Y, N⟩, hh, hn, hx, hZ, hby, hml, hown, hnm, hret, hlk⟩ := X
  subst hpc
  by_cases hc : b < a
  · exact own_by (Ky hc) fun t kk => XS.icmpYes Y.here hx rfl rfl (hb hby hd) rfl (tlt hc).2.2.1 ho hp kk
  · exact own_by (Kn hc) fun t kk => XS.icmpNo Y.here hx rfl (hb hby hd) rfl (flt hc).2.2.1 kk
theorem own_if_gt (X : own_S Z n0 bytes y ml ret p l e R s m args below meth c T k sl h) {o : Int} {a : Int32} {pct : Nat} (hd : decode bytes pc = .ok (.ifCond .gt o, 3)) (hpc : pc + 3 = pc') (ho : 0 ≤ (pc : Int) + o) (hp : ((pc : Int) + o).toNat = pct) (Ky : 0 < a → own_G p e below Φ T (mkF m pct Ls S)) (Kn : ¬ 0 < a → own_G p e below Φ T (mkF m pc' Ls S)) : own_G p e below Φ T (mkF m pc Ls (.int a :: S)) := by
  obtain ⟨⟨locs, Y, N⟩, hh, hn, hx, hZ, hby, hml, hown, hnm, hret, hlk⟩ := X
  subst hpc
  by_cases hc : 0 < a
  · exact own_by (Ky hc) fun t kk => XS.ifYes Y.here hx rfl rfl (hb hby hd) rfl ((if0 _ _).trans (tlt hc).2.2.1) ho hp kk
  · exact own_by (Kn hc) fun t kk => XS.ifNo Y.here hx rfl (hb hby hd) rfl ((if0 _ _).trans (flt hc).2.2.1) kk
theorem own_icmp_le (X : own_S Z n0 bytes y ml ret p l e R s m args below meth c T k sl h) {o : Int} {a b : Int32} {pct : Nat} (hd : decode bytes pc = .ok (.if_icmp .le o, 3)) (hpc : pc + 3 = pc') (ho : 0 ≤ (pc : Int) + o) (hp : ((pc : Int) + o).toNat = pct) (Ky : ¬ b < a → own_G p e below Φ T (mkF m pct Ls S)) (Kn : b < a → own_G p e below Φ T (mkF m pc' Ls S)) : own_G p e below Φ T (mkF m pc Ls (.int b :: .int a :: S)) := by
  obtain ⟨⟨locs, Y, N⟩, hh, hn, hx, hZ, hby, hml, hown, hnm, hret, hlk⟩ := X
  subst hpc
  by_cases hc : ¬ b < a
  · exact own_by (Ky hc) fun t kk => XS.icmpYes Y.here hx rfl rfl (hb hby hd) rfl (flt hc).2.2.2 ho hp kk
  · replace hc := Decidable.not_not.mp hc; exact own_by (Kn hc) fun t kk => XS.icmpNo Y.here hx rfl (hb hby hd) rfl (tlt hc).2.2.2 kk
theorem own_if_le (X : own_S Z n0 bytes y ml ret p l e R s m args below meth c T k sl h) {o : Int} {a : Int32} {pct : Nat} (hd : decode bytes pc = .ok (.ifCond .le o, 3)) (hpc : pc + 3 = pc') (ho : 0 ≤ (pc : Int) + o) (hp : ((pc : Int) + o).toNat = pct) (Ky : ¬ 0 < a → own_G p e below Φ T (mkF m pct Ls S)) (Kn : 0 < a → own_G p e below Φ T (mkF m pc' Ls S)) : own_G p e below Φ T (mkF m pc Ls (.int a :: S)) := by
  obtain ⟨⟨locs, Y, N⟩, hh, hn, hx, hZ, hby, hml, hown, hnm, hret, hlk⟩ := X
  subst hpc
  by_cases hc : ¬ 0 < a
  · exact own_by (Ky hc) fun t kk => XS.ifYes Y.here hx rfl rfl (hb hby hd) rfl ((if0 _ _).trans (flt hc).2.2.2) ho hp kk
  · replace hc := Decidable.not_not.mp hc; exact own_by (Kn hc) fun t kk => XS.ifNo Y.here hx rfl (hb hby hd) rfl ((if0 _ _).trans (tlt hc).2.2.2) kk
theorem own_ifl_eq (X : own_S Z n0 bytes y ml ret p l e R s m args below meth c T k sl h) {o : Int} {a b : Int64} {pct : Nat} (hd : decode bytes pc = .ok (.ifCond .eq o, 3)) (hpc : pc + 3 = pc') (ho : 0 ≤ (pc : Int) + o) (hp : ((pc : Int) + o).toNat = pct) (Ky : a = b → own_G p e below Φ T (mkF m pct Ls S)) (Kn : ¬ a = b → own_G p e below Φ T (mkF m pc' Ls S)) : own_G p e below Φ T (mkF m pc Ls (.int (lcmpW a b) :: S)) :=
  own_if_eq X hd hpc ho hp (fun q => Ky ((lw_eq a b).mp q)) (fun q => Kn (fun r => q ((lw_eq a b).mpr r)))
theorem own_ifl_ne (X : own_S Z n0 bytes y ml ret p l e R s m args below meth c T k sl h) {o : Int} {a b : Int64} {pct : Nat} (hd : decode bytes pc = .ok (.ifCond .ne o, 3)) (hpc : pc + 3 = pc') (ho : 0 ≤ (pc : Int) + o) (hp : ((pc : Int) + o).toNat = pct) (Ky : ¬ a = b → own_G p e below Φ T (mkF m pct Ls S)) (Kn : a = b → own_G p e below Φ T (mkF m pc' Ls S)) : own_G p e below Φ T (mkF m pc Ls (.int (lcmpW a b) :: S)) :=
  own_if_ne X hd hpc ho hp (fun q => Ky (fun r => q ((lw_eq a b).mpr r))) (fun q => Kn ((lw_eq a b).mp q))
theorem own_ifl_lt (X : own_S Z n0 bytes y ml ret p l e R s m args below meth c T k sl h) {o : Int} {a b : Int64} {pct : Nat} (hd : decode bytes pc = .ok (.ifCond .lt o, 3)) (hpc : pc + 3 = pc') (ho : 0 ≤ (pc : Int) + o) (hp : ((pc : Int) + o).toNat = pct) (Ky : a < b → own_G p e below Φ T (mkF m pct Ls S)) (Kn : ¬ a < b → own_G p e below Φ T (mkF m pc' Ls S)) : own_G p e below Φ T (mkF m pc Ls (.int (lcmpW a b) :: S)) :=
  own_if_lt X hd hpc ho hp (fun q => Ky ((lw_lt a b).mp q)) (fun q => Kn (fun r => q ((lw_lt a b).mpr r)))
theorem own_ifl_ge (X : own_S Z n0 bytes y ml ret p l e R s m args below meth c T k sl h) {o : Int} {a b : Int64} {pct : Nat} (hd : decode bytes pc = .ok (.ifCond .ge o, 3)) (hpc : pc + 3 = pc') (ho : 0 ≤ (pc : Int) + o) (hp : ((pc : Int) + o).toNat = pct) (Ky : ¬ a < b → own_G p e below Φ T (mkF m pct Ls S)) (Kn : a < b → own_G p e below Φ T (mkF m pc' Ls S)) : own_G p e below Φ T (mkF m pc Ls (.int (lcmpW a b) :: S)) :=
  own_if_ge X hd hpc ho hp (fun q => Ky (fun r => q ((lw_lt a b).mpr r))) (fun q => Kn ((lw_lt a b).mp q))
theorem own_ifl_gt (X : own_S Z n0 bytes y ml ret p l e R s m args below meth c T k sl h) {o : Int} {a b : Int64} {pct : Nat} (hd : decode bytes pc = .ok (.ifCond .gt o, 3)) (hpc : pc + 3 = pc') (ho : 0 ≤ (pc : Int) + o) (hp : ((pc : Int) + o).toNat = pct) (Ky : b < a → own_G p e below Φ T (mkF m pct Ls S)) (Kn : ¬ b < a → own_G p e below Φ T (mkF m pc' Ls S)) : own_G p e below Φ T (mkF m pc Ls (.int (lcmpW a b) :: S)) :=
  own_if_gt X hd hpc ho hp (fun q => Ky ((lw_gt a b).mp q)) (fun q => Kn (fun r => q ((lw_gt a b).mpr r)))
theorem own_ifl_le (X : own_S Z n0 bytes y ml ret p l e R s m args below meth c T k sl h) {o : Int} {a b : Int64} {pct : Nat} (hd : decode bytes pc = .ok (.ifCond .le o, 3)) (hpc : pc + 3 = pc') (ho : 0 ≤ (pc : Int) + o) (hp : ((pc : Int) + o).toNat = pct) (Ky : ¬ b < a → own_G p e below Φ T (mkF m pct Ls S)) (Kn : b < a → own_G p e below Φ T (mkF m pc' Ls S)) : own_G p e below Φ T (mkF m pc Ls (.int (lcmpW a b) :: S)) :=
  own_if_le X hd hpc ho hp (fun q => Ky (fun r => q ((lw_gt a b).mpr r))) (fun q => Kn ((lw_gt a b).mp q))
theorem own_ldc {i : Nat} {v : Int32} (X : own_S Z n0 bytes y ml ret p l e R s m args below meth c T k sl h) (hw : (Jvm.Cond.constant y.cls i v).before a0 Z = true) (hd : decode bytes pc = .ok (.ldc i, 2)) (hpc : pc + 2 = pc') (K : own_G p e below Φ T (mkF m pc' Ls (.int v :: S))) : own_G p e below Φ T (mkF m pc Ls S) := by
  obtain ⟨⟨locs, Y, N⟩, hh, hn, hx, hZ, hby, hml, hown, hnm, hret, hlk⟩ := X
  subst hpc
  exact own_by K fun t kk => Y.ldcInt hx hown (mvT hZ hw) (g := mkF m pc Ls S) rfl (hb hby hd) t kk
theorem own_ldc2 {i : Nat} {v : Int64} (X : own_S Z n0 bytes y ml ret p l e R s m args below meth c T k sl h) (hw : (Jvm.Cond.constantLong y.cls i v).before a0 Z = true) (hd : decode bytes pc = .ok (.ldc2_w i, 3)) (hpc : pc + 3 = pc') (K : own_G p e below Φ T (mkF m pc' Ls (.long v :: S))) : own_G p e below Φ T (mkF m pc Ls S) := by
  obtain ⟨⟨locs, Y, N⟩, hh, hn, hx, hZ, hby, hml, hown, hnm, hret, hlk⟩ := X
  subst hpc
  exact own_by K fun t kk => Y.ldc2Long hx hown (mvT hZ hw) (g := mkF m pc Ls S) rfl (hb hby hd) t kk
theorem own_ret {w' : Option Value} {Θ : Heap → Prop} {w : Value} {t : FieldType} {i : Instr} (X : own_S Z n0 bytes y ml (some t) p l e R s m args below meth c T k sl h)
    (hd : decode bytes pc = .ok (i, 1)) (hi : (i = .ireturn ∧ (t = .int ∨ t = .boolean ∨ t = .byte ∨ t = .char ∨ t = .short) ∧ ∃ z, w = .int z) ∨ (i = .lreturn ∧ t = .long ∧ ∃ z, w = .long z) ∨ (i = .dreturn ∧ t = .double ∧ ∃ z, w = .double z) ∨ (i = .freturn ∧ t = .float ∧ ∃ z, w = .float z) ∨ (i = .areturn ∧ t.isReference = true ∧ w.isRef = true))
    (hnw : narrow t w = w) (hk : k ≤ R.cells) (hs : sl ≤ R.slots) (hw : some w = w') (hΘ : Θ h) : own_G p e below (own_Q n0 below s R w' Θ) T (mkF m pc Ls (w :: S)) := by
  obtain ⟨⟨locs, Y, N⟩, hh, hn, hx, hZ, hby, hml, hown, hnm, hret, hlk⟩ := X
  obtain ⟨fs, hr, hrun, hended, hW, hsame⟩ := Y.leave (v := some w) (fun h => by rw [hret] at h; cases h) hlk
  refine ⟨_, _, retOut Y hx hret hnw hi (hb hby hd) hr, hrun, hended, _, _, rfl, ⟨⟨hw, ?_⟩, N⟩, ⟨_, rfl⟩, hW, hsame.mono hk hs⟩
  show Θ T.heap
  rw [hh]; exact hΘ
theorem own_retV {w' : Option Value} {Θ : Heap → Prop} (X : own_S Z n0 bytes y ml none p l e R s m args below meth c T k sl h)
    (hd : decode bytes pc = .ok (.return_, 1)) (hk : k ≤ R.cells) (hs : sl ≤ R.slots) (hw : none = w') (hΘ : Θ h) : own_G p e below (own_Q n0 below s R w' Θ) T (mkF m pc Ls []) := by
  obtain ⟨⟨locs, Y, N⟩, hh, hn, hx, hZ, hby, hml, hown, hnm, hret, hlk⟩ := X
  obtain ⟨fs, hr, hrun, hended, hW, hsame⟩ := Y.leave (v := none) (fun _ => rfl) hlk
  refine ⟨_, _, Y.returnOut hx hret (hb hby hd) hr, hrun, hended, _, _, rfl, ⟨⟨hw, ?_⟩, N⟩, ⟨_, rfl⟩, hW, hsame.mono hk hs⟩
  show Θ T.heap
  rw [hh]; exact hΘ
theorem own_retZ {w' : Option Value} {Θ : Heap → Prop} {z : Int32} (X : own_S Z n0 bytes y ml (some .boolean) p l e R s m args below meth c T k sl h) (hd : decode bytes pc = .ok (.ireturn, 1)) (hz : z &&& 1 = z) (hk : k ≤ R.cells) (hs : sl ≤ R.slots) (hw : some (.int z) = w') (hΘ : Θ h) : own_G p e below (own_Q n0 below s R w' Θ) T (mkF m pc Ls (.int z :: S)) :=
  own_ret X hd (Or.inl ⟨rfl, by simp, _, rfl⟩) (by simp [narrow, hz]) hk hs hw hΘ
theorem own_retI {w' : Option Value} {Θ : Heap → Prop} {z : Int32} (X : own_S Z n0 bytes y ml (some .int) p l e R s m args below meth c T k sl h) (hd : decode bytes pc = .ok (.ireturn, 1)) (hk : k ≤ R.cells) (hs : sl ≤ R.slots) (hw : some (.int z) = w') (hΘ : Θ h) : own_G p e below (own_Q n0 below s R w' Θ) T (mkF m pc Ls (.int z :: S)) :=
  own_ret X hd (Or.inl ⟨rfl, by simp, _, rfl⟩) rfl hk hs hw hΘ
theorem own_retB {w' : Option Value} {Θ : Heap → Prop} {z : Int32} (X : own_S Z n0 bytes y ml (some .byte) p l e R s m args below meth c T k sl h) (hd : decode bytes pc = .ok (.ireturn, 1)) (hz : z.toInt8.toInt32 = z) (hk : k ≤ R.cells) (hs : sl ≤ R.slots) (hw : some (.int z) = w') (hΘ : Θ h) : own_G p e below (own_Q n0 below s R w' Θ) T (mkF m pc Ls (.int z :: S)) :=
  own_ret X hd (Or.inl ⟨rfl, by simp, _, rfl⟩) (by simp [narrow, hz]) hk hs hw hΘ
theorem own_retL {w' : Option Value} {Θ : Heap → Prop} {z : Int64} (X : own_S Z n0 bytes y ml (some .long) p l e R s m args below meth c T k sl h) (hd : decode bytes pc = .ok (.lreturn, 1)) (hk : k ≤ R.cells) (hs : sl ≤ R.slots) (hw : some (.long z) = w') (hΘ : Θ h) : own_G p e below (own_Q n0 below s R w' Θ) T (mkF m pc Ls (.long z :: S)) :=
  own_ret X hd (Or.inr (Or.inl ⟨rfl, rfl, _, rfl⟩)) rfl hk hs hw hΘ
theorem own_callS {z : MethodName} {cb : ByteArray} {cml : Nat} {cret : Option FieldType} {crm : Room} {i : Nat} {argsL rest S' : List Value} {w : Option Value} {Θ : Heap → Prop} (X : own_S Z n0 bytes y ml ret p l e R s m args below meth c T k sl h) (M : own_Met l z cb cml cret crm Z n0 argsL.toArray h w Θ)
    (w1 : (Jvm.Cond.methodLink y.cls i z).before a0 Z = true) (w2 : (Jvm.Cond.static z).before a0 Z = true) (w3 : (Jvm.Cond.initialized z.cls).before a0 Z = true) (w4 : (Jvm.Cond.code z cb cml cret).before a0 Z = true) (hz : z.cls ≠ "java/lang/invoke/MethodHandle" ∧ z.cls ≠ "java/lang/invoke/VarHandle")
    {W : Nat} (hf : crm.frames + 1 ≤ R.frames) (hl : W + (cml + 11) + crm.locals ≤ R.locals) (hc0 : crm.cells = 0) (hs0 : crm.slots = 0) (hc : k ≤ R.cells) (hs : sl ≤ R.slots)
    (hlen : ∀ sig, parseMethodDescriptor z.desc = some sig → argsL.length = sig.parameters.length) (hst : S = argsL.reverse ++ rest) (hW : 2 * 0 + (rest.map fun v => v.category).sum ≤ W) (hsz : Ls.size = ml)
    (hd : decode bytes pc = .ok (.invokestatic i, 3)) (hpc : pc + 3 = pc')
    (hS' : w.toList ++ rest = S') (K : ∀ T' h', own_S Z n0 bytes y ml ret p l e R s m args below meth c T' k sl h' → Θ h' → own_G p e below Φ T' (mkF m pc' Ls S')) : own_G p e below Φ T (mkF m pc Ls S) := by
  obtain ⟨⟨locs, Y, N⟩, hh, hn, hx, hZ, hby, hml, hown, hnm, hret, hlk⟩ := X
  subst hpc
  obtain ⟨v, _, ⟨T', L', k', n'⟩, -, X', ⟨Lc, hQ, l1, y1, z1⟩, st⟩ := Jvm.LawKit.callS Y hx (y := z) hown (mvT hZ w1) (mvT hZ w2) (mvT hZ w3) (mvT hZ w4) hz (backOf (W := W) (Q := fun v h' L => (v = w ∧ Θ h') ∧ Fr n0 L) (M []) hZ w4 w3 hf hl) (g := mkF m pc Ls S) rfl (by rw [hml]; exact hsz) (argsL := argsL) (rest := rest) hlen hst hW (hb hby hd) (fun _ _ => ⟨rfl, hh, by rw [hc0]; exact hc, by rw [hs0]; exact hs⟩)
  dsimp only [Pt.U, Pt.locs, Pt.cells, Pt.slots] at X' l1 y1 z1 st hQ
  subst l1 y1 z1
  obtain ⟨⟨rfl, hQ1⟩, hQ2⟩ := hQ
  rw [hc0, hs0] at X'
  subst hS'
  exact own_by (K T' _ ⟨⟨_, X', N.app hQ2⟩, rfl, hn, hx, hZ, hby, hml, hown, hnm, hret, hlk⟩ hQ1) st
theorem own_callI {z : MethodName} {cb : ByteArray} {cml : Nat} {crm : Room} {i : Nat} {a : Addr} {argsL rest S' : List Value} {w : Option Value} {Θ : Heap → Prop} (X : own_S Z n0 bytes y ml ret p l e R s m args below meth c T k sl h) (M : own_Met l z cb cml none crm Z n0 (.ref a :: argsL).toArray h w Θ) (hi : z.name = "<init>")
    (w1 : (Jvm.Cond.methodLink y.cls i z).before a0 Z = true) (w2 : (Jvm.Cond.instanceMethod z).before a0 Z = true) (w3 : (Jvm.Cond.initialized z.cls).before a0 Z = true) (w4 : (Jvm.Cond.code z cb cml none).before a0 Z = true) (hz : z.cls ≠ "java/lang/invoke/MethodHandle" ∧ z.cls ≠ "java/lang/invoke/VarHandle")
    {W : Nat} (hf : crm.frames + 1 ≤ R.frames) (hl : W + (cml + 11) + crm.locals ≤ R.locals) (hc0 : crm.cells = 0) (hs0 : crm.slots = 0) (hc : k ≤ R.cells) (hs : sl ≤ R.slots)
    (hlen : ∀ sig, parseMethodDescriptor z.desc = some sig → argsL.length = sig.parameters.length) (hst : S = argsL.reverse ++ .ref a :: rest) (hW : 2 * 0 + (rest.map fun v => v.category).sum ≤ W) (hsz : Ls.size = ml)
    (hd : decode bytes pc = .ok (.invokespecial i, 3)) (hpc : pc + 3 = pc')
    (hS' : w.toList ++ rest = S') (K : ∀ T' h', own_S Z n0 bytes y ml ret p l e R s m args below meth c T' k sl h' → Θ h' → own_G p e below Φ T' (mkF m pc' Ls S')) : own_G p e below Φ T (mkF m pc Ls S) := by
  obtain ⟨⟨locs, Y, N⟩, hh, hn, hx, hZ, hby, hml, hown, hnm, hret, hlk⟩ := X
  subst hpc
  obtain ⟨v, _, ⟨T', L', k', n'⟩, -, X', ⟨Lc, hQ, l1, y1, z1⟩, st⟩ := Y.specialBack hx (y := z) hi hown (mvT hZ w1) (mvT hZ w2) (mvT hZ w4) hz (backOf (W := W) (Q := fun v h' L => (v = w ∧ Θ h') ∧ Fr n0 L) (M []) hZ w4 w3 hf hl) (g := mkF m pc Ls S) rfl (by rw [hml]; exact hsz) (Steps.refl _) (a := a) (argsL := argsL) (rest := rest) hlen hst hW (hb hby hd) (fun _ _ => ⟨rfl, hh, by rw [hc0]; exact hc, by rw [hs0]; exact hs⟩)
  dsimp only [Pt.U, Pt.locs, Pt.cells, Pt.slots] at X' l1 y1 z1 st hQ
  subst l1 y1 z1
  obtain ⟨⟨rfl, hQ1⟩, hQ2⟩ := hQ
  rw [hc0, hs0] at X'
  subst hS'
  exact own_by (K T' _ ⟨⟨_, X', N.app hQ2⟩, rfl, hn, hx, hZ, hby, hml, hown, hnm, hret, hlk⟩ hQ1) fun t kk => st.trans kk
theorem own_callV {z : MethodName} {cb : ByteArray} {cml : Nat} {cret : Option FieldType} {crm : Room} {i : Nat} {a : Addr} {argsL rest S' : List Value} {w : Option Value} {Θ : Heap → Prop} (X : own_S Z n0 bytes y ml ret p l e R s m args below meth c T k sl h) (M : own_Met l z cb cml cret crm Z n0 (.ref a :: argsL).toArray h w Θ) (E : Exa Z h a z.cls)
    (w1 : (Jvm.Cond.methodLink y.cls i z).before a0 Z = true) (w2 : (Jvm.Cond.declares z).before a0 Z = true) (w5 : (Jvm.Cond.selects z.cls z z).before a0 Z = true) (w6 : (Jvm.Cond.instanceMethod z).before a0 Z = true) (w3 : (Jvm.Cond.initialized z.cls).before a0 Z = true) (w4 : (Jvm.Cond.code z cb cml cret).before a0 Z = true) (hz : z.cls ≠ "java/lang/invoke/MethodHandle" ∧ z.cls ≠ "java/lang/invoke/VarHandle")
    {W : Nat} (hf : crm.frames + 1 ≤ R.frames) (hl : W + (cml + 11) + crm.locals ≤ R.locals) (hc0 : crm.cells = 0) (hs0 : crm.slots = 0) (hc : k ≤ R.cells) (hs : sl ≤ R.slots)
    (hlen : ∀ sig, parseMethodDescriptor z.desc = some sig → argsL.length = sig.parameters.length) (hst : S = argsL.reverse ++ .ref a :: rest) (hW : 2 * 0 + (rest.map fun v => v.category).sum ≤ W) (hsz : Ls.size = ml)
    (hd : decode bytes pc = .ok (.invokevirtual i, 3)) (hpc : pc + 3 = pc')
    (hS' : w.toList ++ rest = S') (K : ∀ T' h', own_S Z n0 bytes y ml ret p l e R s m args below meth c T' k sl h' → Θ h' → own_G p e below Φ T' (mkF m pc' Ls S')) : own_G p e below Φ T (mkF m pc Ls S) := by
  obtain ⟨⟨locs, Y, N⟩, hh, hn, hx, hZ, hby, hml, hown, hnm, hret, hlk⟩ := X
  subst hpc
  obtain ⟨cq, kq, qa, qb, qc⟩ := isOf hZ hh E
  obtain ⟨v, _, ⟨T', L', k', n'⟩, -, X', ⟨Lc, hQ, l1, y1, z1⟩, st⟩ := Y.virtualBack hx (y := z) (z := z) hown (mvT hZ w1) (mvT hZ w2) (notFace_of_selects (args := #[]) (mvT hZ w5)) (mvT hZ w5) (mvT hZ w6) hz (backOf (W := W) (Q := fun v h' L => (v = w ∧ Θ h') ∧ Fr n0 L) (M []) hZ w4 w3 hf hl) qa qc (g := mkF m pc Ls S) rfl (by rw [hml]; exact hsz) (Steps.refl _) (argsL := argsL) (rest := rest) hlen hst hW (hb hby hd) (fun _ _ => ⟨rfl, hh, by rw [hc0]; exact hc, by rw [hs0]; exact hs⟩)
  dsimp only [Pt.U, Pt.locs, Pt.cells, Pt.slots] at X' l1 y1 z1 st hQ
  subst l1 y1 z1
  obtain ⟨⟨rfl, hQ1⟩, hQ2⟩ := hQ
  rw [hc0, hs0] at X'
  subst hS'
  exact own_by (K T' _ ⟨⟨_, X', N.app hQ2⟩, rfl, hn, hx, hZ, hby, hml, hown, hnm, hret, hlk⟩ hQ1) fun t kk => st.trans kk
theorem own_getF (X : own_S Z n0 bytes y ml ret p l e R s m args below meth c T k sl h) {i : Nat} {a : Addr} {O nm d : String} {v : Value} (w : (Jvm.Cond.fieldLink y.cls i O nm d).before a0 Z = true) (F : Fld Z h a O nm d v) (hd : decode bytes pc = .ok (.getfield i, 3)) (hpc : pc + 3 = pc')
    (K : ∀ T', own_S Z n0 bytes y ml ret p l e R s m args below meth c T' k sl h → own_G p e below Φ T' (mkF m pc' Ls (v :: S))) : own_G p e below Φ T (mkF m pc Ls (.ref a :: S)) := by
  obtain ⟨⟨locs, Y, N⟩, hh, hn, hx, hZ, hby, hml, hown, hnm, hret, hlk⟩ := X
  subst hpc
  obtain ⟨T', X', e', st⟩ := getF Y hx hZ hown (host := "") (Or.inl w) Via.refl hh F (g := mkF m pc Ls (.ref a :: S)) rfl rfl (hb hby hd)
  exact own_by (K T' ⟨⟨_, X', N⟩, e', hn, hx, hZ, hby, hml, hown, hnm, hret, hlk⟩) st
theorem own_putF (X : own_S Z n0 bytes y ml ret p l e R s m args below meth c T k sl h) {i kk : Nat} {a : Addr} {O nm d C : String} {v v' old : Value} {ty : FieldType} (w : (Jvm.Cond.fieldLink y.cls i O nm d).before a0 Z = true) (F : Fld Z h a O nm d old) (E : Exa Z h a C) (ha : n0 ≤ a)
    (L : (Jvm.Cond.lays C O nm d).before a0 Z = true ∨ ((Jvm.Cond.laysFinal C O nm d).before a0 Z = true ∧ y.cls = O ∧ y.name = "<init>")) (wi : (Jvm.Cond.instantiable C kk).before a0 Z = true) (hty : parseFieldDescriptor d = some ty) (hv : narrow ty v = v') (hf : fits ty v' = true)
    (hd : decode bytes pc = .ok (.putfield i, 3)) (hpc : pc + 3 = pc')
    (K : ∀ T' h', own_S Z n0 bytes y ml ret p l e R s m args below meth c T' k sl h' → Wr h h' a (Jvm.RoadKit.slotOf Z O nm d) v' → own_G p e below Φ T' (mkF m pc' Ls S)) : own_G p e below Φ T (mkF m pc Ls (v :: .ref a :: S)) := by
  obtain ⟨⟨locs, Y, N⟩, hh, hn, hx, hZ, hby, hml, hown, hnm, hret, hlk⟩ := X
  subst hpc
  obtain ⟨T', h', X', e', W', st⟩ := putFN Y hx hZ hown w Via.refl hh F E (L.imp id fun q => ⟨q.1, q.2.1, hnm.trans q.2.2⟩) wi hty hv hf (g := mkF m pc Ls (v :: .ref a :: S)) rfl rfl (hb hby hd)
  exact own_by (K T' h' ⟨⟨_, X', Fr.snoc X' N ha⟩, e', hn, hx, hZ, hby, hml, hown, hnm, hret, hlk⟩ W') st
theorem own_new (X : own_S Z n0 bytes y ml ret p l e R s m args below meth c T k sl h) {i n : Nat} {C : String} (w : (Jvm.Cond.classLink y.cls i C).before a0 Z = true) (wi : (Jvm.Cond.instantiable C n).before a0 Z = true) (wz : (Jvm.Cond.initialized C).before a0 Z = true) (hd : decode bytes pc = .ok (.new i, 3)) (hpc : pc + 3 = pc') (hc : k + 1 ≤ R.cells) (hs : sl + n ≤ R.slots)
    (K : ∀ T' h' a, own_S Z n0 bytes y ml ret p l e R s m args below meth c T' (k + 1) (sl + n) h' → n0 ≤ a → a = h.size → Ext h h' → Exa Z h' a C → (∀ {O nm d : String} {ty : FieldType}, Laid Z a0 C O nm d → parseFieldDescriptor d = some ty → Fld Z h' a O nm d (defaultValue ty)) → own_G p e below Φ T' (mkF m pc' Ls (.ref a :: S))) : own_G p e below Φ T (mkF m pc Ls S) := by
  have hsz := X.size
  obtain ⟨⟨locs, Y, N⟩, hh, hn, hx, hZ, hby, hml, hown, hnm, hret, hlk⟩ := X
  subst hpc
  obtain ⟨T', h', X', e', E', A', D', -, st⟩ := newO Y hx hZ hown w wi wz hh (g := mkF m pc Ls S) rfl (hb hby hd) hc hs
  exact own_by (K T' h' h.size ⟨⟨_, X', N⟩, e', hn, hx, hZ, hby, hml, hown, hnm, hret, hlk⟩ hsz rfl E' A' D') st
def own_A (Z : State) (h : Heap) (a : Addr) (ty : FieldType) (vs : List Int32) : Prop := ∃ cl : Cell, Arr Z h a cl ty ∧ cl.slots.size = vs.length ∧ ∀ j, j < vs.length → cl.slots[j]? = some (.int (vs.getD j 0))
theorem own_A.ext {h' : Heap} {a : Addr} {ty : FieldType} {vs : List Int32} (A : own_A Z h a ty vs) (E : Ext h h') : own_A Z h' a ty vs := by obtain ⟨cl, q, r⟩ := A; exact ⟨cl, q.ext E, r⟩
theorem own_A.other {h' : Heap} {a b : Addr} {ty : FieldType} {vs : List Int32} {i : Nat} {v : Value} (A : own_A Z h b ty vs) (W : Wr h h' a i v) (q : b ≠ a) : own_A Z h' b ty vs := by obtain ⟨cl, r, t⟩ := A; exact ⟨cl, r.other W q, t⟩
theorem own_A.keep {h' : Heap} {a : Addr} {ty : FieldType} {vs : List Int32} {ws : List Addr} (A : own_A Z h a ty vs) (K : Keep h h' ws) (q : a ∉ ws) : own_A Z h' a ty vs := by obtain ⟨cl, r, t⟩ := A; exact ⟨cl, ⟨K.2.1 a cl r.1 q, r.2⟩, t⟩
theorem own_A.lt {a : Addr} {ty : FieldType} {vs : List Int32} (A : own_A Z h a ty vs) : a < h.size := by obtain ⟨cl, q, r⟩ := A; exact q.lt
def own_in (j : Int32) (n : Nat) : Bool := decide (0 ≤ j.toInt) && Nat.blt j.toNatClampNeg n
theorem own_in_not {j : Int32} {n : Nat} (q : own_in j n = true) : j.toNatClampNeg < n ∧ ¬ (j < 0 ∨ n ≤ j.toNatClampNeg) := by
  simp only [own_in, Bool.and_eq_true, decide_eq_true_eq] at q
  have h2 : j.toNatClampNeg < n := Nat.le_of_ble_eq_true q.2
  refine ⟨h2, ?_⟩
  simp only [Int32.lt_iff_toInt_lt, Int32.reduceToInt]
  omega
theorem own_baload (X : own_S Z n0 bytes y ml ret p l e R s m args below meth c T k sl h) {a : Addr} {vs : List Int32} {j v : Int32} (A : own_A Z h a .byte vs) (hj : own_in j vs.length = true) (hv : vs.getD j.toNatClampNeg 0 = v) (hd : decode bytes pc = .ok (.baload, 1)) (hpc : pc + 1 = pc') (K : own_G p e below Φ T (mkF m pc' Ls (.int v :: S))) : own_G p e below Φ T (mkF m pc Ls (.int j :: .ref a :: S)) := by
  obtain ⟨⟨locs, Y, N⟩, hh, hn, hx, hZ, hby, hml, hown, hnm, hret, hlk⟩ := X
  subst hpc
  obtain ⟨cl, q, r, t⟩ := A
  obtain ⟨j1, j2⟩ := own_in_not hj
  exact own_by K fun t' kk => Y.baloadBytes hx (j := j) (v := .int v) (by rw [hh]; exact q.1) (State.isArrayOf_alike hZ.alike q.2.1) q.2.2 (by rw [r]; exact j2) (by rw [t _ j1, hv]) (g := mkF m pc Ls (.int j :: .ref a :: S)) rfl rfl (hb hby hd) t' kk
theorem own_iaload (X : own_S Z n0 bytes y ml ret p l e R s m args below meth c T k sl h) {a : Addr} {vs : List Int32} {j v : Int32} (A : own_A Z h a .int vs) (hj : own_in j vs.length = true) (hv : vs.getD j.toNatClampNeg 0 = v) (hd : decode bytes pc = .ok (.iaload, 1)) (hpc : pc + 1 = pc') (K : own_G p e below Φ T (mkF m pc' Ls (.int v :: S))) : own_G p e below Φ T (mkF m pc Ls (.int j :: .ref a :: S)) := by
  obtain ⟨⟨locs, Y, N⟩, hh, hn, hx, hZ, hby, hml, hown, hnm, hret, hlk⟩ := X
  subst hpc
  obtain ⟨cl, q, r, t⟩ := A
  obtain ⟨j1, j2⟩ := own_in_not hj
  exact own_by K fun t' kk => Y.iaload hx (j := j) (v := .int v) (by rw [hh]; exact q.1) (State.isArrayOf_alike hZ.alike q.2.1) q.2.2 (by rw [r]; exact j2) (by rw [t _ j1, hv]) (g := mkF m pc Ls (.int j :: .ref a :: S)) rfl rfl (hb hby hd) t' kk
theorem own_len (X : own_S Z n0 bytes y ml ret p l e R s m args below meth c T k sl h) {a : Addr} {ty : FieldType} {vs : List Int32} {v : Int32} (A : own_A Z h a ty vs) (hv : vs.length.toInt32 = v) (hd : decode bytes pc = .ok (.arraylength, 1)) (hpc : pc + 1 = pc') (K : own_G p e below Φ T (mkF m pc' Ls (.int v :: S))) : own_G p e below Φ T (mkF m pc Ls (.ref a :: S)) := by
  obtain ⟨⟨locs, Y, N⟩, hh, hn, hx, hZ, hby, hml, hown, hnm, hret, hlk⟩ := X
  subst hpc
  obtain ⟨cl, q, r, t⟩ := A
  exact own_by K fun t' kk => Y.arraylength hx (by rw [hh]; exact q.1) (State.isArrayOf_alike hZ.alike q.2.1) (g := mkF m pc Ls (.ref a :: S)) rfl rfl (hb hby hd) t' (by rw [r, hv]; exact kk)
theorem own_set {h' : Heap} {a : Addr} {ty : FieldType} {vs : List Int32} {i : Nat} {v : Int32} {cl : Cell} (q : Arr Z h a cl ty) (r : cl.slots.size = vs.length) (t : ∀ j, j < vs.length → cl.slots[j]? = some (.int (vs.getD j 0))) (hi : i < vs.length) (W : Wr h h' a i (.int v)) : own_A Z h' a ty (vs.set i v) := by
  refine ⟨cl.setSlot i (.int v), q.same W, by rw [sz_set, r, List.length_set], fun j hj => ?_⟩
  rw [List.length_set] at hj
  have hc : i < cl.slots.size := by rw [r]; exact hi
  show (cl.slots.setIfInBounds i (.int v))[j]? = _
  rw [Array.getElem?_setIfInBounds]
  by_cases e : i = j
  · subst e
    simp [hc, List.getD_eq_getElem?_getD, hi]
  · simp only [e, if_false]
    rw [t j hj]
    simp [List.getD_eq_getElem?_getD, List.getElem?_set, e]
theorem own_bastore (X : own_S Z n0 bytes y ml ret p l e R s m args below meth c T k sl h) {a : Addr} {vs vs' : List Int32} {j v v' : Int32} (A : own_A Z h a .byte vs) (ha : n0 ≤ a) (hj : own_in j vs.length = true) (hv : v.toInt8.toInt32 = v') (hvs : vs.set j.toNatClampNeg v' = vs') (hd : decode bytes pc = .ok (.bastore, 1)) (hpc : pc + 1 = pc')
    (K : ∀ T' h', own_S Z n0 bytes y ml ret p l e R s m args below meth c T' k sl h' → own_A Z h' a .byte vs' → Wr h h' a j.toNatClampNeg (.int v') → own_G p e below Φ T' (mkF m pc' Ls S)) : own_G p e below Φ T (mkF m pc Ls (.int v :: .int j :: .ref a :: S)) := by
  obtain ⟨⟨locs, Y, N⟩, hh, hn, hx, hZ, hby, hml, hown, hnm, hret, hlk⟩ := X
  subst hpc hvs hv
  obtain ⟨cl, q, r, t⟩ := A
  obtain ⟨j1, j2⟩ := own_in_not hj
  obtain ⟨T', h', X', e', W', st⟩ := stB Y hx hZ hh q (j := j) (x := v) (by rw [r]; exact j2) (g := mkF m pc Ls (.int v :: .int j :: .ref a :: S)) rfl rfl (hb hby hd)
  exact own_by (K T' h' ⟨⟨_, X', Fr.snoc X' N ha⟩, e', hn, hx, hZ, hby, hml, hown, hnm, hret, hlk⟩ (own_set q r t j1 W') W') st
theorem own_iastore (X : own_S Z n0 bytes y ml ret p l e R s m args below meth c T k sl h) {a : Addr} {vs vs' : List Int32} {j v : Int32} (A : own_A Z h a .int vs) (ha : n0 ≤ a) (hj : own_in j vs.length = true) (hvs : vs.set j.toNatClampNeg v = vs') (hd : decode bytes pc = .ok (.iastore, 1)) (hpc : pc + 1 = pc')
    (K : ∀ T' h', own_S Z n0 bytes y ml ret p l e R s m args below meth c T' k sl h' → own_A Z h' a .int vs' → Wr h h' a j.toNatClampNeg (.int v) → own_G p e below Φ T' (mkF m pc' Ls S)) : own_G p e below Φ T (mkF m pc Ls (.int v :: .int j :: .ref a :: S)) := by
  obtain ⟨⟨locs, Y, N⟩, hh, hn, hx, hZ, hby, hml, hown, hnm, hret, hlk⟩ := X
  subst hpc hvs
  obtain ⟨cl, q, r, t⟩ := A
  obtain ⟨j1, j2⟩ := own_in_not hj
  obtain ⟨T', h', X', e', W', st⟩ := stI Y hx hZ hh q (j := j) (x := v) (by rw [r]; exact j2) (g := mkF m pc Ls (.int v :: .int j :: .ref a :: S)) rfl rfl (hb hby hd)
  exact own_by (K T' h' ⟨⟨_, X', Fr.snoc X' N ha⟩, e', hn, hx, hZ, hby, hml, hown, hnm, hret, hlk⟩ (own_set q r t j1 W') W') st
theorem own_newarr (X : own_S Z n0 bytes y ml ret p l e R s m args below meth c T k sl h) {aty : ArrayType} {n : Int32} {len : Nat} {vs : List Int32} (w : (Jvm.Cond.arrayClass (newarray.typeOf aty)).before a0 Z = true) (hty : defaultValue (newarray.typeOf aty) = .int 0) (hn0 : ¬ n < 0) (hlen : n.toNatClampNeg = len) (hvs : List.replicate len 0 = vs) (hbig : len * 8 ≤ 536870912) (hd : decode bytes pc = .ok (.newarray aty, 2)) (hpc : pc + 2 = pc') (hc : k + 1 ≤ R.cells) (hs : sl + len ≤ R.slots)
    (K : ∀ T' h' a, own_S Z n0 bytes y ml ret p l e R s m args below meth c T' (k + 1) (sl + len) h' → n0 ≤ a → a = h.size → Ext h h' → own_A Z h' a (newarray.typeOf aty) vs → own_G p e below Φ T' (mkF m pc' Ls (.ref a :: S))) : own_G p e below Φ T (mkF m pc Ls (.int n :: S)) := by
  have hsz := X.size
  obtain ⟨⟨locs, Y, N⟩, hh, hn, hx, hZ, hby, hml, hown, hnm, hret, hlk⟩ := X
  subst hpc hvs hlen
  obtain ⟨T', h', cA, X', e', E', A', st⟩ := newP Y hx hZ w hh (g := mkF m pc Ls (.int n :: S)) rfl (hb hby hd) rfl hn0 (cap := n.toNatClampNeg) (Nat.le_refl _) hbig hc hs
  refine own_by (K T' h' h.size ⟨⟨_, X', N⟩, e', hn, hx, hZ, hby, hml, hown, hnm, hret, hlk⟩ hsz rfl E' ⟨_, A', by rw [sz_new, List.length_replicate], fun j hj => ?_⟩) st
  rw [List.length_replicate] at hj
  simp [newA, hj, hty, List.getD_eq_getElem?_getD]
theorem own_b8 (v : Int32) : (v.toInt8.toInt32).toInt8.toInt32 = v.toInt8.toInt32 := by simp
end OwnKit
def own_mk (raw : Int64) (flags kk : Int32) : Int32 := if (((flags.toUInt32 >>> (kk &&& 31).toUInt32).toInt32) &&& (1 : Int32)) = 0 then (((48 : Int32) + (((((raw.toUInt64 >>> (((8 : Int32) * kk) &&& 0x3f).toInt64.toUInt64).toInt64) &&& (255 : Int64)).toInt32) - (((((raw.toUInt64 >>> (((8 : Int32) * kk) &&& 0x3f).toInt64.toUInt64).toInt64) &&& (255 : Int64)).toInt32) / (10 : Int32)) * (10 : Int32))).toInt8.toInt32) else (((((raw.toUInt64 >>> (((8 : Int32) * kk) &&& 0x3f).toInt64.toUInt64).toInt64) &&& (255 : Int64)).toInt32).toInt8.toInt32)
theorem own_mk_b (raw : Int64) (flags kk : Int32) : (own_mk raw flags kk).toInt8.toInt32 = own_mk raw flags kk := by
  unfold own_mk; split <;> exact own_b8 _
theorem own_mk_rg (raw : Int64) (flags kk : Int32) : -128 ≤ (own_mk raw flags kk).toInt ∧ (own_mk raw flags kk).toInt < 128 := by
  unfold own_mk; split <;> exact (c_i2b _).2
def own_step (acc u : Int32) : Int32 := if ¬ acc < 0 then (if u < 48 then -1 else if ¬ 57 < u then (acc * (10 : Int32)) + (u - (48 : Int32)) else -1) else -1
def own_dig (acc : Int32) : List Int32 → Int32
  | [] => acc
  | u :: us => if u - (48 : Int32) < 0 then -1 else if ¬ 9 < u - (48 : Int32) then own_dig ((acc * (10 : Int32)) + (u - (48 : Int32))) us else -1
theorem own_dn (acc : Int32) : own_dig acc [] = acc := rfl
theorem own_dc (acc u : Int32) (us : List Int32) : own_dig acc (u :: us) = if u - (48 : Int32) < 0 then -1 else if ¬ 9 < u - (48 : Int32) then own_dig ((acc * (10 : Int32)) + (u - (48 : Int32))) us else -1 := rfl
theorem own_fc {P : Int32 → Prop} {a : Int32} {xs : List Int32} (h : P a) (t : ∀ x ∈ xs, P x) : ∀ x ∈ a :: xs, P x := fun x hx => by
  rcases List.mem_cons.mp hx with rfl | q
  · exact h
  · exact t x q
theorem own_fn {P : Int32 → Prop} : ∀ x ∈ ([] : List Int32), P x := fun _ q => nomatch q
theorem own_neg (xs : List Int32) : xs.foldl own_step (-1) = -1 := by
  induction xs with
  | nil => rfl
  | cons u us ih =>
    have e : own_step (-1) u = -1 := by rw [own_step, if_neg (by decide)]
    rw [List.foldl_cons, e, ih]
theorem own_eq (xs : List Int32) : ∀ (acc : Int32) (b : Nat), 0 ≤ acc.toInt → acc.toInt < ((10 ^ b : Nat) : Int) → b + xs.length ≤ 9 → (∀ u ∈ xs, -128 ≤ u.toInt ∧ u.toInt < 128) → own_dig acc xs = xs.foldl own_step acc := by
  induction xs with
  | nil => intro acc b _ _ _ _; rfl
  | cons u us ih =>
    intro acc b h0 h1 hb hu
    have hu0 := hu u (List.mem_cons_self ..)
    have hl : us.length + 1 + b ≤ 9 := by rw [List.length_cons] at hb; omega
    have k0 : (0 : Int32).toInt = 0 := by decide
    have k9 : (9 : Int32).toInt = 9 := by decide
    have k48 : (48 : Int32).toInt = 48 := by decide
    have k57 : (57 : Int32).toInt = 57 := by decide
    have k10 : (10 : Int32).toInt = 10 := by decide
    have s1 := c_isub u 48
    have r1 := rng32 (u - 48)
    rw [k48] at s1
    have m1 := c_imul acc 10
    have r2 := rng32 (acc * 10)
    rw [k10] at m1
    have p1 := c_iadd (acc * 10) (u - 48)
    have r3 := rng32 (acc * 10 + (u - 48))
    have hp : 10 ^ b ≤ 10 ^ 8 := Nat.pow_le_pow_right (by decide) (by omega)
    have hs : 10 ^ (b + 1) = 10 ^ b * 10 := Nat.pow_succ ..
    have hp8 : (10 : Nat) ^ 8 = 100000000 := by decide
    rw [hp8] at hp
    have e1 : (u - 48).toInt = u.toInt - 48 := by omega
    have e2 : (acc * 10).toInt = acc.toInt * 10 := by omega
    have n0 : ¬ acc < 0 := by rw [Int32.lt_iff_toInt_lt, k0]; omega
    rw [own_dc, List.foldl_cons, own_step, if_pos n0]
    by_cases q1 : u < 48
    · have q1' : u - (48 : Int32) < 0 := by rw [Int32.lt_iff_toInt_lt, k48] at q1; rw [Int32.lt_iff_toInt_lt, k0]; omega
      rw [if_pos q1', if_pos q1, own_neg]
    · have q1' : ¬ u - (48 : Int32) < 0 := by rw [Int32.lt_iff_toInt_lt, k48] at q1; rw [Int32.lt_iff_toInt_lt, k0]; omega
      rw [if_neg q1', if_neg q1]
      by_cases q2 : 57 < u
      · have q2' : 9 < u - (48 : Int32) := by rw [Int32.lt_iff_toInt_lt, k57] at q2; rw [Int32.lt_iff_toInt_lt, k9]; omega
        rw [if_neg (fun z => z q2'), if_neg (fun z => z q2), own_neg]
      · have q2' : ¬ 9 < u - (48 : Int32) := by rw [Int32.lt_iff_toInt_lt, k57] at q2; rw [Int32.lt_iff_toInt_lt, k9]; omega
        rw [if_pos q2', if_pos q2]
        rw [Int32.lt_iff_toInt_lt, k48] at q1
        rw [Int32.lt_iff_toInt_lt, k57] at q2
        have e3 : (acc * 10 + (u - 48)).toInt = acc.toInt * 10 + (u.toInt - 48) := by omega
        exact ih _ (b + 1) (by omega) (by rw [hs, e3]; omega) (by omega) (fun x hx => hu x (List.mem_cons_of_mem _ hx))
theorem own_rem {a v : Int32} (d : Int32) (hd : 0 < d.toInt) (e : ((a &&& (2147483647 : Int32)) - ((a &&& (2147483647 : Int32)) / d) * d) = v) : 0 ≤ v.toInt ∧ v.toInt < d.toInt := by
  have h := c_mask a 2147483647 31 (by decide) (by decide)
  rw [irem_eq_mod] at e
  have h3 := c_iremV (a &&& 2147483647) d
  rw [e] at h3
  have z := h3.1 (by omega) hd
  exact ⟨z.1, z.2.1⟩
theorem own_e0  : own_dig 0 [] = 0 := by
  rw [own_eq [] 0 0 (by decide) (by decide) (Nat.le_of_ble_eq_true rfl) own_fn]
  simp only [List.foldl_cons, List.foldl_nil]
theorem own_e1 {y0 : Int32} (hy0 : -128 ≤ y0.toInt ∧ y0.toInt < 128) : own_dig 0 [y0] = (own_step 0 y0) := by
  rw [own_eq [y0] 0 0 (by decide) (by decide) (Nat.le_of_ble_eq_true rfl) (own_fc hy0 own_fn)]
  simp only [List.foldl_cons, List.foldl_nil]
theorem own_e2 {y0 : Int32} (hy0 : -128 ≤ y0.toInt ∧ y0.toInt < 128) {y1 : Int32} (hy1 : -128 ≤ y1.toInt ∧ y1.toInt < 128) : own_dig 0 [y0, y1] = (own_step (own_step 0 y0) y1) := by
  rw [own_eq [y0, y1] 0 0 (by decide) (by decide) (Nat.le_of_ble_eq_true rfl) (own_fc hy0 (own_fc hy1 own_fn))]
  simp only [List.foldl_cons, List.foldl_nil]
theorem own_e3 {y0 : Int32} (hy0 : -128 ≤ y0.toInt ∧ y0.toInt < 128) {y1 : Int32} (hy1 : -128 ≤ y1.toInt ∧ y1.toInt < 128) {y2 : Int32} (hy2 : -128 ≤ y2.toInt ∧ y2.toInt < 128) : own_dig 0 [y0, y1, y2] = (own_step (own_step (own_step 0 y0) y1) y2) := by
  rw [own_eq [y0, y1, y2] 0 0 (by decide) (by decide) (Nat.le_of_ble_eq_true rfl) (own_fc hy0 (own_fc hy1 (own_fc hy2 own_fn)))]
  simp only [List.foldl_cons, List.foldl_nil]
theorem own_e4 {y0 : Int32} (hy0 : -128 ≤ y0.toInt ∧ y0.toInt < 128) {y1 : Int32} (hy1 : -128 ≤ y1.toInt ∧ y1.toInt < 128) {y2 : Int32} (hy2 : -128 ≤ y2.toInt ∧ y2.toInt < 128) {y3 : Int32} (hy3 : -128 ≤ y3.toInt ∧ y3.toInt < 128) : own_dig 0 [y0, y1, y2, y3] = (own_step (own_step (own_step (own_step 0 y0) y1) y2) y3) := by
  rw [own_eq [y0, y1, y2, y3] 0 0 (by decide) (by decide) (Nat.le_of_ble_eq_true rfl) (own_fc hy0 (own_fc hy1 (own_fc hy2 (own_fc hy3 own_fn))))]
  simp only [List.foldl_cons, List.foldl_nil]
theorem own_e5 {y0 : Int32} (hy0 : -128 ≤ y0.toInt ∧ y0.toInt < 128) {y1 : Int32} (hy1 : -128 ≤ y1.toInt ∧ y1.toInt < 128) {y2 : Int32} (hy2 : -128 ≤ y2.toInt ∧ y2.toInt < 128) {y3 : Int32} (hy3 : -128 ≤ y3.toInt ∧ y3.toInt < 128) {y4 : Int32} (hy4 : -128 ≤ y4.toInt ∧ y4.toInt < 128) : own_dig 0 [y0, y1, y2, y3, y4] = (own_step (own_step (own_step (own_step (own_step 0 y0) y1) y2) y3) y4) := by
  rw [own_eq [y0, y1, y2, y3, y4] 0 0 (by decide) (by decide) (Nat.le_of_ble_eq_true rfl) (own_fc hy0 (own_fc hy1 (own_fc hy2 (own_fc hy3 (own_fc hy4 own_fn)))))]
  simp only [List.foldl_cons, List.foldl_nil]
theorem own_c1 {v : Int32} (h : 0 ≤ v.toInt ∧ v.toInt < (1 : Int32).toInt) : v = 0 := by
  have k1 : ∀ n : Int32, v = n ↔ v.toInt = n.toInt := fun n => Int32.toInt_inj.symm
  simp only [k1, Int32.reduceToInt] at h ⊢
  omega
theorem own_c2 {v : Int32} (h : 0 ≤ v.toInt ∧ v.toInt < (2 : Int32).toInt) : v = 0 ∨ v = 1 := by
  have k1 : ∀ n : Int32, v = n ↔ v.toInt = n.toInt := fun n => Int32.toInt_inj.symm
  simp only [k1, Int32.reduceToInt] at h ⊢
  omega
theorem own_c3 {v : Int32} (h : 0 ≤ v.toInt ∧ v.toInt < (3 : Int32).toInt) : v = 0 ∨ v = 1 ∨ v = 2 := by
  have k1 : ∀ n : Int32, v = n ↔ v.toInt = n.toInt := fun n => Int32.toInt_inj.symm
  simp only [k1, Int32.reduceToInt] at h ⊢
  omega
theorem own_c4 {v : Int32} (h : 0 ≤ v.toInt ∧ v.toInt < (4 : Int32).toInt) : v = 0 ∨ v = 1 ∨ v = 2 ∨ v = 3 := by
  have k1 : ∀ n : Int32, v = n ↔ v.toInt = n.toInt := fun n => Int32.toInt_inj.symm
  simp only [k1, Int32.reduceToInt] at h ⊢
  omega
theorem own_c5 {v : Int32} (h : 0 ≤ v.toInt ∧ v.toInt < (5 : Int32).toInt) : v = 0 ∨ v = 1 ∨ v = 2 ∨ v = 3 ∨ v = 4 := by
  have k1 : ∀ n : Int32, v = n ↔ v.toInt = n.toInt := fun n => Int32.toInt_inj.symm
  simp only [k1, Int32.reduceToInt] at h ⊢
  omega
theorem own_c6 {v : Int32} (h : 0 ≤ v.toInt ∧ v.toInt < (6 : Int32).toInt) : v = 0 ∨ v = 1 ∨ v = 2 ∨ v = 3 ∨ v = 4 ∨ v = 5 := by
  have k1 : ∀ n : Int32, v = n ↔ v.toInt = n.toInt := fun n => Int32.toInt_inj.symm
  simp only [k1, Int32.reduceToInt] at h ⊢
  omega
theorem d1_0 : decode method_2_code 0 = .ok (.lload_n 0, 1) := by decide +kernel
theorem d1_1 : decode method_2_code 1 = .ok (.bipush 8, 2) := by decide +kernel
theorem d1_3 : decode method_2_code 3 = .ok (.iload_n 3, 1) := by decide +kernel
theorem d1_4 : decode method_2_code 4 = .ok (.imul, 1) := by decide +kernel
theorem d1_5 : decode method_2_code 5 = .ok (.lushr, 1) := by decide +kernel
theorem d1_6 : decode method_2_code 6 = .ok (.ldc2_w 7, 3) := by decide +kernel
theorem d1_9 : decode method_2_code 9 = .ok (.land, 1) := by decide +kernel
theorem d1_10 : decode method_2_code 10 = .ok (.l2i, 1) := by decide +kernel
theorem d1_11 : decode method_2_code 11 = .ok (.istore 4, 2) := by decide +kernel
theorem d1_13 : decode method_2_code 13 = .ok (.iload_n 2, 1) := by decide +kernel
theorem d1_14 : decode method_2_code 14 = .ok (.iload_n 3, 1) := by decide +kernel
theorem d1_15 : decode method_2_code 15 = .ok (.iushr, 1) := by decide +kernel
theorem d1_16 : decode method_2_code 16 = .ok (.iconst 1, 1) := by decide +kernel
theorem d1_17 : decode method_2_code 17 = .ok (.iand, 1) := by decide +kernel
theorem d1_18 : decode method_2_code 18 = .ok (.ifCond .eq 7, 3) := by decide +kernel
theorem d1_21 : decode method_2_code 21 = .ok (.iload 4, 2) := by decide +kernel
theorem d1_23 : decode method_2_code 23 = .ok (.i2b, 1) := by decide +kernel
theorem d1_24 : decode method_2_code 24 = .ok (.ireturn, 1) := by decide +kernel
theorem d1_25 : decode method_2_code 25 = .ok (.bipush 48, 2) := by decide +kernel
theorem d1_27 : decode method_2_code 27 = .ok (.iload 4, 2) := by decide +kernel
theorem d1_29 : decode method_2_code 29 = .ok (.bipush 10, 2) := by decide +kernel
theorem d1_31 : decode method_2_code 31 = .ok (.irem, 1) := by decide +kernel
theorem d1_32 : decode method_2_code 32 = .ok (.iadd, 1) := by decide +kernel
theorem d1_33 : decode method_2_code 33 = .ok (.i2b, 1) := by decide +kernel
theorem d1_34 : decode method_2_code 34 = .ok (.ireturn, 1) := by decide +kernel
theorem pn_rm1 : plainFor (⟨"com/example/vegeu/vegeu/model/Iso2709DigitsPinLaw", "mk", "(JII)B"⟩ : MethodName) = true := plainFor_of_name (by first | (simp [plainName, overriddenIn]; done) | decide +kernel)
theorem ef_rm1 (m : MethodId) (x0 : Int64) (x1 : Int32) (x2 : Int32) : entryFrame m #[(.long x0), (.int x1), (.int x2)] 5 = mkF m 0 #[.val (.long x0), .second, .val (.int x1), .val (.int x2), .unset] [] := by first | (simp [entryFrame, mkF, argsToLocals, Value.category]; done) | rfl
set_option maxRecDepth 65536 in
set_option maxHeartbeats 4000000 in
theorem rm1 (l : Launch) (Z : State) (a0 : Array Value) (hw : ∀ d ∈ tables_1, d.before a0 Z = true) (n0 : Nat) (raw : Int64) (flags : Int32) (kk : Int32) (h0 : Heap) (hn0 : n0 ≤ h0.size) :
    own_Met l (⟨"com/example/vegeu/vegeu/model/Iso2709DigitsPinLaw", "mk", "(JII)B"⟩ : MethodName) method_2_code 5 (some .byte) ({ frames := 0, cells := 0, slots := 0, locals := 0 } : Room) Z n0 #[(.long raw), (.int flags), (.int kk)] h0 (some (.int (own_mk raw flags kk))) (fun h' => h' = h0) := by
  refine own_met pn_rm1 hn0 ?_
  intro p e s m below meth c T X
  refine own_cast (ef_rm1 m raw flags kk) ?_
  generalize hΦ : own_Q n0 below s _ _ _ = Φ
  refine own_lloadN X (pc' := 1) d1_0 rfl rfl ?_
  refine own_bipush X (v := (8 : Int32)) (pc' := 3) d1_1 rfl (by decide) ?_
  refine own_iloadN X (pc' := 4) d1_3 rfl rfl ?_
  refine own_imul X (r := ((8 : Int32) * kk)) (pc' := 5) d1_4 rfl rfl ?_
  refine own_lushr X (r := ((raw.toUInt64 >>> (((8 : Int32) * kk) &&& 0x3f).toInt64.toUInt64).toInt64)) (pc' := 6) d1_5 rfl rfl ?_
  refine own_ldc2 X (pc' := 9) (hw _ (List.mem_of_getElem? (i := 5) rfl)) d1_6 rfl ?_
  refine own_land X (r := (((raw.toUInt64 >>> (((8 : Int32) * kk) &&& 0x3f).toInt64.toUInt64).toInt64) &&& (255 : Int64))) (pc' := 10) d1_9 rfl rfl ?_
  refine own_l2i X (r := ((((raw.toUInt64 >>> (((8 : Int32) * kk) &&& 0x3f).toInt64.toUInt64).toInt64) &&& (255 : Int64)).toInt32)) (pc' := 11) d1_10 rfl rfl ?_
  refine own_istore X (pc' := 13) (Ls' := #[.val (.long raw), .second, .val (.int flags), .val (.int kk), .val (.int ((((raw.toUInt64 >>> (((8 : Int32) * kk) &&& 0x3f).toInt64.toUInt64).toInt64) &&& (255 : Int64)).toInt32))]) d1_11 rfl rfl ?_
  refine own_iloadN X (pc' := 14) d1_13 rfl rfl ?_
  refine own_iloadN X (pc' := 15) d1_14 rfl rfl ?_
  refine own_iushr X (r := ((flags.toUInt32 >>> (kk &&& 31).toUInt32).toInt32)) (pc' := 16) d1_15 rfl rfl ?_
  refine own_iconst X (v := (1 : Int32)) (pc' := 17) d1_16 rfl (by decide) ?_
  refine own_iand X (r := (((flags.toUInt32 >>> (kk &&& 31).toUInt32).toInt32) &&& (1 : Int32))) (pc' := 18) d1_17 rfl rfl ?_
  refine own_if_eq X (pct := 25) (pc' := 21) d1_18 rfl (by decide) (by decide) (fun hc18_1 => ?_) (fun hc18_1 => ?_)
  · refine own_bipush X (v := (48 : Int32)) (pc' := 27) d1_25 rfl (by decide) ?_
    refine own_iload X (pc' := 29) d1_27 rfl rfl ?_
    refine own_bipush X (v := (10 : Int32)) (pc' := 31) d1_29 rfl (by decide) ?_
    refine own_irem X (r := (((((raw.toUInt64 >>> (((8 : Int32) * kk) &&& 0x3f).toInt64.toUInt64).toInt64) &&& (255 : Int64)).toInt32) - (((((raw.toUInt64 >>> (((8 : Int32) * kk) &&& 0x3f).toInt64.toUInt64).toInt64) &&& (255 : Int64)).toInt32) / (10 : Int32)) * (10 : Int32))) (pc' := 32) d1_31 rfl (by decide) rfl ?_
    refine own_iadd X (r := ((48 : Int32) + (((((raw.toUInt64 >>> (((8 : Int32) * kk) &&& 0x3f).toInt64.toUInt64).toInt64) &&& (255 : Int64)).toInt32) - (((((raw.toUInt64 >>> (((8 : Int32) * kk) &&& 0x3f).toInt64.toUInt64).toInt64) &&& (255 : Int64)).toInt32) / (10 : Int32)) * (10 : Int32)))) (pc' := 33) d1_32 rfl rfl ?_
    refine own_i2b X (r := (((48 : Int32) + (((((raw.toUInt64 >>> (((8 : Int32) * kk) &&& 0x3f).toInt64.toUInt64).toInt64) &&& (255 : Int64)).toInt32) - (((((raw.toUInt64 >>> (((8 : Int32) * kk) &&& 0x3f).toInt64.toUInt64).toInt64) &&& (255 : Int64)).toInt32) / (10 : Int32)) * (10 : Int32))).toInt8.toInt32)) (pc' := 34) d1_33 rfl rfl ?_
    subst hΦ
    exact own_retB X d1_34 (own_b8 _) (by decide) (by decide) (by rw [own_mk, if_pos hc18_1]) rfl
  · refine own_iload X (pc' := 23) d1_21 rfl rfl ?_
    refine own_i2b X (r := (((((raw.toUInt64 >>> (((8 : Int32) * kk) &&& 0x3f).toInt64.toUInt64).toInt64) &&& (255 : Int64)).toInt32).toInt8.toInt32)) (pc' := 24) d1_23 rfl rfl ?_
    subst hΦ
    exact own_retB X d1_24 (own_b8 _) (by decide) (by decide) (by rw [own_mk, if_neg hc18_1]) rfl
theorem d3_0 : decode method_3_code 0 = .ok (.iload_n 0, 1) := by decide +kernel
theorem d3_1 : decode method_3_code 1 = .ok (.ifCond .ge 5, 3) := by decide +kernel
theorem d3_4 : decode method_3_code 4 = .ok (.iconst (-1), 1) := by decide +kernel
theorem d3_5 : decode method_3_code 5 = .ok (.ireturn, 1) := by decide +kernel
theorem d3_6 : decode method_3_code 6 = .ok (.iload_n 1, 1) := by decide +kernel
theorem d3_7 : decode method_3_code 7 = .ok (.bipush 48, 2) := by decide +kernel
theorem d3_9 : decode method_3_code 9 = .ok (.if_icmp .lt 9, 3) := by decide +kernel
theorem d3_12 : decode method_3_code 12 = .ok (.iload_n 1, 1) := by decide +kernel
theorem d3_13 : decode method_3_code 13 = .ok (.bipush 57, 2) := by decide +kernel
theorem d3_15 : decode method_3_code 15 = .ok (.if_icmp .le 5, 3) := by decide +kernel
theorem d3_18 : decode method_3_code 18 = .ok (.iconst (-1), 1) := by decide +kernel
theorem d3_19 : decode method_3_code 19 = .ok (.ireturn, 1) := by decide +kernel
theorem d3_20 : decode method_3_code 20 = .ok (.iload_n 0, 1) := by decide +kernel
theorem d3_21 : decode method_3_code 21 = .ok (.bipush 10, 2) := by decide +kernel
theorem d3_23 : decode method_3_code 23 = .ok (.imul, 1) := by decide +kernel
theorem d3_24 : decode method_3_code 24 = .ok (.iload_n 1, 1) := by decide +kernel
theorem d3_25 : decode method_3_code 25 = .ok (.bipush 48, 2) := by decide +kernel
theorem d3_27 : decode method_3_code 27 = .ok (.isub, 1) := by decide +kernel
theorem d3_28 : decode method_3_code 28 = .ok (.iadd, 1) := by decide +kernel
theorem d3_29 : decode method_3_code 29 = .ok (.ireturn, 1) := by decide +kernel
theorem pn_rm3 : plainFor (⟨"com/example/vegeu/vegeu/model/Iso2709DigitsPinLaw", "step", "(IB)I"⟩ : MethodName) = true := plainFor_of_name (by first | (simp [plainName, overriddenIn]; done) | decide +kernel)
theorem ef_rm3 (m : MethodId) (x0 : Int32) (x1 : Int32) : entryFrame m #[(.int x0), (.int x1)] 2 = mkF m 0 #[.val (.int x0), .val (.int x1)] [] := by first | (simp [entryFrame, mkF, argsToLocals, Value.category]; done) | rfl
set_option maxRecDepth 65536 in
set_option maxHeartbeats 4000000 in
theorem rm3 (l : Launch) (Z : State) (a0 : Array Value) (hw : ∀ d ∈ tables_1, d.before a0 Z = true) (n0 : Nat) (acc : Int32) (u : Int32) (h0 : Heap) (hn0 : n0 ≤ h0.size) :
    own_Met l (⟨"com/example/vegeu/vegeu/model/Iso2709DigitsPinLaw", "step", "(IB)I"⟩ : MethodName) method_3_code 2 (some .int) ({ frames := 0, cells := 0, slots := 0, locals := 0 } : Room) Z n0 #[(.int acc), (.int u)] h0 (some (.int (own_step acc u))) (fun h' => h' = h0) := by
  refine own_met pn_rm3 hn0 ?_
  intro p e s m below meth c T X
  refine own_cast (ef_rm3 m acc u) ?_
  generalize hΦ : own_Q n0 below s _ _ _ = Φ
  refine own_iloadN X (pc' := 1) d3_0 rfl rfl ?_
  refine own_if_ge X (pct := 6) (pc' := 4) d3_1 rfl (by decide) (by decide) (fun hc1_1 => ?_) (fun hc1_1 => ?_)
  · refine own_iloadN X (pc' := 7) d3_6 rfl rfl ?_
    refine own_bipush X (v := (48 : Int32)) (pc' := 9) d3_7 rfl (by decide) ?_
    refine own_icmp_lt X (pct := 18) (pc' := 12) d3_9 rfl (by decide) (by decide) (fun hc9_2 => ?_) (fun hc9_2 => ?_)
    · refine own_iconst X (v := (-1 : Int32)) (pc' := 19) d3_18 rfl (by decide) ?_
      subst hΦ
      exact own_retI X d3_19 (by decide) (by decide) (by rw [own_step, if_pos hc1_1, if_pos hc9_2]) rfl
    · refine own_iloadN X (pc' := 13) d3_12 rfl rfl ?_
      refine own_bipush X (v := (57 : Int32)) (pc' := 15) d3_13 rfl (by decide) ?_
      refine own_icmp_le X (pct := 20) (pc' := 18) d3_15 rfl (by decide) (by decide) (fun hc15_3 => ?_) (fun hc15_3 => ?_)
      · refine own_iloadN X (pc' := 21) d3_20 rfl rfl ?_
        refine own_bipush X (v := (10 : Int32)) (pc' := 23) d3_21 rfl (by decide) ?_
        refine own_imul X (r := (acc * (10 : Int32))) (pc' := 24) d3_23 rfl rfl ?_
        refine own_iloadN X (pc' := 25) d3_24 rfl rfl ?_
        refine own_bipush X (v := (48 : Int32)) (pc' := 27) d3_25 rfl (by decide) ?_
        refine own_isub X (r := (u - (48 : Int32))) (pc' := 28) d3_27 rfl rfl ?_
        refine own_iadd X (r := ((acc * (10 : Int32)) + (u - (48 : Int32)))) (pc' := 29) d3_28 rfl rfl ?_
        subst hΦ
        exact own_retI X d3_29 (by decide) (by decide) (by rw [own_step, if_pos hc1_1, if_neg hc9_2, if_pos hc15_3]) rfl
      · refine own_iconst X (v := (-1 : Int32)) (pc' := 19) d3_18 rfl (by decide) ?_
        subst hΦ
        exact own_retI X d3_19 (by decide) (by decide) (by rw [own_step, if_pos hc1_1, if_neg hc9_2, if_neg (fun z => z hc15_3)]) rfl
  · refine own_iconst X (v := (-1 : Int32)) (pc' := 5) d3_4 rfl (by decide) ?_
    subst hΦ
    exact own_retI X d3_5 (by decide) (by decide) (by rw [own_step, if_neg (fun z => z hc1_1)]) rfl
theorem d2_0 : decode prog_52_method_5_code 0 = .ok (.iconst 0, 1) := by decide +kernel
theorem d2_1 : decode prog_52_method_5_code 1 = .ok (.istore_n 3, 1) := by decide +kernel
theorem d2_2 : decode prog_52_method_5_code 2 = .ok (.iload_n 1, 1) := by decide +kernel
theorem d2_3 : decode prog_52_method_5_code 3 = .ok (.istore 4, 2) := by decide +kernel
theorem d2_5 : decode prog_52_method_5_code 5 = .ok (.iload 4, 2) := by decide +kernel
theorem d2_7 : decode prog_52_method_5_code 7 = .ok (.iload_n 1, 1) := by decide +kernel
theorem d2_8 : decode prog_52_method_5_code 8 = .ok (.iload_n 2, 1) := by decide +kernel
theorem d2_9 : decode prog_52_method_5_code 9 = .ok (.iadd, 1) := by decide +kernel
theorem d2_10 : decode prog_52_method_5_code 10 = .ok (.if_icmp .ge 40, 3) := by decide +kernel
theorem d2_50 : decode prog_52_method_5_code 50 = .ok (.iload_n 3, 1) := by decide +kernel
theorem d2_51 : decode prog_52_method_5_code 51 = .ok (.ireturn, 1) := by decide +kernel
theorem pn_rm2_00 : plainFor (⟨"com/example/vegeu/vegeu/model/Iso2709", "digits", "([BII)I"⟩ : MethodName) = true := plainFor_of_name (by first | (simp [plainName, overriddenIn]; done) | decide +kernel)
theorem ef_rm2_00 (m : MethodId) (x0 : Addr) (x1 : Int32) (x2 : Int32) : entryFrame m #[(.ref x0), (.int x1), (.int x2)] 6 = mkF m 0 #[.val (.ref x0), .val (.int x1), .val (.int x2), .unset, .unset, .unset] [] := by first | (simp [entryFrame, mkF, argsToLocals, Value.category]; done) | rfl
set_option maxRecDepth 65536 in
set_option maxHeartbeats 4000000 in
theorem rm2_00 (l : Launch) (Z : State) (a0 : Array Value) (hw : ∀ d ∈ tables_1, d.before a0 Z = true) (n0 : Nat) (a : Addr) (h0 : Heap) (hn0 : n0 ≤ h0.size) (c0 c1 c2 c3 c4 : Int32) (A : own_A Z h0 a .byte [c0, c1, c2, c3, c4]) :
    own_Met l (⟨"com/example/vegeu/vegeu/model/Iso2709", "digits", "([BII)I"⟩ : MethodName) prog_52_method_5_code 6 (some .int) ({ frames := 0, cells := 0, slots := 0, locals := 0 } : Room) Z n0 #[(.ref a), (.int (0 : Int32)), (.int (0 : Int32))] h0 (some (.int (own_dig 0 []))) (fun h' => h' = h0) := by
  refine own_met pn_rm2_00 hn0 ?_
  intro p e s m below meth c T X
  refine own_cast (ef_rm2_00 m a (0 : Int32) (0 : Int32)) ?_
  generalize hΦ : own_Q n0 below s _ _ _ = Φ
  refine own_iconst X (v := (0 : Int32)) (pc' := 1) d2_0 rfl (by decide) ?_
  refine own_istoreN X (pc' := 2) (Ls' := #[.val (.ref a), .val (.int (0 : Int32)), .val (.int (0 : Int32)), .val (.int (0 : Int32)), .unset, .unset]) d2_1 rfl rfl ?_
  refine own_iloadN X (pc' := 3) d2_2 rfl rfl ?_
  refine own_istore X (pc' := 5) (Ls' := #[.val (.ref a), .val (.int (0 : Int32)), .val (.int (0 : Int32)), .val (.int (0 : Int32)), .val (.int (0 : Int32)), .unset]) d2_3 rfl rfl ?_
  refine own_iload X (pc' := 7) d2_5 rfl rfl ?_
  refine own_iloadN X (pc' := 8) d2_7 rfl rfl ?_
  refine own_iloadN X (pc' := 9) d2_8 rfl rfl ?_
  refine own_iadd X (r := (0 : Int32)) (pc' := 10) d2_9 rfl (by decide) ?_
  refine own_icmp_ge X (pct := 50) (pc' := 13) d2_10 rfl (by decide) (by decide) (fun _ => ?_) (fun hc => absurd hc (by decide))
  refine own_iloadN X (pc' := 51) d2_50 rfl rfl ?_
  subst hΦ
  exact own_retI X d2_51 (by decide) (by decide) (by rw [own_dn]) rfl
theorem pn_rm2_10 : plainFor (⟨"com/example/vegeu/vegeu/model/Iso2709", "digits", "([BII)I"⟩ : MethodName) = true := plainFor_of_name (by first | (simp [plainName, overriddenIn]; done) | decide +kernel)
theorem ef_rm2_10 (m : MethodId) (x0 : Addr) (x1 : Int32) (x2 : Int32) : entryFrame m #[(.ref x0), (.int x1), (.int x2)] 6 = mkF m 0 #[.val (.ref x0), .val (.int x1), .val (.int x2), .unset, .unset, .unset] [] := by first | (simp [entryFrame, mkF, argsToLocals, Value.category]; done) | rfl
set_option maxRecDepth 65536 in
set_option maxHeartbeats 4000000 in
theorem rm2_10 (l : Launch) (Z : State) (a0 : Array Value) (hw : ∀ d ∈ tables_1, d.before a0 Z = true) (n0 : Nat) (a : Addr) (h0 : Heap) (hn0 : n0 ≤ h0.size) (c0 c1 c2 c3 c4 : Int32) (A : own_A Z h0 a .byte [c0, c1, c2, c3, c4]) :
    own_Met l (⟨"com/example/vegeu/vegeu/model/Iso2709", "digits", "([BII)I"⟩ : MethodName) prog_52_method_5_code 6 (some .int) ({ frames := 0, cells := 0, slots := 0, locals := 0 } : Room) Z n0 #[(.ref a), (.int (1 : Int32)), (.int (0 : Int32))] h0 (some (.int (own_dig 0 []))) (fun h' => h' = h0) := by
  refine own_met pn_rm2_10 hn0 ?_
  intro p e s m below meth c T X
  refine own_cast (ef_rm2_10 m a (1 : Int32) (0 : Int32)) ?_
  generalize hΦ : own_Q n0 below s _ _ _ = Φ
  refine own_iconst X (v := (0 : Int32)) (pc' := 1) d2_0 rfl (by decide) ?_
  refine own_istoreN X (pc' := 2) (Ls' := #[.val (.ref a), .val (.int (1 : Int32)), .val (.int (0 : Int32)), .val (.int (0 : Int32)), .unset, .unset]) d2_1 rfl rfl ?_
  refine own_iloadN X (pc' := 3) d2_2 rfl rfl ?_
  refine own_istore X (pc' := 5) (Ls' := #[.val (.ref a), .val (.int (1 : Int32)), .val (.int (0 : Int32)), .val (.int (0 : Int32)), .val (.int (1 : Int32)), .unset]) d2_3 rfl rfl ?_
  refine own_iload X (pc' := 7) d2_5 rfl rfl ?_
  refine own_iloadN X (pc' := 8) d2_7 rfl rfl ?_
  refine own_iloadN X (pc' := 9) d2_8 rfl rfl ?_
  refine own_iadd X (r := (1 : Int32)) (pc' := 10) d2_9 rfl (by decide) ?_
  refine own_icmp_ge X (pct := 50) (pc' := 13) d2_10 rfl (by decide) (by decide) (fun _ => ?_) (fun hc => absurd hc (by decide))
  refine own_iloadN X (pc' := 51) d2_50 rfl rfl ?_
  subst hΦ
  exact own_retI X d2_51 (by decide) (by decide) (by rw [own_dn]) rfl
theorem pn_rm2_20 : plainFor (⟨"com/example/vegeu/vegeu/model/Iso2709", "digits", "([BII)I"⟩ : MethodName) = true := plainFor_of_name (by first | (simp [plainName, overriddenIn]; done) | decide +kernel)
theorem ef_rm2_20 (m : MethodId) (x0 : Addr) (x1 : Int32) (x2 : Int32) : entryFrame m #[(.ref x0), (.int x1), (.int x2)] 6 = mkF m 0 #[.val (.ref x0), .val (.int x1), .val (.int x2), .unset, .unset, .unset] [] := by first | (simp [entryFrame, mkF, argsToLocals, Value.category]; done) | rfl
set_option maxRecDepth 65536 in
set_option maxHeartbeats 4000000 in
theorem rm2_20 (l : Launch) (Z : State) (a0 : Array Value) (hw : ∀ d ∈ tables_1, d.before a0 Z = true) (n0 : Nat) (a : Addr) (h0 : Heap) (hn0 : n0 ≤ h0.size) (c0 c1 c2 c3 c4 : Int32) (A : own_A Z h0 a .byte [c0, c1, c2, c3, c4]) :
    own_Met l (⟨"com/example/vegeu/vegeu/model/Iso2709", "digits", "([BII)I"⟩ : MethodName) prog_52_method_5_code 6 (some .int) ({ frames := 0, cells := 0, slots := 0, locals := 0 } : Room) Z n0 #[(.ref a), (.int (2 : Int32)), (.int (0 : Int32))] h0 (some (.int (own_dig 0 []))) (fun h' => h' = h0) := by
  refine own_met pn_rm2_20 hn0 ?_
  intro p e s m below meth c T X
  refine own_cast (ef_rm2_20 m a (2 : Int32) (0 : Int32)) ?_
  generalize hΦ : own_Q n0 below s _ _ _ = Φ
  refine own_iconst X (v := (0 : Int32)) (pc' := 1) d2_0 rfl (by decide) ?_
  refine own_istoreN X (pc' := 2) (Ls' := #[.val (.ref a), .val (.int (2 : Int32)), .val (.int (0 : Int32)), .val (.int (0 : Int32)), .unset, .unset]) d2_1 rfl rfl ?_
  refine own_iloadN X (pc' := 3) d2_2 rfl rfl ?_
  refine own_istore X (pc' := 5) (Ls' := #[.val (.ref a), .val (.int (2 : Int32)), .val (.int (0 : Int32)), .val (.int (0 : Int32)), .val (.int (2 : Int32)), .unset]) d2_3 rfl rfl ?_
  refine own_iload X (pc' := 7) d2_5 rfl rfl ?_
  refine own_iloadN X (pc' := 8) d2_7 rfl rfl ?_
  refine own_iloadN X (pc' := 9) d2_8 rfl rfl ?_
  refine own_iadd X (r := (2 : Int32)) (pc' := 10) d2_9 rfl (by decide) ?_
  refine own_icmp_ge X (pct := 50) (pc' := 13) d2_10 rfl (by decide) (by decide) (fun _ => ?_) (fun hc => absurd hc (by decide))
  refine own_iloadN X (pc' := 51) d2_50 rfl rfl ?_
  subst hΦ
  exact own_retI X d2_51 (by decide) (by decide) (by rw [own_dn]) rfl
theorem pn_rm2_30 : plainFor (⟨"com/example/vegeu/vegeu/model/Iso2709", "digits", "([BII)I"⟩ : MethodName) = true := plainFor_of_name (by first | (simp [plainName, overriddenIn]; done) | decide +kernel)
theorem ef_rm2_30 (m : MethodId) (x0 : Addr) (x1 : Int32) (x2 : Int32) : entryFrame m #[(.ref x0), (.int x1), (.int x2)] 6 = mkF m 0 #[.val (.ref x0), .val (.int x1), .val (.int x2), .unset, .unset, .unset] [] := by first | (simp [entryFrame, mkF, argsToLocals, Value.category]; done) | rfl
set_option maxRecDepth 65536 in
set_option maxHeartbeats 4000000 in
theorem rm2_30 (l : Launch) (Z : State) (a0 : Array Value) (hw : ∀ d ∈ tables_1, d.before a0 Z = true) (n0 : Nat) (a : Addr) (h0 : Heap) (hn0 : n0 ≤ h0.size) (c0 c1 c2 c3 c4 : Int32) (A : own_A Z h0 a .byte [c0, c1, c2, c3, c4]) :
    own_Met l (⟨"com/example/vegeu/vegeu/model/Iso2709", "digits", "([BII)I"⟩ : MethodName) prog_52_method_5_code 6 (some .int) ({ frames := 0, cells := 0, slots := 0, locals := 0 } : Room) Z n0 #[(.ref a), (.int (3 : Int32)), (.int (0 : Int32))] h0 (some (.int (own_dig 0 []))) (fun h' => h' = h0) := by
  refine own_met pn_rm2_30 hn0 ?_
  intro p e s m below meth c T X
  refine own_cast (ef_rm2_30 m a (3 : Int32) (0 : Int32)) ?_
  generalize hΦ : own_Q n0 below s _ _ _ = Φ
  refine own_iconst X (v := (0 : Int32)) (pc' := 1) d2_0 rfl (by decide) ?_
  refine own_istoreN X (pc' := 2) (Ls' := #[.val (.ref a), .val (.int (3 : Int32)), .val (.int (0 : Int32)), .val (.int (0 : Int32)), .unset, .unset]) d2_1 rfl rfl ?_
  refine own_iloadN X (pc' := 3) d2_2 rfl rfl ?_
  refine own_istore X (pc' := 5) (Ls' := #[.val (.ref a), .val (.int (3 : Int32)), .val (.int (0 : Int32)), .val (.int (0 : Int32)), .val (.int (3 : Int32)), .unset]) d2_3 rfl rfl ?_
  refine own_iload X (pc' := 7) d2_5 rfl rfl ?_
  refine own_iloadN X (pc' := 8) d2_7 rfl rfl ?_
  refine own_iloadN X (pc' := 9) d2_8 rfl rfl ?_
  refine own_iadd X (r := (3 : Int32)) (pc' := 10) d2_9 rfl (by decide) ?_
  refine own_icmp_ge X (pct := 50) (pc' := 13) d2_10 rfl (by decide) (by decide) (fun _ => ?_) (fun hc => absurd hc (by decide))
  refine own_iloadN X (pc' := 51) d2_50 rfl rfl ?_
  subst hΦ
  exact own_retI X d2_51 (by decide) (by decide) (by rw [own_dn]) rfl
theorem pn_rm2_40 : plainFor (⟨"com/example/vegeu/vegeu/model/Iso2709", "digits", "([BII)I"⟩ : MethodName) = true := plainFor_of_name (by first | (simp [plainName, overriddenIn]; done) | decide +kernel)
theorem ef_rm2_40 (m : MethodId) (x0 : Addr) (x1 : Int32) (x2 : Int32) : entryFrame m #[(.ref x0), (.int x1), (.int x2)] 6 = mkF m 0 #[.val (.ref x0), .val (.int x1), .val (.int x2), .unset, .unset, .unset] [] := by first | (simp [entryFrame, mkF, argsToLocals, Value.category]; done) | rfl
set_option maxRecDepth 65536 in
set_option maxHeartbeats 4000000 in
theorem rm2_40 (l : Launch) (Z : State) (a0 : Array Value) (hw : ∀ d ∈ tables_1, d.before a0 Z = true) (n0 : Nat) (a : Addr) (h0 : Heap) (hn0 : n0 ≤ h0.size) (c0 c1 c2 c3 c4 : Int32) (A : own_A Z h0 a .byte [c0, c1, c2, c3, c4]) :
    own_Met l (⟨"com/example/vegeu/vegeu/model/Iso2709", "digits", "([BII)I"⟩ : MethodName) prog_52_method_5_code 6 (some .int) ({ frames := 0, cells := 0, slots := 0, locals := 0 } : Room) Z n0 #[(.ref a), (.int (4 : Int32)), (.int (0 : Int32))] h0 (some (.int (own_dig 0 []))) (fun h' => h' = h0) := by
  refine own_met pn_rm2_40 hn0 ?_
  intro p e s m below meth c T X
  refine own_cast (ef_rm2_40 m a (4 : Int32) (0 : Int32)) ?_
  generalize hΦ : own_Q n0 below s _ _ _ = Φ
  refine own_iconst X (v := (0 : Int32)) (pc' := 1) d2_0 rfl (by decide) ?_
  refine own_istoreN X (pc' := 2) (Ls' := #[.val (.ref a), .val (.int (4 : Int32)), .val (.int (0 : Int32)), .val (.int (0 : Int32)), .unset, .unset]) d2_1 rfl rfl ?_
  refine own_iloadN X (pc' := 3) d2_2 rfl rfl ?_
  refine own_istore X (pc' := 5) (Ls' := #[.val (.ref a), .val (.int (4 : Int32)), .val (.int (0 : Int32)), .val (.int (0 : Int32)), .val (.int (4 : Int32)), .unset]) d2_3 rfl rfl ?_
  refine own_iload X (pc' := 7) d2_5 rfl rfl ?_
  refine own_iloadN X (pc' := 8) d2_7 rfl rfl ?_
  refine own_iloadN X (pc' := 9) d2_8 rfl rfl ?_
  refine own_iadd X (r := (4 : Int32)) (pc' := 10) d2_9 rfl (by decide) ?_
  refine own_icmp_ge X (pct := 50) (pc' := 13) d2_10 rfl (by decide) (by decide) (fun _ => ?_) (fun hc => absurd hc (by decide))
  refine own_iloadN X (pc' := 51) d2_50 rfl rfl ?_
  subst hΦ
  exact own_retI X d2_51 (by decide) (by decide) (by rw [own_dn]) rfl
theorem pn_rm2_50 : plainFor (⟨"com/example/vegeu/vegeu/model/Iso2709", "digits", "([BII)I"⟩ : MethodName) = true := plainFor_of_name (by first | (simp [plainName, overriddenIn]; done) | decide +kernel)
theorem ef_rm2_50 (m : MethodId) (x0 : Addr) (x1 : Int32) (x2 : Int32) : entryFrame m #[(.ref x0), (.int x1), (.int x2)] 6 = mkF m 0 #[.val (.ref x0), .val (.int x1), .val (.int x2), .unset, .unset, .unset] [] := by first | (simp [entryFrame, mkF, argsToLocals, Value.category]; done) | rfl
set_option maxRecDepth 65536 in
set_option maxHeartbeats 4000000 in
theorem rm2_50 (l : Launch) (Z : State) (a0 : Array Value) (hw : ∀ d ∈ tables_1, d.before a0 Z = true) (n0 : Nat) (a : Addr) (h0 : Heap) (hn0 : n0 ≤ h0.size) (c0 c1 c2 c3 c4 : Int32) (A : own_A Z h0 a .byte [c0, c1, c2, c3, c4]) :
    own_Met l (⟨"com/example/vegeu/vegeu/model/Iso2709", "digits", "([BII)I"⟩ : MethodName) prog_52_method_5_code 6 (some .int) ({ frames := 0, cells := 0, slots := 0, locals := 0 } : Room) Z n0 #[(.ref a), (.int (5 : Int32)), (.int (0 : Int32))] h0 (some (.int (own_dig 0 []))) (fun h' => h' = h0) := by
  refine own_met pn_rm2_50 hn0 ?_
  intro p e s m below meth c T X
  refine own_cast (ef_rm2_50 m a (5 : Int32) (0 : Int32)) ?_
  generalize hΦ : own_Q n0 below s _ _ _ = Φ
  refine own_iconst X (v := (0 : Int32)) (pc' := 1) d2_0 rfl (by decide) ?_
  refine own_istoreN X (pc' := 2) (Ls' := #[.val (.ref a), .val (.int (5 : Int32)), .val (.int (0 : Int32)), .val (.int (0 : Int32)), .unset, .unset]) d2_1 rfl rfl ?_
  refine own_iloadN X (pc' := 3) d2_2 rfl rfl ?_
  refine own_istore X (pc' := 5) (Ls' := #[.val (.ref a), .val (.int (5 : Int32)), .val (.int (0 : Int32)), .val (.int (0 : Int32)), .val (.int (5 : Int32)), .unset]) d2_3 rfl rfl ?_
  refine own_iload X (pc' := 7) d2_5 rfl rfl ?_
  refine own_iloadN X (pc' := 8) d2_7 rfl rfl ?_
  refine own_iloadN X (pc' := 9) d2_8 rfl rfl ?_
  refine own_iadd X (r := (5 : Int32)) (pc' := 10) d2_9 rfl (by decide) ?_
  refine own_icmp_ge X (pct := 50) (pc' := 13) d2_10 rfl (by decide) (by decide) (fun _ => ?_) (fun hc => absurd hc (by decide))
  refine own_iloadN X (pc' := 51) d2_50 rfl rfl ?_
  subst hΦ
  exact own_retI X d2_51 (by decide) (by decide) (by rw [own_dn]) rfl
theorem d2_13 : decode prog_52_method_5_code 13 = .ok (.aload_n 0, 1) := by decide +kernel
theorem d2_14 : decode prog_52_method_5_code 14 = .ok (.iload 4, 2) := by decide +kernel
theorem d2_16 : decode prog_52_method_5_code 16 = .ok (.baload, 1) := by decide +kernel
theorem d2_17 : decode prog_52_method_5_code 17 = .ok (.bipush 48, 2) := by decide +kernel
theorem d2_19 : decode prog_52_method_5_code 19 = .ok (.isub, 1) := by decide +kernel
theorem d2_20 : decode prog_52_method_5_code 20 = .ok (.istore 5, 2) := by decide +kernel
theorem d2_22 : decode prog_52_method_5_code 22 = .ok (.iload 5, 2) := by decide +kernel
theorem d2_24 : decode prog_52_method_5_code 24 = .ok (.ifCond .lt 10, 3) := by decide +kernel
theorem d2_27 : decode prog_52_method_5_code 27 = .ok (.iload 5, 2) := by decide +kernel
theorem d2_29 : decode prog_52_method_5_code 29 = .ok (.bipush 9, 2) := by decide +kernel
theorem d2_31 : decode prog_52_method_5_code 31 = .ok (.if_icmp .le 5, 3) := by decide +kernel
theorem d2_34 : decode prog_52_method_5_code 34 = .ok (.iconst (-1), 1) := by decide +kernel
theorem d2_35 : decode prog_52_method_5_code 35 = .ok (.ireturn, 1) := by decide +kernel
theorem d2_36 : decode prog_52_method_5_code 36 = .ok (.iload_n 3, 1) := by decide +kernel
theorem d2_37 : decode prog_52_method_5_code 37 = .ok (.bipush 10, 2) := by decide +kernel
theorem d2_39 : decode prog_52_method_5_code 39 = .ok (.imul, 1) := by decide +kernel
theorem d2_40 : decode prog_52_method_5_code 40 = .ok (.iload 5, 2) := by decide +kernel
theorem d2_42 : decode prog_52_method_5_code 42 = .ok (.iadd, 1) := by decide +kernel
theorem d2_43 : decode prog_52_method_5_code 43 = .ok (.istore_n 3, 1) := by decide +kernel
theorem d2_44 : decode prog_52_method_5_code 44 = .ok (.iinc 4 1, 3) := by decide +kernel
theorem d2_47 : decode prog_52_method_5_code 47 = .ok (.goto (-42), 3) := by decide +kernel
theorem pn_rm2_01 : plainFor (⟨"com/example/vegeu/vegeu/model/Iso2709", "digits", "([BII)I"⟩ : MethodName) = true := plainFor_of_name (by first | (simp [plainName, overriddenIn]; done) | decide +kernel)
theorem ef_rm2_01 (m : MethodId) (x0 : Addr) (x1 : Int32) (x2 : Int32) : entryFrame m #[(.ref x0), (.int x1), (.int x2)] 6 = mkF m 0 #[.val (.ref x0), .val (.int x1), .val (.int x2), .unset, .unset, .unset] [] := by first | (simp [entryFrame, mkF, argsToLocals, Value.category]; done) | rfl
set_option maxRecDepth 65536 in
set_option maxHeartbeats 4000000 in
theorem rm2_01 (l : Launch) (Z : State) (a0 : Array Value) (hw : ∀ d ∈ tables_1, d.before a0 Z = true) (n0 : Nat) (a : Addr) (h0 : Heap) (hn0 : n0 ≤ h0.size) (c0 c1 c2 c3 c4 : Int32) (A : own_A Z h0 a .byte [c0, c1, c2, c3, c4]) :
    own_Met l (⟨"com/example/vegeu/vegeu/model/Iso2709", "digits", "([BII)I"⟩ : MethodName) prog_52_method_5_code 6 (some .int) ({ frames := 0, cells := 0, slots := 0, locals := 0 } : Room) Z n0 #[(.ref a), (.int (0 : Int32)), (.int (1 : Int32))] h0 (some (.int (own_dig 0 [c0]))) (fun h' => h' = h0) := by
  refine own_met pn_rm2_01 hn0 ?_
  intro p e s m below meth c T X
  refine own_cast (ef_rm2_01 m a (0 : Int32) (1 : Int32)) ?_
  generalize hΦ : own_Q n0 below s _ _ _ = Φ
  refine own_iconst X (v := (0 : Int32)) (pc' := 1) d2_0 rfl (by decide) ?_
  refine own_istoreN X (pc' := 2) (Ls' := #[.val (.ref a), .val (.int (0 : Int32)), .val (.int (1 : Int32)), .val (.int (0 : Int32)), .unset, .unset]) d2_1 rfl rfl ?_
  refine own_iloadN X (pc' := 3) d2_2 rfl rfl ?_
  refine own_istore X (pc' := 5) (Ls' := #[.val (.ref a), .val (.int (0 : Int32)), .val (.int (1 : Int32)), .val (.int (0 : Int32)), .val (.int (0 : Int32)), .unset]) d2_3 rfl rfl ?_
  refine own_iload X (pc' := 7) d2_5 rfl rfl ?_
  refine own_iloadN X (pc' := 8) d2_7 rfl rfl ?_
  refine own_iloadN X (pc' := 9) d2_8 rfl rfl ?_
  refine own_iadd X (r := (1 : Int32)) (pc' := 10) d2_9 rfl (by decide) ?_
  refine own_icmp_ge X (pct := 50) (pc' := 13) d2_10 rfl (by decide) (by decide) (fun hc => absurd hc (by decide)) (fun _ => ?_)
  refine own_aloadN X (pc' := 14) d2_13 rfl rfl rfl ?_
  refine own_iload X (pc' := 16) d2_14 rfl rfl ?_
  refine own_baload X (v := c0) (pc' := 17) A rfl rfl d2_16 rfl ?_
  refine own_bipush X (v := (48 : Int32)) (pc' := 19) d2_17 rfl (by decide) ?_
  refine own_isub X (r := (c0 - (48 : Int32))) (pc' := 20) d2_19 rfl rfl ?_
  refine own_istore X (pc' := 22) (Ls' := #[.val (.ref a), .val (.int (0 : Int32)), .val (.int (1 : Int32)), .val (.int (0 : Int32)), .val (.int (0 : Int32)), .val (.int (c0 - (48 : Int32)))]) d2_20 rfl rfl ?_
  refine own_iload X (pc' := 24) d2_22 rfl rfl ?_
  refine own_if_lt X (pct := 34) (pc' := 27) d2_24 rfl (by decide) (by decide) (fun hc24_1 => ?_) (fun hc24_1 => ?_)
  · refine own_iconst X (v := (-1 : Int32)) (pc' := 35) d2_34 rfl (by decide) ?_
    subst hΦ
    exact own_retI X d2_35 (by decide) (by decide) (by rw [own_dc, if_pos hc24_1]) rfl
  · refine own_iload X (pc' := 29) d2_27 rfl rfl ?_
    refine own_bipush X (v := (9 : Int32)) (pc' := 31) d2_29 rfl (by decide) ?_
    refine own_icmp_le X (pct := 36) (pc' := 34) d2_31 rfl (by decide) (by decide) (fun hc31_2 => ?_) (fun hc31_2 => ?_)
    · refine own_iloadN X (pc' := 37) d2_36 rfl rfl ?_
      refine own_bipush X (v := (10 : Int32)) (pc' := 39) d2_37 rfl (by decide) ?_
      refine own_imul X (r := ((0 : Int32) * (10 : Int32))) (pc' := 40) d2_39 rfl rfl ?_
      refine own_iload X (pc' := 42) d2_40 rfl rfl ?_
      refine own_iadd X (r := (((0 : Int32) * (10 : Int32)) + (c0 - (48 : Int32)))) (pc' := 43) d2_42 rfl rfl ?_
      refine own_istoreN X (pc' := 44) (Ls' := #[.val (.ref a), .val (.int (0 : Int32)), .val (.int (1 : Int32)), .val (.int (((0 : Int32) * (10 : Int32)) + (c0 - (48 : Int32)))), .val (.int (0 : Int32)), .val (.int (c0 - (48 : Int32)))]) d2_43 rfl rfl ?_
      refine own_iinc X (pc' := 47) (Ls' := #[.val (.ref a), .val (.int (0 : Int32)), .val (.int (1 : Int32)), .val (.int (((0 : Int32) * (10 : Int32)) + (c0 - (48 : Int32)))), .val (.int (1 : Int32)), .val (.int (c0 - (48 : Int32)))]) (w := (1 : Int32)) d2_44 rfl rfl (by decide) rfl ?_
      refine own_goto X (pc' := 5) d2_47 (by decide) (by decide) ?_
      refine own_iload X (pc' := 7) d2_5 rfl rfl ?_
      refine own_iloadN X (pc' := 8) d2_7 rfl rfl ?_
      refine own_iloadN X (pc' := 9) d2_8 rfl rfl ?_
      refine own_iadd X (r := (1 : Int32)) (pc' := 10) d2_9 rfl (by decide) ?_
      refine own_icmp_ge X (pct := 50) (pc' := 13) d2_10 rfl (by decide) (by decide) (fun _ => ?_) (fun hc => absurd hc (by decide))
      refine own_iloadN X (pc' := 51) d2_50 rfl rfl ?_
      subst hΦ
      exact own_retI X d2_51 (by decide) (by decide) (by rw [own_dc, if_neg hc24_1, if_pos hc31_2, own_dn]) rfl
    · refine own_iconst X (v := (-1 : Int32)) (pc' := 35) d2_34 rfl (by decide) ?_
      subst hΦ
      exact own_retI X d2_35 (by decide) (by decide) (by rw [own_dc, if_neg hc24_1, if_neg (fun z => z hc31_2)]) rfl
theorem pn_rm2_11 : plainFor (⟨"com/example/vegeu/vegeu/model/Iso2709", "digits", "([BII)I"⟩ : MethodName) = true := plainFor_of_name (by first | (simp [plainName, overriddenIn]; done) | decide +kernel)
theorem ef_rm2_11 (m : MethodId) (x0 : Addr) (x1 : Int32) (x2 : Int32) : entryFrame m #[(.ref x0), (.int x1), (.int x2)] 6 = mkF m 0 #[.val (.ref x0), .val (.int x1), .val (.int x2), .unset, .unset, .unset] [] := by first | (simp [entryFrame, mkF, argsToLocals, Value.category]; done) | rfl
set_option maxRecDepth 65536 in
set_option maxHeartbeats 4000000 in
theorem rm2_11 (l : Launch) (Z : State) (a0 : Array Value) (hw : ∀ d ∈ tables_1, d.before a0 Z = true) (n0 : Nat) (a : Addr) (h0 : Heap) (hn0 : n0 ≤ h0.size) (c0 c1 c2 c3 c4 : Int32) (A : own_A Z h0 a .byte [c0, c1, c2, c3, c4]) :
    own_Met l (⟨"com/example/vegeu/vegeu/model/Iso2709", "digits", "([BII)I"⟩ : MethodName) prog_52_method_5_code 6 (some .int) ({ frames := 0, cells := 0, slots := 0, locals := 0 } : Room) Z n0 #[(.ref a), (.int (1 : Int32)), (.int (1 : Int32))] h0 (some (.int (own_dig 0 [c1]))) (fun h' => h' = h0) := by
  refine own_met pn_rm2_11 hn0 ?_
  intro p e s m below meth c T X
  refine own_cast (ef_rm2_11 m a (1 : Int32) (1 : Int32)) ?_
  generalize hΦ : own_Q n0 below s _ _ _ = Φ
  refine own_iconst X (v := (0 : Int32)) (pc' := 1) d2_0 rfl (by decide) ?_
  refine own_istoreN X (pc' := 2) (Ls' := #[.val (.ref a), .val (.int (1 : Int32)), .val (.int (1 : Int32)), .val (.int (0 : Int32)), .unset, .unset]) d2_1 rfl rfl ?_
  refine own_iloadN X (pc' := 3) d2_2 rfl rfl ?_
  refine own_istore X (pc' := 5) (Ls' := #[.val (.ref a), .val (.int (1 : Int32)), .val (.int (1 : Int32)), .val (.int (0 : Int32)), .val (.int (1 : Int32)), .unset]) d2_3 rfl rfl ?_
  refine own_iload X (pc' := 7) d2_5 rfl rfl ?_
  refine own_iloadN X (pc' := 8) d2_7 rfl rfl ?_
  refine own_iloadN X (pc' := 9) d2_8 rfl rfl ?_
  refine own_iadd X (r := (2 : Int32)) (pc' := 10) d2_9 rfl (by decide) ?_
  refine own_icmp_ge X (pct := 50) (pc' := 13) d2_10 rfl (by decide) (by decide) (fun hc => absurd hc (by decide)) (fun _ => ?_)
  refine own_aloadN X (pc' := 14) d2_13 rfl rfl rfl ?_
  refine own_iload X (pc' := 16) d2_14 rfl rfl ?_
  refine own_baload X (v := c1) (pc' := 17) A rfl rfl d2_16 rfl ?_
  refine own_bipush X (v := (48 : Int32)) (pc' := 19) d2_17 rfl (by decide) ?_
  refine own_isub X (r := (c1 - (48 : Int32))) (pc' := 20) d2_19 rfl rfl ?_
  refine own_istore X (pc' := 22) (Ls' := #[.val (.ref a), .val (.int (1 : Int32)), .val (.int (1 : Int32)), .val (.int (0 : Int32)), .val (.int (1 : Int32)), .val (.int (c1 - (48 : Int32)))]) d2_20 rfl rfl ?_
  refine own_iload X (pc' := 24) d2_22 rfl rfl ?_
  refine own_if_lt X (pct := 34) (pc' := 27) d2_24 rfl (by decide) (by decide) (fun hc24_1 => ?_) (fun hc24_1 => ?_)
  · refine own_iconst X (v := (-1 : Int32)) (pc' := 35) d2_34 rfl (by decide) ?_
    subst hΦ
    exact own_retI X d2_35 (by decide) (by decide) (by rw [own_dc, if_pos hc24_1]) rfl
  · refine own_iload X (pc' := 29) d2_27 rfl rfl ?_
    refine own_bipush X (v := (9 : Int32)) (pc' := 31) d2_29 rfl (by decide) ?_
    refine own_icmp_le X (pct := 36) (pc' := 34) d2_31 rfl (by decide) (by decide) (fun hc31_2 => ?_) (fun hc31_2 => ?_)
    · refine own_iloadN X (pc' := 37) d2_36 rfl rfl ?_
      refine own_bipush X (v := (10 : Int32)) (pc' := 39) d2_37 rfl (by decide) ?_
      refine own_imul X (r := ((0 : Int32) * (10 : Int32))) (pc' := 40) d2_39 rfl rfl ?_
      refine own_iload X (pc' := 42) d2_40 rfl rfl ?_
      refine own_iadd X (r := (((0 : Int32) * (10 : Int32)) + (c1 - (48 : Int32)))) (pc' := 43) d2_42 rfl rfl ?_
      refine own_istoreN X (pc' := 44) (Ls' := #[.val (.ref a), .val (.int (1 : Int32)), .val (.int (1 : Int32)), .val (.int (((0 : Int32) * (10 : Int32)) + (c1 - (48 : Int32)))), .val (.int (1 : Int32)), .val (.int (c1 - (48 : Int32)))]) d2_43 rfl rfl ?_
      refine own_iinc X (pc' := 47) (Ls' := #[.val (.ref a), .val (.int (1 : Int32)), .val (.int (1 : Int32)), .val (.int (((0 : Int32) * (10 : Int32)) + (c1 - (48 : Int32)))), .val (.int (2 : Int32)), .val (.int (c1 - (48 : Int32)))]) (w := (2 : Int32)) d2_44 rfl rfl (by decide) rfl ?_
      refine own_goto X (pc' := 5) d2_47 (by decide) (by decide) ?_
      refine own_iload X (pc' := 7) d2_5 rfl rfl ?_
      refine own_iloadN X (pc' := 8) d2_7 rfl rfl ?_
      refine own_iloadN X (pc' := 9) d2_8 rfl rfl ?_
      refine own_iadd X (r := (2 : Int32)) (pc' := 10) d2_9 rfl (by decide) ?_
      refine own_icmp_ge X (pct := 50) (pc' := 13) d2_10 rfl (by decide) (by decide) (fun _ => ?_) (fun hc => absurd hc (by decide))
      refine own_iloadN X (pc' := 51) d2_50 rfl rfl ?_
      subst hΦ
      exact own_retI X d2_51 (by decide) (by decide) (by rw [own_dc, if_neg hc24_1, if_pos hc31_2, own_dn]) rfl
    · refine own_iconst X (v := (-1 : Int32)) (pc' := 35) d2_34 rfl (by decide) ?_
      subst hΦ
      exact own_retI X d2_35 (by decide) (by decide) (by rw [own_dc, if_neg hc24_1, if_neg (fun z => z hc31_2)]) rfl
theorem pn_rm2_21 : plainFor (⟨"com/example/vegeu/vegeu/model/Iso2709", "digits", "([BII)I"⟩ : MethodName) = true := plainFor_of_name (by first | (simp [plainName, overriddenIn]; done) | decide +kernel)
theorem ef_rm2_21 (m : MethodId) (x0 : Addr) (x1 : Int32) (x2 : Int32) : entryFrame m #[(.ref x0), (.int x1), (.int x2)] 6 = mkF m 0 #[.val (.ref x0), .val (.int x1), .val (.int x2), .unset, .unset, .unset] [] := by first | (simp [entryFrame, mkF, argsToLocals, Value.category]; done) | rfl
set_option maxRecDepth 65536 in
set_option maxHeartbeats 4000000 in
theorem rm2_21 (l : Launch) (Z : State) (a0 : Array Value) (hw : ∀ d ∈ tables_1, d.before a0 Z = true) (n0 : Nat) (a : Addr) (h0 : Heap) (hn0 : n0 ≤ h0.size) (c0 c1 c2 c3 c4 : Int32) (A : own_A Z h0 a .byte [c0, c1, c2, c3, c4]) :
    own_Met l (⟨"com/example/vegeu/vegeu/model/Iso2709", "digits", "([BII)I"⟩ : MethodName) prog_52_method_5_code 6 (some .int) ({ frames := 0, cells := 0, slots := 0, locals := 0 } : Room) Z n0 #[(.ref a), (.int (2 : Int32)), (.int (1 : Int32))] h0 (some (.int (own_dig 0 [c2]))) (fun h' => h' = h0) := by
  refine own_met pn_rm2_21 hn0 ?_
  intro p e s m below meth c T X
  refine own_cast (ef_rm2_21 m a (2 : Int32) (1 : Int32)) ?_
  generalize hΦ : own_Q n0 below s _ _ _ = Φ
  refine own_iconst X (v := (0 : Int32)) (pc' := 1) d2_0 rfl (by decide) ?_
  refine own_istoreN X (pc' := 2) (Ls' := #[.val (.ref a), .val (.int (2 : Int32)), .val (.int (1 : Int32)), .val (.int (0 : Int32)), .unset, .unset]) d2_1 rfl rfl ?_
  refine own_iloadN X (pc' := 3) d2_2 rfl rfl ?_
  refine own_istore X (pc' := 5) (Ls' := #[.val (.ref a), .val (.int (2 : Int32)), .val (.int (1 : Int32)), .val (.int (0 : Int32)), .val (.int (2 : Int32)), .unset]) d2_3 rfl rfl ?_
  refine own_iload X (pc' := 7) d2_5 rfl rfl ?_
  refine own_iloadN X (pc' := 8) d2_7 rfl rfl ?_
  refine own_iloadN X (pc' := 9) d2_8 rfl rfl ?_
  refine own_iadd X (r := (3 : Int32)) (pc' := 10) d2_9 rfl (by decide) ?_
  refine own_icmp_ge X (pct := 50) (pc' := 13) d2_10 rfl (by decide) (by decide) (fun hc => absurd hc (by decide)) (fun _ => ?_)
  refine own_aloadN X (pc' := 14) d2_13 rfl rfl rfl ?_
  refine own_iload X (pc' := 16) d2_14 rfl rfl ?_
  refine own_baload X (v := c2) (pc' := 17) A rfl rfl d2_16 rfl ?_
  refine own_bipush X (v := (48 : Int32)) (pc' := 19) d2_17 rfl (by decide) ?_
  refine own_isub X (r := (c2 - (48 : Int32))) (pc' := 20) d2_19 rfl rfl ?_
  refine own_istore X (pc' := 22) (Ls' := #[.val (.ref a), .val (.int (2 : Int32)), .val (.int (1 : Int32)), .val (.int (0 : Int32)), .val (.int (2 : Int32)), .val (.int (c2 - (48 : Int32)))]) d2_20 rfl rfl ?_
  refine own_iload X (pc' := 24) d2_22 rfl rfl ?_
  refine own_if_lt X (pct := 34) (pc' := 27) d2_24 rfl (by decide) (by decide) (fun hc24_1 => ?_) (fun hc24_1 => ?_)
  · refine own_iconst X (v := (-1 : Int32)) (pc' := 35) d2_34 rfl (by decide) ?_
    subst hΦ
    exact own_retI X d2_35 (by decide) (by decide) (by rw [own_dc, if_pos hc24_1]) rfl
  · refine own_iload X (pc' := 29) d2_27 rfl rfl ?_
    refine own_bipush X (v := (9 : Int32)) (pc' := 31) d2_29 rfl (by decide) ?_
    refine own_icmp_le X (pct := 36) (pc' := 34) d2_31 rfl (by decide) (by decide) (fun hc31_2 => ?_) (fun hc31_2 => ?_)
    · refine own_iloadN X (pc' := 37) d2_36 rfl rfl ?_
      refine own_bipush X (v := (10 : Int32)) (pc' := 39) d2_37 rfl (by decide) ?_
      refine own_imul X (r := ((0 : Int32) * (10 : Int32))) (pc' := 40) d2_39 rfl rfl ?_
      refine own_iload X (pc' := 42) d2_40 rfl rfl ?_
      refine own_iadd X (r := (((0 : Int32) * (10 : Int32)) + (c2 - (48 : Int32)))) (pc' := 43) d2_42 rfl rfl ?_
      refine own_istoreN X (pc' := 44) (Ls' := #[.val (.ref a), .val (.int (2 : Int32)), .val (.int (1 : Int32)), .val (.int (((0 : Int32) * (10 : Int32)) + (c2 - (48 : Int32)))), .val (.int (2 : Int32)), .val (.int (c2 - (48 : Int32)))]) d2_43 rfl rfl ?_
      refine own_iinc X (pc' := 47) (Ls' := #[.val (.ref a), .val (.int (2 : Int32)), .val (.int (1 : Int32)), .val (.int (((0 : Int32) * (10 : Int32)) + (c2 - (48 : Int32)))), .val (.int (3 : Int32)), .val (.int (c2 - (48 : Int32)))]) (w := (3 : Int32)) d2_44 rfl rfl (by decide) rfl ?_
      refine own_goto X (pc' := 5) d2_47 (by decide) (by decide) ?_
      refine own_iload X (pc' := 7) d2_5 rfl rfl ?_
      refine own_iloadN X (pc' := 8) d2_7 rfl rfl ?_
      refine own_iloadN X (pc' := 9) d2_8 rfl rfl ?_
      refine own_iadd X (r := (3 : Int32)) (pc' := 10) d2_9 rfl (by decide) ?_
      refine own_icmp_ge X (pct := 50) (pc' := 13) d2_10 rfl (by decide) (by decide) (fun _ => ?_) (fun hc => absurd hc (by decide))
      refine own_iloadN X (pc' := 51) d2_50 rfl rfl ?_
      subst hΦ
      exact own_retI X d2_51 (by decide) (by decide) (by rw [own_dc, if_neg hc24_1, if_pos hc31_2, own_dn]) rfl
    · refine own_iconst X (v := (-1 : Int32)) (pc' := 35) d2_34 rfl (by decide) ?_
      subst hΦ
      exact own_retI X d2_35 (by decide) (by decide) (by rw [own_dc, if_neg hc24_1, if_neg (fun z => z hc31_2)]) rfl
theorem pn_rm2_31 : plainFor (⟨"com/example/vegeu/vegeu/model/Iso2709", "digits", "([BII)I"⟩ : MethodName) = true := plainFor_of_name (by first | (simp [plainName, overriddenIn]; done) | decide +kernel)
theorem ef_rm2_31 (m : MethodId) (x0 : Addr) (x1 : Int32) (x2 : Int32) : entryFrame m #[(.ref x0), (.int x1), (.int x2)] 6 = mkF m 0 #[.val (.ref x0), .val (.int x1), .val (.int x2), .unset, .unset, .unset] [] := by first | (simp [entryFrame, mkF, argsToLocals, Value.category]; done) | rfl
set_option maxRecDepth 65536 in
set_option maxHeartbeats 4000000 in
theorem rm2_31 (l : Launch) (Z : State) (a0 : Array Value) (hw : ∀ d ∈ tables_1, d.before a0 Z = true) (n0 : Nat) (a : Addr) (h0 : Heap) (hn0 : n0 ≤ h0.size) (c0 c1 c2 c3 c4 : Int32) (A : own_A Z h0 a .byte [c0, c1, c2, c3, c4]) :
    own_Met l (⟨"com/example/vegeu/vegeu/model/Iso2709", "digits", "([BII)I"⟩ : MethodName) prog_52_method_5_code 6 (some .int) ({ frames := 0, cells := 0, slots := 0, locals := 0 } : Room) Z n0 #[(.ref a), (.int (3 : Int32)), (.int (1 : Int32))] h0 (some (.int (own_dig 0 [c3]))) (fun h' => h' = h0) := by
  refine own_met pn_rm2_31 hn0 ?_
  intro p e s m below meth c T X
  refine own_cast (ef_rm2_31 m a (3 : Int32) (1 : Int32)) ?_
  generalize hΦ : own_Q n0 below s _ _ _ = Φ
  refine own_iconst X (v := (0 : Int32)) (pc' := 1) d2_0 rfl (by decide) ?_
  refine own_istoreN X (pc' := 2) (Ls' := #[.val (.ref a), .val (.int (3 : Int32)), .val (.int (1 : Int32)), .val (.int (0 : Int32)), .unset, .unset]) d2_1 rfl rfl ?_
  refine own_iloadN X (pc' := 3) d2_2 rfl rfl ?_
  refine own_istore X (pc' := 5) (Ls' := #[.val (.ref a), .val (.int (3 : Int32)), .val (.int (1 : Int32)), .val (.int (0 : Int32)), .val (.int (3 : Int32)), .unset]) d2_3 rfl rfl ?_
  refine own_iload X (pc' := 7) d2_5 rfl rfl ?_
  refine own_iloadN X (pc' := 8) d2_7 rfl rfl ?_
  refine own_iloadN X (pc' := 9) d2_8 rfl rfl ?_
  refine own_iadd X (r := (4 : Int32)) (pc' := 10) d2_9 rfl (by decide) ?_
  refine own_icmp_ge X (pct := 50) (pc' := 13) d2_10 rfl (by decide) (by decide) (fun hc => absurd hc (by decide)) (fun _ => ?_)
  refine own_aloadN X (pc' := 14) d2_13 rfl rfl rfl ?_
  refine own_iload X (pc' := 16) d2_14 rfl rfl ?_
  refine own_baload X (v := c3) (pc' := 17) A rfl rfl d2_16 rfl ?_
  refine own_bipush X (v := (48 : Int32)) (pc' := 19) d2_17 rfl (by decide) ?_
  refine own_isub X (r := (c3 - (48 : Int32))) (pc' := 20) d2_19 rfl rfl ?_
  refine own_istore X (pc' := 22) (Ls' := #[.val (.ref a), .val (.int (3 : Int32)), .val (.int (1 : Int32)), .val (.int (0 : Int32)), .val (.int (3 : Int32)), .val (.int (c3 - (48 : Int32)))]) d2_20 rfl rfl ?_
  refine own_iload X (pc' := 24) d2_22 rfl rfl ?_
  refine own_if_lt X (pct := 34) (pc' := 27) d2_24 rfl (by decide) (by decide) (fun hc24_1 => ?_) (fun hc24_1 => ?_)
  · refine own_iconst X (v := (-1 : Int32)) (pc' := 35) d2_34 rfl (by decide) ?_
    subst hΦ
    exact own_retI X d2_35 (by decide) (by decide) (by rw [own_dc, if_pos hc24_1]) rfl
  · refine own_iload X (pc' := 29) d2_27 rfl rfl ?_
    refine own_bipush X (v := (9 : Int32)) (pc' := 31) d2_29 rfl (by decide) ?_
    refine own_icmp_le X (pct := 36) (pc' := 34) d2_31 rfl (by decide) (by decide) (fun hc31_2 => ?_) (fun hc31_2 => ?_)
    · refine own_iloadN X (pc' := 37) d2_36 rfl rfl ?_
      refine own_bipush X (v := (10 : Int32)) (pc' := 39) d2_37 rfl (by decide) ?_
      refine own_imul X (r := ((0 : Int32) * (10 : Int32))) (pc' := 40) d2_39 rfl rfl ?_
      refine own_iload X (pc' := 42) d2_40 rfl rfl ?_
      refine own_iadd X (r := (((0 : Int32) * (10 : Int32)) + (c3 - (48 : Int32)))) (pc' := 43) d2_42 rfl rfl ?_
      refine own_istoreN X (pc' := 44) (Ls' := #[.val (.ref a), .val (.int (3 : Int32)), .val (.int (1 : Int32)), .val (.int (((0 : Int32) * (10 : Int32)) + (c3 - (48 : Int32)))), .val (.int (3 : Int32)), .val (.int (c3 - (48 : Int32)))]) d2_43 rfl rfl ?_
      refine own_iinc X (pc' := 47) (Ls' := #[.val (.ref a), .val (.int (3 : Int32)), .val (.int (1 : Int32)), .val (.int (((0 : Int32) * (10 : Int32)) + (c3 - (48 : Int32)))), .val (.int (4 : Int32)), .val (.int (c3 - (48 : Int32)))]) (w := (4 : Int32)) d2_44 rfl rfl (by decide) rfl ?_
      refine own_goto X (pc' := 5) d2_47 (by decide) (by decide) ?_
      refine own_iload X (pc' := 7) d2_5 rfl rfl ?_
      refine own_iloadN X (pc' := 8) d2_7 rfl rfl ?_
      refine own_iloadN X (pc' := 9) d2_8 rfl rfl ?_
      refine own_iadd X (r := (4 : Int32)) (pc' := 10) d2_9 rfl (by decide) ?_
      refine own_icmp_ge X (pct := 50) (pc' := 13) d2_10 rfl (by decide) (by decide) (fun _ => ?_) (fun hc => absurd hc (by decide))
      refine own_iloadN X (pc' := 51) d2_50 rfl rfl ?_
      subst hΦ
      exact own_retI X d2_51 (by decide) (by decide) (by rw [own_dc, if_neg hc24_1, if_pos hc31_2, own_dn]) rfl
    · refine own_iconst X (v := (-1 : Int32)) (pc' := 35) d2_34 rfl (by decide) ?_
      subst hΦ
      exact own_retI X d2_35 (by decide) (by decide) (by rw [own_dc, if_neg hc24_1, if_neg (fun z => z hc31_2)]) rfl
theorem pn_rm2_41 : plainFor (⟨"com/example/vegeu/vegeu/model/Iso2709", "digits", "([BII)I"⟩ : MethodName) = true := plainFor_of_name (by first | (simp [plainName, overriddenIn]; done) | decide +kernel)
theorem ef_rm2_41 (m : MethodId) (x0 : Addr) (x1 : Int32) (x2 : Int32) : entryFrame m #[(.ref x0), (.int x1), (.int x2)] 6 = mkF m 0 #[.val (.ref x0), .val (.int x1), .val (.int x2), .unset, .unset, .unset] [] := by first | (simp [entryFrame, mkF, argsToLocals, Value.category]; done) | rfl
set_option maxRecDepth 65536 in
set_option maxHeartbeats 4000000 in
theorem rm2_41 (l : Launch) (Z : State) (a0 : Array Value) (hw : ∀ d ∈ tables_1, d.before a0 Z = true) (n0 : Nat) (a : Addr) (h0 : Heap) (hn0 : n0 ≤ h0.size) (c0 c1 c2 c3 c4 : Int32) (A : own_A Z h0 a .byte [c0, c1, c2, c3, c4]) :
    own_Met l (⟨"com/example/vegeu/vegeu/model/Iso2709", "digits", "([BII)I"⟩ : MethodName) prog_52_method_5_code 6 (some .int) ({ frames := 0, cells := 0, slots := 0, locals := 0 } : Room) Z n0 #[(.ref a), (.int (4 : Int32)), (.int (1 : Int32))] h0 (some (.int (own_dig 0 [c4]))) (fun h' => h' = h0) := by
  refine own_met pn_rm2_41 hn0 ?_
  intro p e s m below meth c T X
  refine own_cast (ef_rm2_41 m a (4 : Int32) (1 : Int32)) ?_
  generalize hΦ : own_Q n0 below s _ _ _ = Φ
  refine own_iconst X (v := (0 : Int32)) (pc' := 1) d2_0 rfl (by decide) ?_
  refine own_istoreN X (pc' := 2) (Ls' := #[.val (.ref a), .val (.int (4 : Int32)), .val (.int (1 : Int32)), .val (.int (0 : Int32)), .unset, .unset]) d2_1 rfl rfl ?_
  refine own_iloadN X (pc' := 3) d2_2 rfl rfl ?_
  refine own_istore X (pc' := 5) (Ls' := #[.val (.ref a), .val (.int (4 : Int32)), .val (.int (1 : Int32)), .val (.int (0 : Int32)), .val (.int (4 : Int32)), .unset]) d2_3 rfl rfl ?_
  refine own_iload X (pc' := 7) d2_5 rfl rfl ?_
  refine own_iloadN X (pc' := 8) d2_7 rfl rfl ?_
  refine own_iloadN X (pc' := 9) d2_8 rfl rfl ?_
  refine own_iadd X (r := (5 : Int32)) (pc' := 10) d2_9 rfl (by decide) ?_
  refine own_icmp_ge X (pct := 50) (pc' := 13) d2_10 rfl (by decide) (by decide) (fun hc => absurd hc (by decide)) (fun _ => ?_)
  refine own_aloadN X (pc' := 14) d2_13 rfl rfl rfl ?_
  refine own_iload X (pc' := 16) d2_14 rfl rfl ?_
  refine own_baload X (v := c4) (pc' := 17) A rfl rfl d2_16 rfl ?_
  refine own_bipush X (v := (48 : Int32)) (pc' := 19) d2_17 rfl (by decide) ?_
  refine own_isub X (r := (c4 - (48 : Int32))) (pc' := 20) d2_19 rfl rfl ?_
  refine own_istore X (pc' := 22) (Ls' := #[.val (.ref a), .val (.int (4 : Int32)), .val (.int (1 : Int32)), .val (.int (0 : Int32)), .val (.int (4 : Int32)), .val (.int (c4 - (48 : Int32)))]) d2_20 rfl rfl ?_
  refine own_iload X (pc' := 24) d2_22 rfl rfl ?_
  refine own_if_lt X (pct := 34) (pc' := 27) d2_24 rfl (by decide) (by decide) (fun hc24_1 => ?_) (fun hc24_1 => ?_)
  · refine own_iconst X (v := (-1 : Int32)) (pc' := 35) d2_34 rfl (by decide) ?_
    subst hΦ
    exact own_retI X d2_35 (by decide) (by decide) (by rw [own_dc, if_pos hc24_1]) rfl
  · refine own_iload X (pc' := 29) d2_27 rfl rfl ?_
    refine own_bipush X (v := (9 : Int32)) (pc' := 31) d2_29 rfl (by decide) ?_
    refine own_icmp_le X (pct := 36) (pc' := 34) d2_31 rfl (by decide) (by decide) (fun hc31_2 => ?_) (fun hc31_2 => ?_)
    · refine own_iloadN X (pc' := 37) d2_36 rfl rfl ?_
      refine own_bipush X (v := (10 : Int32)) (pc' := 39) d2_37 rfl (by decide) ?_
      refine own_imul X (r := ((0 : Int32) * (10 : Int32))) (pc' := 40) d2_39 rfl rfl ?_
      refine own_iload X (pc' := 42) d2_40 rfl rfl ?_
      refine own_iadd X (r := (((0 : Int32) * (10 : Int32)) + (c4 - (48 : Int32)))) (pc' := 43) d2_42 rfl rfl ?_
      refine own_istoreN X (pc' := 44) (Ls' := #[.val (.ref a), .val (.int (4 : Int32)), .val (.int (1 : Int32)), .val (.int (((0 : Int32) * (10 : Int32)) + (c4 - (48 : Int32)))), .val (.int (4 : Int32)), .val (.int (c4 - (48 : Int32)))]) d2_43 rfl rfl ?_
      refine own_iinc X (pc' := 47) (Ls' := #[.val (.ref a), .val (.int (4 : Int32)), .val (.int (1 : Int32)), .val (.int (((0 : Int32) * (10 : Int32)) + (c4 - (48 : Int32)))), .val (.int (5 : Int32)), .val (.int (c4 - (48 : Int32)))]) (w := (5 : Int32)) d2_44 rfl rfl (by decide) rfl ?_
      refine own_goto X (pc' := 5) d2_47 (by decide) (by decide) ?_
      refine own_iload X (pc' := 7) d2_5 rfl rfl ?_
      refine own_iloadN X (pc' := 8) d2_7 rfl rfl ?_
      refine own_iloadN X (pc' := 9) d2_8 rfl rfl ?_
      refine own_iadd X (r := (5 : Int32)) (pc' := 10) d2_9 rfl (by decide) ?_
      refine own_icmp_ge X (pct := 50) (pc' := 13) d2_10 rfl (by decide) (by decide) (fun _ => ?_) (fun hc => absurd hc (by decide))
      refine own_iloadN X (pc' := 51) d2_50 rfl rfl ?_
      subst hΦ
      exact own_retI X d2_51 (by decide) (by decide) (by rw [own_dc, if_neg hc24_1, if_pos hc31_2, own_dn]) rfl
    · refine own_iconst X (v := (-1 : Int32)) (pc' := 35) d2_34 rfl (by decide) ?_
      subst hΦ
      exact own_retI X d2_35 (by decide) (by decide) (by rw [own_dc, if_neg hc24_1, if_neg (fun z => z hc31_2)]) rfl
theorem pn_rm2_02 : plainFor (⟨"com/example/vegeu/vegeu/model/Iso2709", "digits", "([BII)I"⟩ : MethodName) = true := plainFor_of_name (by first | (simp [plainName, overriddenIn]; done) | decide +kernel)
theorem ef_rm2_02 (m : MethodId) (x0 : Addr) (x1 : Int32) (x2 : Int32) : entryFrame m #[(.ref x0), (.int x1), (.int x2)] 6 = mkF m 0 #[.val (.ref x0), .val (.int x1), .val (.int x2), .unset, .unset, .unset] [] := by first | (simp [entryFrame, mkF, argsToLocals, Value.category]; done) | rfl
set_option maxRecDepth 65536 in
set_option maxHeartbeats 4000000 in
theorem rm2_02 (l : Launch) (Z : State) (a0 : Array Value) (hw : ∀ d ∈ tables_1, d.before a0 Z = true) (n0 : Nat) (a : Addr) (h0 : Heap) (hn0 : n0 ≤ h0.size) (c0 c1 c2 c3 c4 : Int32) (A : own_A Z h0 a .byte [c0, c1, c2, c3, c4]) :
    own_Met l (⟨"com/example/vegeu/vegeu/model/Iso2709", "digits", "([BII)I"⟩ : MethodName) prog_52_method_5_code 6 (some .int) ({ frames := 0, cells := 0, slots := 0, locals := 0 } : Room) Z n0 #[(.ref a), (.int (0 : Int32)), (.int (2 : Int32))] h0 (some (.int (own_dig 0 [c0, c1]))) (fun h' => h' = h0) := by
  refine own_met pn_rm2_02 hn0 ?_
  intro p e s m below meth c T X
  refine own_cast (ef_rm2_02 m a (0 : Int32) (2 : Int32)) ?_
  generalize hΦ : own_Q n0 below s _ _ _ = Φ
  refine own_iconst X (v := (0 : Int32)) (pc' := 1) d2_0 rfl (by decide) ?_
  refine own_istoreN X (pc' := 2) (Ls' := #[.val (.ref a), .val (.int (0 : Int32)), .val (.int (2 : Int32)), .val (.int (0 : Int32)), .unset, .unset]) d2_1 rfl rfl ?_
  refine own_iloadN X (pc' := 3) d2_2 rfl rfl ?_
  refine own_istore X (pc' := 5) (Ls' := #[.val (.ref a), .val (.int (0 : Int32)), .val (.int (2 : Int32)), .val (.int (0 : Int32)), .val (.int (0 : Int32)), .unset]) d2_3 rfl rfl ?_
  refine own_iload X (pc' := 7) d2_5 rfl rfl ?_
  refine own_iloadN X (pc' := 8) d2_7 rfl rfl ?_
  refine own_iloadN X (pc' := 9) d2_8 rfl rfl ?_
  refine own_iadd X (r := (2 : Int32)) (pc' := 10) d2_9 rfl (by decide) ?_
  refine own_icmp_ge X (pct := 50) (pc' := 13) d2_10 rfl (by decide) (by decide) (fun hc => absurd hc (by decide)) (fun _ => ?_)
  refine own_aloadN X (pc' := 14) d2_13 rfl rfl rfl ?_
  refine own_iload X (pc' := 16) d2_14 rfl rfl ?_
  refine own_baload X (v := c0) (pc' := 17) A rfl rfl d2_16 rfl ?_
  refine own_bipush X (v := (48 : Int32)) (pc' := 19) d2_17 rfl (by decide) ?_
  refine own_isub X (r := (c0 - (48 : Int32))) (pc' := 20) d2_19 rfl rfl ?_
  refine own_istore X (pc' := 22) (Ls' := #[.val (.ref a), .val (.int (0 : Int32)), .val (.int (2 : Int32)), .val (.int (0 : Int32)), .val (.int (0 : Int32)), .val (.int (c0 - (48 : Int32)))]) d2_20 rfl rfl ?_
  refine own_iload X (pc' := 24) d2_22 rfl rfl ?_
  refine own_if_lt X (pct := 34) (pc' := 27) d2_24 rfl (by decide) (by decide) (fun hc24_1 => ?_) (fun hc24_1 => ?_)
  · refine own_iconst X (v := (-1 : Int32)) (pc' := 35) d2_34 rfl (by decide) ?_
    subst hΦ
    exact own_retI X d2_35 (by decide) (by decide) (by rw [own_dc, if_pos hc24_1]) rfl
  · refine own_iload X (pc' := 29) d2_27 rfl rfl ?_
    refine own_bipush X (v := (9 : Int32)) (pc' := 31) d2_29 rfl (by decide) ?_
    refine own_icmp_le X (pct := 36) (pc' := 34) d2_31 rfl (by decide) (by decide) (fun hc31_2 => ?_) (fun hc31_2 => ?_)
    · refine own_iloadN X (pc' := 37) d2_36 rfl rfl ?_
      refine own_bipush X (v := (10 : Int32)) (pc' := 39) d2_37 rfl (by decide) ?_
      refine own_imul X (r := ((0 : Int32) * (10 : Int32))) (pc' := 40) d2_39 rfl rfl ?_
      refine own_iload X (pc' := 42) d2_40 rfl rfl ?_
      refine own_iadd X (r := (((0 : Int32) * (10 : Int32)) + (c0 - (48 : Int32)))) (pc' := 43) d2_42 rfl rfl ?_
      refine own_istoreN X (pc' := 44) (Ls' := #[.val (.ref a), .val (.int (0 : Int32)), .val (.int (2 : Int32)), .val (.int (((0 : Int32) * (10 : Int32)) + (c0 - (48 : Int32)))), .val (.int (0 : Int32)), .val (.int (c0 - (48 : Int32)))]) d2_43 rfl rfl ?_
      refine own_iinc X (pc' := 47) (Ls' := #[.val (.ref a), .val (.int (0 : Int32)), .val (.int (2 : Int32)), .val (.int (((0 : Int32) * (10 : Int32)) + (c0 - (48 : Int32)))), .val (.int (1 : Int32)), .val (.int (c0 - (48 : Int32)))]) (w := (1 : Int32)) d2_44 rfl rfl (by decide) rfl ?_
      refine own_goto X (pc' := 5) d2_47 (by decide) (by decide) ?_
      refine own_iload X (pc' := 7) d2_5 rfl rfl ?_
      refine own_iloadN X (pc' := 8) d2_7 rfl rfl ?_
      refine own_iloadN X (pc' := 9) d2_8 rfl rfl ?_
      refine own_iadd X (r := (2 : Int32)) (pc' := 10) d2_9 rfl (by decide) ?_
      refine own_icmp_ge X (pct := 50) (pc' := 13) d2_10 rfl (by decide) (by decide) (fun hc => absurd hc (by decide)) (fun _ => ?_)
      refine own_aloadN X (pc' := 14) d2_13 rfl rfl rfl ?_
      refine own_iload X (pc' := 16) d2_14 rfl rfl ?_
      refine own_baload X (v := c1) (pc' := 17) A rfl rfl d2_16 rfl ?_
      refine own_bipush X (v := (48 : Int32)) (pc' := 19) d2_17 rfl (by decide) ?_
      refine own_isub X (r := (c1 - (48 : Int32))) (pc' := 20) d2_19 rfl rfl ?_
      refine own_istore X (pc' := 22) (Ls' := #[.val (.ref a), .val (.int (0 : Int32)), .val (.int (2 : Int32)), .val (.int (((0 : Int32) * (10 : Int32)) + (c0 - (48 : Int32)))), .val (.int (1 : Int32)), .val (.int (c1 - (48 : Int32)))]) d2_20 rfl rfl ?_
      refine own_iload X (pc' := 24) d2_22 rfl rfl ?_
      refine own_if_lt X (pct := 34) (pc' := 27) d2_24 rfl (by decide) (by decide) (fun hc24_3 => ?_) (fun hc24_3 => ?_)
      · refine own_iconst X (v := (-1 : Int32)) (pc' := 35) d2_34 rfl (by decide) ?_
        subst hΦ
        exact own_retI X d2_35 (by decide) (by decide) (by rw [own_dc, if_neg hc24_1, if_pos hc31_2, own_dc, if_pos hc24_3]) rfl
      · refine own_iload X (pc' := 29) d2_27 rfl rfl ?_
        refine own_bipush X (v := (9 : Int32)) (pc' := 31) d2_29 rfl (by decide) ?_
        refine own_icmp_le X (pct := 36) (pc' := 34) d2_31 rfl (by decide) (by decide) (fun hc31_4 => ?_) (fun hc31_4 => ?_)
        · refine own_iloadN X (pc' := 37) d2_36 rfl rfl ?_
          refine own_bipush X (v := (10 : Int32)) (pc' := 39) d2_37 rfl (by decide) ?_
          refine own_imul X (r := ((((0 : Int32) * (10 : Int32)) + (c0 - (48 : Int32))) * (10 : Int32))) (pc' := 40) d2_39 rfl rfl ?_
          refine own_iload X (pc' := 42) d2_40 rfl rfl ?_
          refine own_iadd X (r := (((((0 : Int32) * (10 : Int32)) + (c0 - (48 : Int32))) * (10 : Int32)) + (c1 - (48 : Int32)))) (pc' := 43) d2_42 rfl rfl ?_
          refine own_istoreN X (pc' := 44) (Ls' := #[.val (.ref a), .val (.int (0 : Int32)), .val (.int (2 : Int32)), .val (.int (((((0 : Int32) * (10 : Int32)) + (c0 - (48 : Int32))) * (10 : Int32)) + (c1 - (48 : Int32)))), .val (.int (1 : Int32)), .val (.int (c1 - (48 : Int32)))]) d2_43 rfl rfl ?_
          refine own_iinc X (pc' := 47) (Ls' := #[.val (.ref a), .val (.int (0 : Int32)), .val (.int (2 : Int32)), .val (.int (((((0 : Int32) * (10 : Int32)) + (c0 - (48 : Int32))) * (10 : Int32)) + (c1 - (48 : Int32)))), .val (.int (2 : Int32)), .val (.int (c1 - (48 : Int32)))]) (w := (2 : Int32)) d2_44 rfl rfl (by decide) rfl ?_
          refine own_goto X (pc' := 5) d2_47 (by decide) (by decide) ?_
          refine own_iload X (pc' := 7) d2_5 rfl rfl ?_
          refine own_iloadN X (pc' := 8) d2_7 rfl rfl ?_
          refine own_iloadN X (pc' := 9) d2_8 rfl rfl ?_
          refine own_iadd X (r := (2 : Int32)) (pc' := 10) d2_9 rfl (by decide) ?_
          refine own_icmp_ge X (pct := 50) (pc' := 13) d2_10 rfl (by decide) (by decide) (fun _ => ?_) (fun hc => absurd hc (by decide))
          refine own_iloadN X (pc' := 51) d2_50 rfl rfl ?_
          subst hΦ
          exact own_retI X d2_51 (by decide) (by decide) (by rw [own_dc, if_neg hc24_1, if_pos hc31_2, own_dc, if_neg hc24_3, if_pos hc31_4, own_dn]) rfl
        · refine own_iconst X (v := (-1 : Int32)) (pc' := 35) d2_34 rfl (by decide) ?_
          subst hΦ
          exact own_retI X d2_35 (by decide) (by decide) (by rw [own_dc, if_neg hc24_1, if_pos hc31_2, own_dc, if_neg hc24_3, if_neg (fun z => z hc31_4)]) rfl
    · refine own_iconst X (v := (-1 : Int32)) (pc' := 35) d2_34 rfl (by decide) ?_
      subst hΦ
      exact own_retI X d2_35 (by decide) (by decide) (by rw [own_dc, if_neg hc24_1, if_neg (fun z => z hc31_2)]) rfl
theorem pn_rm2_12 : plainFor (⟨"com/example/vegeu/vegeu/model/Iso2709", "digits", "([BII)I"⟩ : MethodName) = true := plainFor_of_name (by first | (simp [plainName, overriddenIn]; done) | decide +kernel)
theorem ef_rm2_12 (m : MethodId) (x0 : Addr) (x1 : Int32) (x2 : Int32) : entryFrame m #[(.ref x0), (.int x1), (.int x2)] 6 = mkF m 0 #[.val (.ref x0), .val (.int x1), .val (.int x2), .unset, .unset, .unset] [] := by first | (simp [entryFrame, mkF, argsToLocals, Value.category]; done) | rfl
set_option maxRecDepth 65536 in
set_option maxHeartbeats 4000000 in
theorem rm2_12 (l : Launch) (Z : State) (a0 : Array Value) (hw : ∀ d ∈ tables_1, d.before a0 Z = true) (n0 : Nat) (a : Addr) (h0 : Heap) (hn0 : n0 ≤ h0.size) (c0 c1 c2 c3 c4 : Int32) (A : own_A Z h0 a .byte [c0, c1, c2, c3, c4]) :
    own_Met l (⟨"com/example/vegeu/vegeu/model/Iso2709", "digits", "([BII)I"⟩ : MethodName) prog_52_method_5_code 6 (some .int) ({ frames := 0, cells := 0, slots := 0, locals := 0 } : Room) Z n0 #[(.ref a), (.int (1 : Int32)), (.int (2 : Int32))] h0 (some (.int (own_dig 0 [c1, c2]))) (fun h' => h' = h0) := by
  refine own_met pn_rm2_12 hn0 ?_
  intro p e s m below meth c T X
  refine own_cast (ef_rm2_12 m a (1 : Int32) (2 : Int32)) ?_
  generalize hΦ : own_Q n0 below s _ _ _ = Φ
  refine own_iconst X (v := (0 : Int32)) (pc' := 1) d2_0 rfl (by decide) ?_
  refine own_istoreN X (pc' := 2) (Ls' := #[.val (.ref a), .val (.int (1 : Int32)), .val (.int (2 : Int32)), .val (.int (0 : Int32)), .unset, .unset]) d2_1 rfl rfl ?_
  refine own_iloadN X (pc' := 3) d2_2 rfl rfl ?_
  refine own_istore X (pc' := 5) (Ls' := #[.val (.ref a), .val (.int (1 : Int32)), .val (.int (2 : Int32)), .val (.int (0 : Int32)), .val (.int (1 : Int32)), .unset]) d2_3 rfl rfl ?_
  refine own_iload X (pc' := 7) d2_5 rfl rfl ?_
  refine own_iloadN X (pc' := 8) d2_7 rfl rfl ?_
  refine own_iloadN X (pc' := 9) d2_8 rfl rfl ?_
  refine own_iadd X (r := (3 : Int32)) (pc' := 10) d2_9 rfl (by decide) ?_
  refine own_icmp_ge X (pct := 50) (pc' := 13) d2_10 rfl (by decide) (by decide) (fun hc => absurd hc (by decide)) (fun _ => ?_)
  refine own_aloadN X (pc' := 14) d2_13 rfl rfl rfl ?_
  refine own_iload X (pc' := 16) d2_14 rfl rfl ?_
  refine own_baload X (v := c1) (pc' := 17) A rfl rfl d2_16 rfl ?_
  refine own_bipush X (v := (48 : Int32)) (pc' := 19) d2_17 rfl (by decide) ?_
  refine own_isub X (r := (c1 - (48 : Int32))) (pc' := 20) d2_19 rfl rfl ?_
  refine own_istore X (pc' := 22) (Ls' := #[.val (.ref a), .val (.int (1 : Int32)), .val (.int (2 : Int32)), .val (.int (0 : Int32)), .val (.int (1 : Int32)), .val (.int (c1 - (48 : Int32)))]) d2_20 rfl rfl ?_
  refine own_iload X (pc' := 24) d2_22 rfl rfl ?_
  refine own_if_lt X (pct := 34) (pc' := 27) d2_24 rfl (by decide) (by decide) (fun hc24_1 => ?_) (fun hc24_1 => ?_)
  · refine own_iconst X (v := (-1 : Int32)) (pc' := 35) d2_34 rfl (by decide) ?_
    subst hΦ
    exact own_retI X d2_35 (by decide) (by decide) (by rw [own_dc, if_pos hc24_1]) rfl
  · refine own_iload X (pc' := 29) d2_27 rfl rfl ?_
    refine own_bipush X (v := (9 : Int32)) (pc' := 31) d2_29 rfl (by decide) ?_
    refine own_icmp_le X (pct := 36) (pc' := 34) d2_31 rfl (by decide) (by decide) (fun hc31_2 => ?_) (fun hc31_2 => ?_)
    · refine own_iloadN X (pc' := 37) d2_36 rfl rfl ?_
      refine own_bipush X (v := (10 : Int32)) (pc' := 39) d2_37 rfl (by decide) ?_
      refine own_imul X (r := ((0 : Int32) * (10 : Int32))) (pc' := 40) d2_39 rfl rfl ?_
      refine own_iload X (pc' := 42) d2_40 rfl rfl ?_
      refine own_iadd X (r := (((0 : Int32) * (10 : Int32)) + (c1 - (48 : Int32)))) (pc' := 43) d2_42 rfl rfl ?_
      refine own_istoreN X (pc' := 44) (Ls' := #[.val (.ref a), .val (.int (1 : Int32)), .val (.int (2 : Int32)), .val (.int (((0 : Int32) * (10 : Int32)) + (c1 - (48 : Int32)))), .val (.int (1 : Int32)), .val (.int (c1 - (48 : Int32)))]) d2_43 rfl rfl ?_
      refine own_iinc X (pc' := 47) (Ls' := #[.val (.ref a), .val (.int (1 : Int32)), .val (.int (2 : Int32)), .val (.int (((0 : Int32) * (10 : Int32)) + (c1 - (48 : Int32)))), .val (.int (2 : Int32)), .val (.int (c1 - (48 : Int32)))]) (w := (2 : Int32)) d2_44 rfl rfl (by decide) rfl ?_
      refine own_goto X (pc' := 5) d2_47 (by decide) (by decide) ?_
      refine own_iload X (pc' := 7) d2_5 rfl rfl ?_
      refine own_iloadN X (pc' := 8) d2_7 rfl rfl ?_
      refine own_iloadN X (pc' := 9) d2_8 rfl rfl ?_
      refine own_iadd X (r := (3 : Int32)) (pc' := 10) d2_9 rfl (by decide) ?_
      refine own_icmp_ge X (pct := 50) (pc' := 13) d2_10 rfl (by decide) (by decide) (fun hc => absurd hc (by decide)) (fun _ => ?_)
      refine own_aloadN X (pc' := 14) d2_13 rfl rfl rfl ?_
      refine own_iload X (pc' := 16) d2_14 rfl rfl ?_
      refine own_baload X (v := c2) (pc' := 17) A rfl rfl d2_16 rfl ?_
      refine own_bipush X (v := (48 : Int32)) (pc' := 19) d2_17 rfl (by decide) ?_
      refine own_isub X (r := (c2 - (48 : Int32))) (pc' := 20) d2_19 rfl rfl ?_
      refine own_istore X (pc' := 22) (Ls' := #[.val (.ref a), .val (.int (1 : Int32)), .val (.int (2 : Int32)), .val (.int (((0 : Int32) * (10 : Int32)) + (c1 - (48 : Int32)))), .val (.int (2 : Int32)), .val (.int (c2 - (48 : Int32)))]) d2_20 rfl rfl ?_
      refine own_iload X (pc' := 24) d2_22 rfl rfl ?_
      refine own_if_lt X (pct := 34) (pc' := 27) d2_24 rfl (by decide) (by decide) (fun hc24_3 => ?_) (fun hc24_3 => ?_)
      · refine own_iconst X (v := (-1 : Int32)) (pc' := 35) d2_34 rfl (by decide) ?_
        subst hΦ
        exact own_retI X d2_35 (by decide) (by decide) (by rw [own_dc, if_neg hc24_1, if_pos hc31_2, own_dc, if_pos hc24_3]) rfl
      · refine own_iload X (pc' := 29) d2_27 rfl rfl ?_
        refine own_bipush X (v := (9 : Int32)) (pc' := 31) d2_29 rfl (by decide) ?_
        refine own_icmp_le X (pct := 36) (pc' := 34) d2_31 rfl (by decide) (by decide) (fun hc31_4 => ?_) (fun hc31_4 => ?_)
        · refine own_iloadN X (pc' := 37) d2_36 rfl rfl ?_
          refine own_bipush X (v := (10 : Int32)) (pc' := 39) d2_37 rfl (by decide) ?_
          refine own_imul X (r := ((((0 : Int32) * (10 : Int32)) + (c1 - (48 : Int32))) * (10 : Int32))) (pc' := 40) d2_39 rfl rfl ?_
          refine own_iload X (pc' := 42) d2_40 rfl rfl ?_
          refine own_iadd X (r := (((((0 : Int32) * (10 : Int32)) + (c1 - (48 : Int32))) * (10 : Int32)) + (c2 - (48 : Int32)))) (pc' := 43) d2_42 rfl rfl ?_
          refine own_istoreN X (pc' := 44) (Ls' := #[.val (.ref a), .val (.int (1 : Int32)), .val (.int (2 : Int32)), .val (.int (((((0 : Int32) * (10 : Int32)) + (c1 - (48 : Int32))) * (10 : Int32)) + (c2 - (48 : Int32)))), .val (.int (2 : Int32)), .val (.int (c2 - (48 : Int32)))]) d2_43 rfl rfl ?_
          refine own_iinc X (pc' := 47) (Ls' := #[.val (.ref a), .val (.int (1 : Int32)), .val (.int (2 : Int32)), .val (.int (((((0 : Int32) * (10 : Int32)) + (c1 - (48 : Int32))) * (10 : Int32)) + (c2 - (48 : Int32)))), .val (.int (3 : Int32)), .val (.int (c2 - (48 : Int32)))]) (w := (3 : Int32)) d2_44 rfl rfl (by decide) rfl ?_
          refine own_goto X (pc' := 5) d2_47 (by decide) (by decide) ?_
          refine own_iload X (pc' := 7) d2_5 rfl rfl ?_
          refine own_iloadN X (pc' := 8) d2_7 rfl rfl ?_
          refine own_iloadN X (pc' := 9) d2_8 rfl rfl ?_
          refine own_iadd X (r := (3 : Int32)) (pc' := 10) d2_9 rfl (by decide) ?_
          refine own_icmp_ge X (pct := 50) (pc' := 13) d2_10 rfl (by decide) (by decide) (fun _ => ?_) (fun hc => absurd hc (by decide))
          refine own_iloadN X (pc' := 51) d2_50 rfl rfl ?_
          subst hΦ
          exact own_retI X d2_51 (by decide) (by decide) (by rw [own_dc, if_neg hc24_1, if_pos hc31_2, own_dc, if_neg hc24_3, if_pos hc31_4, own_dn]) rfl
        · refine own_iconst X (v := (-1 : Int32)) (pc' := 35) d2_34 rfl (by decide) ?_
          subst hΦ
          exact own_retI X d2_35 (by decide) (by decide) (by rw [own_dc, if_neg hc24_1, if_pos hc31_2, own_dc, if_neg hc24_3, if_neg (fun z => z hc31_4)]) rfl
    · refine own_iconst X (v := (-1 : Int32)) (pc' := 35) d2_34 rfl (by decide) ?_
      subst hΦ
      exact own_retI X d2_35 (by decide) (by decide) (by rw [own_dc, if_neg hc24_1, if_neg (fun z => z hc31_2)]) rfl
theorem pn_rm2_22 : plainFor (⟨"com/example/vegeu/vegeu/model/Iso2709", "digits", "([BII)I"⟩ : MethodName) = true := plainFor_of_name (by first | (simp [plainName, overriddenIn]; done) | decide +kernel)
theorem ef_rm2_22 (m : MethodId) (x0 : Addr) (x1 : Int32) (x2 : Int32) : entryFrame m #[(.ref x0), (.int x1), (.int x2)] 6 = mkF m 0 #[.val (.ref x0), .val (.int x1), .val (.int x2), .unset, .unset, .unset] [] := by first | (simp [entryFrame, mkF, argsToLocals, Value.category]; done) | rfl
set_option maxRecDepth 65536 in
set_option maxHeartbeats 4000000 in
theorem rm2_22 (l : Launch) (Z : State) (a0 : Array Value) (hw : ∀ d ∈ tables_1, d.before a0 Z = true) (n0 : Nat) (a : Addr) (h0 : Heap) (hn0 : n0 ≤ h0.size) (c0 c1 c2 c3 c4 : Int32) (A : own_A Z h0 a .byte [c0, c1, c2, c3, c4]) :
    own_Met l (⟨"com/example/vegeu/vegeu/model/Iso2709", "digits", "([BII)I"⟩ : MethodName) prog_52_method_5_code 6 (some .int) ({ frames := 0, cells := 0, slots := 0, locals := 0 } : Room) Z n0 #[(.ref a), (.int (2 : Int32)), (.int (2 : Int32))] h0 (some (.int (own_dig 0 [c2, c3]))) (fun h' => h' = h0) := by
  refine own_met pn_rm2_22 hn0 ?_
  intro p e s m below meth c T X
  refine own_cast (ef_rm2_22 m a (2 : Int32) (2 : Int32)) ?_
  generalize hΦ : own_Q n0 below s _ _ _ = Φ
  refine own_iconst X (v := (0 : Int32)) (pc' := 1) d2_0 rfl (by decide) ?_
  refine own_istoreN X (pc' := 2) (Ls' := #[.val (.ref a), .val (.int (2 : Int32)), .val (.int (2 : Int32)), .val (.int (0 : Int32)), .unset, .unset]) d2_1 rfl rfl ?_
  refine own_iloadN X (pc' := 3) d2_2 rfl rfl ?_
  refine own_istore X (pc' := 5) (Ls' := #[.val (.ref a), .val (.int (2 : Int32)), .val (.int (2 : Int32)), .val (.int (0 : Int32)), .val (.int (2 : Int32)), .unset]) d2_3 rfl rfl ?_
  refine own_iload X (pc' := 7) d2_5 rfl rfl ?_
  refine own_iloadN X (pc' := 8) d2_7 rfl rfl ?_
  refine own_iloadN X (pc' := 9) d2_8 rfl rfl ?_
  refine own_iadd X (r := (4 : Int32)) (pc' := 10) d2_9 rfl (by decide) ?_
  refine own_icmp_ge X (pct := 50) (pc' := 13) d2_10 rfl (by decide) (by decide) (fun hc => absurd hc (by decide)) (fun _ => ?_)
  refine own_aloadN X (pc' := 14) d2_13 rfl rfl rfl ?_
  refine own_iload X (pc' := 16) d2_14 rfl rfl ?_
  refine own_baload X (v := c2) (pc' := 17) A rfl rfl d2_16 rfl ?_
  refine own_bipush X (v := (48 : Int32)) (pc' := 19) d2_17 rfl (by decide) ?_
  refine own_isub X (r := (c2 - (48 : Int32))) (pc' := 20) d2_19 rfl rfl ?_
  refine own_istore X (pc' := 22) (Ls' := #[.val (.ref a), .val (.int (2 : Int32)), .val (.int (2 : Int32)), .val (.int (0 : Int32)), .val (.int (2 : Int32)), .val (.int (c2 - (48 : Int32)))]) d2_20 rfl rfl ?_
  refine own_iload X (pc' := 24) d2_22 rfl rfl ?_
  refine own_if_lt X (pct := 34) (pc' := 27) d2_24 rfl (by decide) (by decide) (fun hc24_1 => ?_) (fun hc24_1 => ?_)
  · refine own_iconst X (v := (-1 : Int32)) (pc' := 35) d2_34 rfl (by decide) ?_
    subst hΦ
    exact own_retI X d2_35 (by decide) (by decide) (by rw [own_dc, if_pos hc24_1]) rfl
  · refine own_iload X (pc' := 29) d2_27 rfl rfl ?_
    refine own_bipush X (v := (9 : Int32)) (pc' := 31) d2_29 rfl (by decide) ?_
    refine own_icmp_le X (pct := 36) (pc' := 34) d2_31 rfl (by decide) (by decide) (fun hc31_2 => ?_) (fun hc31_2 => ?_)
    · refine own_iloadN X (pc' := 37) d2_36 rfl rfl ?_
      refine own_bipush X (v := (10 : Int32)) (pc' := 39) d2_37 rfl (by decide) ?_
      refine own_imul X (r := ((0 : Int32) * (10 : Int32))) (pc' := 40) d2_39 rfl rfl ?_
      refine own_iload X (pc' := 42) d2_40 rfl rfl ?_
      refine own_iadd X (r := (((0 : Int32) * (10 : Int32)) + (c2 - (48 : Int32)))) (pc' := 43) d2_42 rfl rfl ?_
      refine own_istoreN X (pc' := 44) (Ls' := #[.val (.ref a), .val (.int (2 : Int32)), .val (.int (2 : Int32)), .val (.int (((0 : Int32) * (10 : Int32)) + (c2 - (48 : Int32)))), .val (.int (2 : Int32)), .val (.int (c2 - (48 : Int32)))]) d2_43 rfl rfl ?_
      refine own_iinc X (pc' := 47) (Ls' := #[.val (.ref a), .val (.int (2 : Int32)), .val (.int (2 : Int32)), .val (.int (((0 : Int32) * (10 : Int32)) + (c2 - (48 : Int32)))), .val (.int (3 : Int32)), .val (.int (c2 - (48 : Int32)))]) (w := (3 : Int32)) d2_44 rfl rfl (by decide) rfl ?_
      refine own_goto X (pc' := 5) d2_47 (by decide) (by decide) ?_
      refine own_iload X (pc' := 7) d2_5 rfl rfl ?_
      refine own_iloadN X (pc' := 8) d2_7 rfl rfl ?_
      refine own_iloadN X (pc' := 9) d2_8 rfl rfl ?_
      refine own_iadd X (r := (4 : Int32)) (pc' := 10) d2_9 rfl (by decide) ?_
      refine own_icmp_ge X (pct := 50) (pc' := 13) d2_10 rfl (by decide) (by decide) (fun hc => absurd hc (by decide)) (fun _ => ?_)
      refine own_aloadN X (pc' := 14) d2_13 rfl rfl rfl ?_
      refine own_iload X (pc' := 16) d2_14 rfl rfl ?_
      refine own_baload X (v := c3) (pc' := 17) A rfl rfl d2_16 rfl ?_
      refine own_bipush X (v := (48 : Int32)) (pc' := 19) d2_17 rfl (by decide) ?_
      refine own_isub X (r := (c3 - (48 : Int32))) (pc' := 20) d2_19 rfl rfl ?_
      refine own_istore X (pc' := 22) (Ls' := #[.val (.ref a), .val (.int (2 : Int32)), .val (.int (2 : Int32)), .val (.int (((0 : Int32) * (10 : Int32)) + (c2 - (48 : Int32)))), .val (.int (3 : Int32)), .val (.int (c3 - (48 : Int32)))]) d2_20 rfl rfl ?_
      refine own_iload X (pc' := 24) d2_22 rfl rfl ?_
      refine own_if_lt X (pct := 34) (pc' := 27) d2_24 rfl (by decide) (by decide) (fun hc24_3 => ?_) (fun hc24_3 => ?_)
      · refine own_iconst X (v := (-1 : Int32)) (pc' := 35) d2_34 rfl (by decide) ?_
        subst hΦ
        exact own_retI X d2_35 (by decide) (by decide) (by rw [own_dc, if_neg hc24_1, if_pos hc31_2, own_dc, if_pos hc24_3]) rfl
      · refine own_iload X (pc' := 29) d2_27 rfl rfl ?_
        refine own_bipush X (v := (9 : Int32)) (pc' := 31) d2_29 rfl (by decide) ?_
        refine own_icmp_le X (pct := 36) (pc' := 34) d2_31 rfl (by decide) (by decide) (fun hc31_4 => ?_) (fun hc31_4 => ?_)
        · refine own_iloadN X (pc' := 37) d2_36 rfl rfl ?_
          refine own_bipush X (v := (10 : Int32)) (pc' := 39) d2_37 rfl (by decide) ?_
          refine own_imul X (r := ((((0 : Int32) * (10 : Int32)) + (c2 - (48 : Int32))) * (10 : Int32))) (pc' := 40) d2_39 rfl rfl ?_
          refine own_iload X (pc' := 42) d2_40 rfl rfl ?_
          refine own_iadd X (r := (((((0 : Int32) * (10 : Int32)) + (c2 - (48 : Int32))) * (10 : Int32)) + (c3 - (48 : Int32)))) (pc' := 43) d2_42 rfl rfl ?_
          refine own_istoreN X (pc' := 44) (Ls' := #[.val (.ref a), .val (.int (2 : Int32)), .val (.int (2 : Int32)), .val (.int (((((0 : Int32) * (10 : Int32)) + (c2 - (48 : Int32))) * (10 : Int32)) + (c3 - (48 : Int32)))), .val (.int (3 : Int32)), .val (.int (c3 - (48 : Int32)))]) d2_43 rfl rfl ?_
          refine own_iinc X (pc' := 47) (Ls' := #[.val (.ref a), .val (.int (2 : Int32)), .val (.int (2 : Int32)), .val (.int (((((0 : Int32) * (10 : Int32)) + (c2 - (48 : Int32))) * (10 : Int32)) + (c3 - (48 : Int32)))), .val (.int (4 : Int32)), .val (.int (c3 - (48 : Int32)))]) (w := (4 : Int32)) d2_44 rfl rfl (by decide) rfl ?_
          refine own_goto X (pc' := 5) d2_47 (by decide) (by decide) ?_
          refine own_iload X (pc' := 7) d2_5 rfl rfl ?_
          refine own_iloadN X (pc' := 8) d2_7 rfl rfl ?_
          refine own_iloadN X (pc' := 9) d2_8 rfl rfl ?_
          refine own_iadd X (r := (4 : Int32)) (pc' := 10) d2_9 rfl (by decide) ?_
          refine own_icmp_ge X (pct := 50) (pc' := 13) d2_10 rfl (by decide) (by decide) (fun _ => ?_) (fun hc => absurd hc (by decide))
          refine own_iloadN X (pc' := 51) d2_50 rfl rfl ?_
          subst hΦ
          exact own_retI X d2_51 (by decide) (by decide) (by rw [own_dc, if_neg hc24_1, if_pos hc31_2, own_dc, if_neg hc24_3, if_pos hc31_4, own_dn]) rfl
        · refine own_iconst X (v := (-1 : Int32)) (pc' := 35) d2_34 rfl (by decide) ?_
          subst hΦ
          exact own_retI X d2_35 (by decide) (by decide) (by rw [own_dc, if_neg hc24_1, if_pos hc31_2, own_dc, if_neg hc24_3, if_neg (fun z => z hc31_4)]) rfl
    · refine own_iconst X (v := (-1 : Int32)) (pc' := 35) d2_34 rfl (by decide) ?_
      subst hΦ
      exact own_retI X d2_35 (by decide) (by decide) (by rw [own_dc, if_neg hc24_1, if_neg (fun z => z hc31_2)]) rfl
theorem pn_rm2_32 : plainFor (⟨"com/example/vegeu/vegeu/model/Iso2709", "digits", "([BII)I"⟩ : MethodName) = true := plainFor_of_name (by first | (simp [plainName, overriddenIn]; done) | decide +kernel)
theorem ef_rm2_32 (m : MethodId) (x0 : Addr) (x1 : Int32) (x2 : Int32) : entryFrame m #[(.ref x0), (.int x1), (.int x2)] 6 = mkF m 0 #[.val (.ref x0), .val (.int x1), .val (.int x2), .unset, .unset, .unset] [] := by first | (simp [entryFrame, mkF, argsToLocals, Value.category]; done) | rfl
set_option maxRecDepth 65536 in
set_option maxHeartbeats 4000000 in
theorem rm2_32 (l : Launch) (Z : State) (a0 : Array Value) (hw : ∀ d ∈ tables_1, d.before a0 Z = true) (n0 : Nat) (a : Addr) (h0 : Heap) (hn0 : n0 ≤ h0.size) (c0 c1 c2 c3 c4 : Int32) (A : own_A Z h0 a .byte [c0, c1, c2, c3, c4]) :
    own_Met l (⟨"com/example/vegeu/vegeu/model/Iso2709", "digits", "([BII)I"⟩ : MethodName) prog_52_method_5_code 6 (some .int) ({ frames := 0, cells := 0, slots := 0, locals := 0 } : Room) Z n0 #[(.ref a), (.int (3 : Int32)), (.int (2 : Int32))] h0 (some (.int (own_dig 0 [c3, c4]))) (fun h' => h' = h0) := by
  refine own_met pn_rm2_32 hn0 ?_
  intro p e s m below meth c T X
  refine own_cast (ef_rm2_32 m a (3 : Int32) (2 : Int32)) ?_
  generalize hΦ : own_Q n0 below s _ _ _ = Φ
  refine own_iconst X (v := (0 : Int32)) (pc' := 1) d2_0 rfl (by decide) ?_
  refine own_istoreN X (pc' := 2) (Ls' := #[.val (.ref a), .val (.int (3 : Int32)), .val (.int (2 : Int32)), .val (.int (0 : Int32)), .unset, .unset]) d2_1 rfl rfl ?_
  refine own_iloadN X (pc' := 3) d2_2 rfl rfl ?_
  refine own_istore X (pc' := 5) (Ls' := #[.val (.ref a), .val (.int (3 : Int32)), .val (.int (2 : Int32)), .val (.int (0 : Int32)), .val (.int (3 : Int32)), .unset]) d2_3 rfl rfl ?_
  refine own_iload X (pc' := 7) d2_5 rfl rfl ?_
  refine own_iloadN X (pc' := 8) d2_7 rfl rfl ?_
  refine own_iloadN X (pc' := 9) d2_8 rfl rfl ?_
  refine own_iadd X (r := (5 : Int32)) (pc' := 10) d2_9 rfl (by decide) ?_
  refine own_icmp_ge X (pct := 50) (pc' := 13) d2_10 rfl (by decide) (by decide) (fun hc => absurd hc (by decide)) (fun _ => ?_)
  refine own_aloadN X (pc' := 14) d2_13 rfl rfl rfl ?_
  refine own_iload X (pc' := 16) d2_14 rfl rfl ?_
  refine own_baload X (v := c3) (pc' := 17) A rfl rfl d2_16 rfl ?_
  refine own_bipush X (v := (48 : Int32)) (pc' := 19) d2_17 rfl (by decide) ?_
  refine own_isub X (r := (c3 - (48 : Int32))) (pc' := 20) d2_19 rfl rfl ?_
  refine own_istore X (pc' := 22) (Ls' := #[.val (.ref a), .val (.int (3 : Int32)), .val (.int (2 : Int32)), .val (.int (0 : Int32)), .val (.int (3 : Int32)), .val (.int (c3 - (48 : Int32)))]) d2_20 rfl rfl ?_
  refine own_iload X (pc' := 24) d2_22 rfl rfl ?_
  refine own_if_lt X (pct := 34) (pc' := 27) d2_24 rfl (by decide) (by decide) (fun hc24_1 => ?_) (fun hc24_1 => ?_)
  · refine own_iconst X (v := (-1 : Int32)) (pc' := 35) d2_34 rfl (by decide) ?_
    subst hΦ
    exact own_retI X d2_35 (by decide) (by decide) (by rw [own_dc, if_pos hc24_1]) rfl
  · refine own_iload X (pc' := 29) d2_27 rfl rfl ?_
    refine own_bipush X (v := (9 : Int32)) (pc' := 31) d2_29 rfl (by decide) ?_
    refine own_icmp_le X (pct := 36) (pc' := 34) d2_31 rfl (by decide) (by decide) (fun hc31_2 => ?_) (fun hc31_2 => ?_)
    · refine own_iloadN X (pc' := 37) d2_36 rfl rfl ?_
      refine own_bipush X (v := (10 : Int32)) (pc' := 39) d2_37 rfl (by decide) ?_
      refine own_imul X (r := ((0 : Int32) * (10 : Int32))) (pc' := 40) d2_39 rfl rfl ?_
      refine own_iload X (pc' := 42) d2_40 rfl rfl ?_
      refine own_iadd X (r := (((0 : Int32) * (10 : Int32)) + (c3 - (48 : Int32)))) (pc' := 43) d2_42 rfl rfl ?_
      refine own_istoreN X (pc' := 44) (Ls' := #[.val (.ref a), .val (.int (3 : Int32)), .val (.int (2 : Int32)), .val (.int (((0 : Int32) * (10 : Int32)) + (c3 - (48 : Int32)))), .val (.int (3 : Int32)), .val (.int (c3 - (48 : Int32)))]) d2_43 rfl rfl ?_
      refine own_iinc X (pc' := 47) (Ls' := #[.val (.ref a), .val (.int (3 : Int32)), .val (.int (2 : Int32)), .val (.int (((0 : Int32) * (10 : Int32)) + (c3 - (48 : Int32)))), .val (.int (4 : Int32)), .val (.int (c3 - (48 : Int32)))]) (w := (4 : Int32)) d2_44 rfl rfl (by decide) rfl ?_
      refine own_goto X (pc' := 5) d2_47 (by decide) (by decide) ?_
      refine own_iload X (pc' := 7) d2_5 rfl rfl ?_
      refine own_iloadN X (pc' := 8) d2_7 rfl rfl ?_
      refine own_iloadN X (pc' := 9) d2_8 rfl rfl ?_
      refine own_iadd X (r := (5 : Int32)) (pc' := 10) d2_9 rfl (by decide) ?_
      refine own_icmp_ge X (pct := 50) (pc' := 13) d2_10 rfl (by decide) (by decide) (fun hc => absurd hc (by decide)) (fun _ => ?_)
      refine own_aloadN X (pc' := 14) d2_13 rfl rfl rfl ?_
      refine own_iload X (pc' := 16) d2_14 rfl rfl ?_
      refine own_baload X (v := c4) (pc' := 17) A rfl rfl d2_16 rfl ?_
      refine own_bipush X (v := (48 : Int32)) (pc' := 19) d2_17 rfl (by decide) ?_
      refine own_isub X (r := (c4 - (48 : Int32))) (pc' := 20) d2_19 rfl rfl ?_
      refine own_istore X (pc' := 22) (Ls' := #[.val (.ref a), .val (.int (3 : Int32)), .val (.int (2 : Int32)), .val (.int (((0 : Int32) * (10 : Int32)) + (c3 - (48 : Int32)))), .val (.int (4 : Int32)), .val (.int (c4 - (48 : Int32)))]) d2_20 rfl rfl ?_
      refine own_iload X (pc' := 24) d2_22 rfl rfl ?_
      refine own_if_lt X (pct := 34) (pc' := 27) d2_24 rfl (by decide) (by decide) (fun hc24_3 => ?_) (fun hc24_3 => ?_)
      · refine own_iconst X (v := (-1 : Int32)) (pc' := 35) d2_34 rfl (by decide) ?_
        subst hΦ
        exact own_retI X d2_35 (by decide) (by decide) (by rw [own_dc, if_neg hc24_1, if_pos hc31_2, own_dc, if_pos hc24_3]) rfl
      · refine own_iload X (pc' := 29) d2_27 rfl rfl ?_
        refine own_bipush X (v := (9 : Int32)) (pc' := 31) d2_29 rfl (by decide) ?_
        refine own_icmp_le X (pct := 36) (pc' := 34) d2_31 rfl (by decide) (by decide) (fun hc31_4 => ?_) (fun hc31_4 => ?_)
        · refine own_iloadN X (pc' := 37) d2_36 rfl rfl ?_
          refine own_bipush X (v := (10 : Int32)) (pc' := 39) d2_37 rfl (by decide) ?_
          refine own_imul X (r := ((((0 : Int32) * (10 : Int32)) + (c3 - (48 : Int32))) * (10 : Int32))) (pc' := 40) d2_39 rfl rfl ?_
          refine own_iload X (pc' := 42) d2_40 rfl rfl ?_
          refine own_iadd X (r := (((((0 : Int32) * (10 : Int32)) + (c3 - (48 : Int32))) * (10 : Int32)) + (c4 - (48 : Int32)))) (pc' := 43) d2_42 rfl rfl ?_
          refine own_istoreN X (pc' := 44) (Ls' := #[.val (.ref a), .val (.int (3 : Int32)), .val (.int (2 : Int32)), .val (.int (((((0 : Int32) * (10 : Int32)) + (c3 - (48 : Int32))) * (10 : Int32)) + (c4 - (48 : Int32)))), .val (.int (4 : Int32)), .val (.int (c4 - (48 : Int32)))]) d2_43 rfl rfl ?_
          refine own_iinc X (pc' := 47) (Ls' := #[.val (.ref a), .val (.int (3 : Int32)), .val (.int (2 : Int32)), .val (.int (((((0 : Int32) * (10 : Int32)) + (c3 - (48 : Int32))) * (10 : Int32)) + (c4 - (48 : Int32)))), .val (.int (5 : Int32)), .val (.int (c4 - (48 : Int32)))]) (w := (5 : Int32)) d2_44 rfl rfl (by decide) rfl ?_
          refine own_goto X (pc' := 5) d2_47 (by decide) (by decide) ?_
          refine own_iload X (pc' := 7) d2_5 rfl rfl ?_
          refine own_iloadN X (pc' := 8) d2_7 rfl rfl ?_
          refine own_iloadN X (pc' := 9) d2_8 rfl rfl ?_
          refine own_iadd X (r := (5 : Int32)) (pc' := 10) d2_9 rfl (by decide) ?_
          refine own_icmp_ge X (pct := 50) (pc' := 13) d2_10 rfl (by decide) (by decide) (fun _ => ?_) (fun hc => absurd hc (by decide))
          refine own_iloadN X (pc' := 51) d2_50 rfl rfl ?_
          subst hΦ
          exact own_retI X d2_51 (by decide) (by decide) (by rw [own_dc, if_neg hc24_1, if_pos hc31_2, own_dc, if_neg hc24_3, if_pos hc31_4, own_dn]) rfl
        · refine own_iconst X (v := (-1 : Int32)) (pc' := 35) d2_34 rfl (by decide) ?_
          subst hΦ
          exact own_retI X d2_35 (by decide) (by decide) (by rw [own_dc, if_neg hc24_1, if_pos hc31_2, own_dc, if_neg hc24_3, if_neg (fun z => z hc31_4)]) rfl
    · refine own_iconst X (v := (-1 : Int32)) (pc' := 35) d2_34 rfl (by decide) ?_
      subst hΦ
      exact own_retI X d2_35 (by decide) (by decide) (by rw [own_dc, if_neg hc24_1, if_neg (fun z => z hc31_2)]) rfl
theorem pn_rm2_03 : plainFor (⟨"com/example/vegeu/vegeu/model/Iso2709", "digits", "([BII)I"⟩ : MethodName) = true := plainFor_of_name (by first | (simp [plainName, overriddenIn]; done) | decide +kernel)
theorem ef_rm2_03 (m : MethodId) (x0 : Addr) (x1 : Int32) (x2 : Int32) : entryFrame m #[(.ref x0), (.int x1), (.int x2)] 6 = mkF m 0 #[.val (.ref x0), .val (.int x1), .val (.int x2), .unset, .unset, .unset] [] := by first | (simp [entryFrame, mkF, argsToLocals, Value.category]; done) | rfl
set_option maxRecDepth 65536 in
set_option maxHeartbeats 4000000 in
theorem rm2_03 (l : Launch) (Z : State) (a0 : Array Value) (hw : ∀ d ∈ tables_1, d.before a0 Z = true) (n0 : Nat) (a : Addr) (h0 : Heap) (hn0 : n0 ≤ h0.size) (c0 c1 c2 c3 c4 : Int32) (A : own_A Z h0 a .byte [c0, c1, c2, c3, c4]) :
    own_Met l (⟨"com/example/vegeu/vegeu/model/Iso2709", "digits", "([BII)I"⟩ : MethodName) prog_52_method_5_code 6 (some .int) ({ frames := 0, cells := 0, slots := 0, locals := 0 } : Room) Z n0 #[(.ref a), (.int (0 : Int32)), (.int (3 : Int32))] h0 (some (.int (own_dig 0 [c0, c1, c2]))) (fun h' => h' = h0) := by
  refine own_met pn_rm2_03 hn0 ?_
  intro p e s m below meth c T X
  refine own_cast (ef_rm2_03 m a (0 : Int32) (3 : Int32)) ?_
  generalize hΦ : own_Q n0 below s _ _ _ = Φ
  refine own_iconst X (v := (0 : Int32)) (pc' := 1) d2_0 rfl (by decide) ?_
  refine own_istoreN X (pc' := 2) (Ls' := #[.val (.ref a), .val (.int (0 : Int32)), .val (.int (3 : Int32)), .val (.int (0 : Int32)), .unset, .unset]) d2_1 rfl rfl ?_
  refine own_iloadN X (pc' := 3) d2_2 rfl rfl ?_
  refine own_istore X (pc' := 5) (Ls' := #[.val (.ref a), .val (.int (0 : Int32)), .val (.int (3 : Int32)), .val (.int (0 : Int32)), .val (.int (0 : Int32)), .unset]) d2_3 rfl rfl ?_
  refine own_iload X (pc' := 7) d2_5 rfl rfl ?_
  refine own_iloadN X (pc' := 8) d2_7 rfl rfl ?_
  refine own_iloadN X (pc' := 9) d2_8 rfl rfl ?_
  refine own_iadd X (r := (3 : Int32)) (pc' := 10) d2_9 rfl (by decide) ?_
  refine own_icmp_ge X (pct := 50) (pc' := 13) d2_10 rfl (by decide) (by decide) (fun hc => absurd hc (by decide)) (fun _ => ?_)
  refine own_aloadN X (pc' := 14) d2_13 rfl rfl rfl ?_
  refine own_iload X (pc' := 16) d2_14 rfl rfl ?_
  refine own_baload X (v := c0) (pc' := 17) A rfl rfl d2_16 rfl ?_
  refine own_bipush X (v := (48 : Int32)) (pc' := 19) d2_17 rfl (by decide) ?_
  refine own_isub X (r := (c0 - (48 : Int32))) (pc' := 20) d2_19 rfl rfl ?_
  refine own_istore X (pc' := 22) (Ls' := #[.val (.ref a), .val (.int (0 : Int32)), .val (.int (3 : Int32)), .val (.int (0 : Int32)), .val (.int (0 : Int32)), .val (.int (c0 - (48 : Int32)))]) d2_20 rfl rfl ?_
  refine own_iload X (pc' := 24) d2_22 rfl rfl ?_
  refine own_if_lt X (pct := 34) (pc' := 27) d2_24 rfl (by decide) (by decide) (fun hc24_1 => ?_) (fun hc24_1 => ?_)
  · refine own_iconst X (v := (-1 : Int32)) (pc' := 35) d2_34 rfl (by decide) ?_
    subst hΦ
    exact own_retI X d2_35 (by decide) (by decide) (by rw [own_dc, if_pos hc24_1]) rfl
  · refine own_iload X (pc' := 29) d2_27 rfl rfl ?_
    refine own_bipush X (v := (9 : Int32)) (pc' := 31) d2_29 rfl (by decide) ?_
    refine own_icmp_le X (pct := 36) (pc' := 34) d2_31 rfl (by decide) (by decide) (fun hc31_2 => ?_) (fun hc31_2 => ?_)
    · refine own_iloadN X (pc' := 37) d2_36 rfl rfl ?_
      refine own_bipush X (v := (10 : Int32)) (pc' := 39) d2_37 rfl (by decide) ?_
      refine own_imul X (r := ((0 : Int32) * (10 : Int32))) (pc' := 40) d2_39 rfl rfl ?_
      refine own_iload X (pc' := 42) d2_40 rfl rfl ?_
      refine own_iadd X (r := (((0 : Int32) * (10 : Int32)) + (c0 - (48 : Int32)))) (pc' := 43) d2_42 rfl rfl ?_
      refine own_istoreN X (pc' := 44) (Ls' := #[.val (.ref a), .val (.int (0 : Int32)), .val (.int (3 : Int32)), .val (.int (((0 : Int32) * (10 : Int32)) + (c0 - (48 : Int32)))), .val (.int (0 : Int32)), .val (.int (c0 - (48 : Int32)))]) d2_43 rfl rfl ?_
      refine own_iinc X (pc' := 47) (Ls' := #[.val (.ref a), .val (.int (0 : Int32)), .val (.int (3 : Int32)), .val (.int (((0 : Int32) * (10 : Int32)) + (c0 - (48 : Int32)))), .val (.int (1 : Int32)), .val (.int (c0 - (48 : Int32)))]) (w := (1 : Int32)) d2_44 rfl rfl (by decide) rfl ?_
      refine own_goto X (pc' := 5) d2_47 (by decide) (by decide) ?_
      refine own_iload X (pc' := 7) d2_5 rfl rfl ?_
      refine own_iloadN X (pc' := 8) d2_7 rfl rfl ?_
      refine own_iloadN X (pc' := 9) d2_8 rfl rfl ?_
      refine own_iadd X (r := (3 : Int32)) (pc' := 10) d2_9 rfl (by decide) ?_
      refine own_icmp_ge X (pct := 50) (pc' := 13) d2_10 rfl (by decide) (by decide) (fun hc => absurd hc (by decide)) (fun _ => ?_)
      refine own_aloadN X (pc' := 14) d2_13 rfl rfl rfl ?_
      refine own_iload X (pc' := 16) d2_14 rfl rfl ?_
      refine own_baload X (v := c1) (pc' := 17) A rfl rfl d2_16 rfl ?_
      refine own_bipush X (v := (48 : Int32)) (pc' := 19) d2_17 rfl (by decide) ?_
      refine own_isub X (r := (c1 - (48 : Int32))) (pc' := 20) d2_19 rfl rfl ?_
      refine own_istore X (pc' := 22) (Ls' := #[.val (.ref a), .val (.int (0 : Int32)), .val (.int (3 : Int32)), .val (.int (((0 : Int32) * (10 : Int32)) + (c0 - (48 : Int32)))), .val (.int (1 : Int32)), .val (.int (c1 - (48 : Int32)))]) d2_20 rfl rfl ?_
      refine own_iload X (pc' := 24) d2_22 rfl rfl ?_
      refine own_if_lt X (pct := 34) (pc' := 27) d2_24 rfl (by decide) (by decide) (fun hc24_3 => ?_) (fun hc24_3 => ?_)
      · refine own_iconst X (v := (-1 : Int32)) (pc' := 35) d2_34 rfl (by decide) ?_
        subst hΦ
        exact own_retI X d2_35 (by decide) (by decide) (by rw [own_dc, if_neg hc24_1, if_pos hc31_2, own_dc, if_pos hc24_3]) rfl
      · refine own_iload X (pc' := 29) d2_27 rfl rfl ?_
        refine own_bipush X (v := (9 : Int32)) (pc' := 31) d2_29 rfl (by decide) ?_
        refine own_icmp_le X (pct := 36) (pc' := 34) d2_31 rfl (by decide) (by decide) (fun hc31_4 => ?_) (fun hc31_4 => ?_)
        · refine own_iloadN X (pc' := 37) d2_36 rfl rfl ?_
          refine own_bipush X (v := (10 : Int32)) (pc' := 39) d2_37 rfl (by decide) ?_
          refine own_imul X (r := ((((0 : Int32) * (10 : Int32)) + (c0 - (48 : Int32))) * (10 : Int32))) (pc' := 40) d2_39 rfl rfl ?_
          refine own_iload X (pc' := 42) d2_40 rfl rfl ?_
          refine own_iadd X (r := (((((0 : Int32) * (10 : Int32)) + (c0 - (48 : Int32))) * (10 : Int32)) + (c1 - (48 : Int32)))) (pc' := 43) d2_42 rfl rfl ?_
          refine own_istoreN X (pc' := 44) (Ls' := #[.val (.ref a), .val (.int (0 : Int32)), .val (.int (3 : Int32)), .val (.int (((((0 : Int32) * (10 : Int32)) + (c0 - (48 : Int32))) * (10 : Int32)) + (c1 - (48 : Int32)))), .val (.int (1 : Int32)), .val (.int (c1 - (48 : Int32)))]) d2_43 rfl rfl ?_
          refine own_iinc X (pc' := 47) (Ls' := #[.val (.ref a), .val (.int (0 : Int32)), .val (.int (3 : Int32)), .val (.int (((((0 : Int32) * (10 : Int32)) + (c0 - (48 : Int32))) * (10 : Int32)) + (c1 - (48 : Int32)))), .val (.int (2 : Int32)), .val (.int (c1 - (48 : Int32)))]) (w := (2 : Int32)) d2_44 rfl rfl (by decide) rfl ?_
          refine own_goto X (pc' := 5) d2_47 (by decide) (by decide) ?_
          refine own_iload X (pc' := 7) d2_5 rfl rfl ?_
          refine own_iloadN X (pc' := 8) d2_7 rfl rfl ?_
          refine own_iloadN X (pc' := 9) d2_8 rfl rfl ?_
          refine own_iadd X (r := (3 : Int32)) (pc' := 10) d2_9 rfl (by decide) ?_
          refine own_icmp_ge X (pct := 50) (pc' := 13) d2_10 rfl (by decide) (by decide) (fun hc => absurd hc (by decide)) (fun _ => ?_)
          refine own_aloadN X (pc' := 14) d2_13 rfl rfl rfl ?_
          refine own_iload X (pc' := 16) d2_14 rfl rfl ?_
          refine own_baload X (v := c2) (pc' := 17) A rfl rfl d2_16 rfl ?_
          refine own_bipush X (v := (48 : Int32)) (pc' := 19) d2_17 rfl (by decide) ?_
          refine own_isub X (r := (c2 - (48 : Int32))) (pc' := 20) d2_19 rfl rfl ?_
          refine own_istore X (pc' := 22) (Ls' := #[.val (.ref a), .val (.int (0 : Int32)), .val (.int (3 : Int32)), .val (.int (((((0 : Int32) * (10 : Int32)) + (c0 - (48 : Int32))) * (10 : Int32)) + (c1 - (48 : Int32)))), .val (.int (2 : Int32)), .val (.int (c2 - (48 : Int32)))]) d2_20 rfl rfl ?_
          refine own_iload X (pc' := 24) d2_22 rfl rfl ?_
          refine own_if_lt X (pct := 34) (pc' := 27) d2_24 rfl (by decide) (by decide) (fun hc24_5 => ?_) (fun hc24_5 => ?_)
          · refine own_iconst X (v := (-1 : Int32)) (pc' := 35) d2_34 rfl (by decide) ?_
            subst hΦ
            exact own_retI X d2_35 (by decide) (by decide) (by rw [own_dc, if_neg hc24_1, if_pos hc31_2, own_dc, if_neg hc24_3, if_pos hc31_4, own_dc, if_pos hc24_5]) rfl
          · refine own_iload X (pc' := 29) d2_27 rfl rfl ?_
            refine own_bipush X (v := (9 : Int32)) (pc' := 31) d2_29 rfl (by decide) ?_
            refine own_icmp_le X (pct := 36) (pc' := 34) d2_31 rfl (by decide) (by decide) (fun hc31_6 => ?_) (fun hc31_6 => ?_)
            · refine own_iloadN X (pc' := 37) d2_36 rfl rfl ?_
              refine own_bipush X (v := (10 : Int32)) (pc' := 39) d2_37 rfl (by decide) ?_
              refine own_imul X (r := ((((((0 : Int32) * (10 : Int32)) + (c0 - (48 : Int32))) * (10 : Int32)) + (c1 - (48 : Int32))) * (10 : Int32))) (pc' := 40) d2_39 rfl rfl ?_
              refine own_iload X (pc' := 42) d2_40 rfl rfl ?_
              refine own_iadd X (r := (((((((0 : Int32) * (10 : Int32)) + (c0 - (48 : Int32))) * (10 : Int32)) + (c1 - (48 : Int32))) * (10 : Int32)) + (c2 - (48 : Int32)))) (pc' := 43) d2_42 rfl rfl ?_
              refine own_istoreN X (pc' := 44) (Ls' := #[.val (.ref a), .val (.int (0 : Int32)), .val (.int (3 : Int32)), .val (.int (((((((0 : Int32) * (10 : Int32)) + (c0 - (48 : Int32))) * (10 : Int32)) + (c1 - (48 : Int32))) * (10 : Int32)) + (c2 - (48 : Int32)))), .val (.int (2 : Int32)), .val (.int (c2 - (48 : Int32)))]) d2_43 rfl rfl ?_
              refine own_iinc X (pc' := 47) (Ls' := #[.val (.ref a), .val (.int (0 : Int32)), .val (.int (3 : Int32)), .val (.int (((((((0 : Int32) * (10 : Int32)) + (c0 - (48 : Int32))) * (10 : Int32)) + (c1 - (48 : Int32))) * (10 : Int32)) + (c2 - (48 : Int32)))), .val (.int (3 : Int32)), .val (.int (c2 - (48 : Int32)))]) (w := (3 : Int32)) d2_44 rfl rfl (by decide) rfl ?_
              refine own_goto X (pc' := 5) d2_47 (by decide) (by decide) ?_
              refine own_iload X (pc' := 7) d2_5 rfl rfl ?_
              refine own_iloadN X (pc' := 8) d2_7 rfl rfl ?_
              refine own_iloadN X (pc' := 9) d2_8 rfl rfl ?_
              refine own_iadd X (r := (3 : Int32)) (pc' := 10) d2_9 rfl (by decide) ?_
              refine own_icmp_ge X (pct := 50) (pc' := 13) d2_10 rfl (by decide) (by decide) (fun _ => ?_) (fun hc => absurd hc (by decide))
              refine own_iloadN X (pc' := 51) d2_50 rfl rfl ?_
              subst hΦ
              exact own_retI X d2_51 (by decide) (by decide) (by rw [own_dc, if_neg hc24_1, if_pos hc31_2, own_dc, if_neg hc24_3, if_pos hc31_4, own_dc, if_neg hc24_5, if_pos hc31_6, own_dn]) rfl
            · refine own_iconst X (v := (-1 : Int32)) (pc' := 35) d2_34 rfl (by decide) ?_
              subst hΦ
              exact own_retI X d2_35 (by decide) (by decide) (by rw [own_dc, if_neg hc24_1, if_pos hc31_2, own_dc, if_neg hc24_3, if_pos hc31_4, own_dc, if_neg hc24_5, if_neg (fun z => z hc31_6)]) rfl
        · refine own_iconst X (v := (-1 : Int32)) (pc' := 35) d2_34 rfl (by decide) ?_
          subst hΦ
          exact own_retI X d2_35 (by decide) (by decide) (by rw [own_dc, if_neg hc24_1, if_pos hc31_2, own_dc, if_neg hc24_3, if_neg (fun z => z hc31_4)]) rfl
    · refine own_iconst X (v := (-1 : Int32)) (pc' := 35) d2_34 rfl (by decide) ?_
      subst hΦ
      exact own_retI X d2_35 (by decide) (by decide) (by rw [own_dc, if_neg hc24_1, if_neg (fun z => z hc31_2)]) rfl
theorem pn_rm2_13 : plainFor (⟨"com/example/vegeu/vegeu/model/Iso2709", "digits", "([BII)I"⟩ : MethodName) = true := plainFor_of_name (by first | (simp [plainName, overriddenIn]; done) | decide +kernel)
theorem ef_rm2_13 (m : MethodId) (x0 : Addr) (x1 : Int32) (x2 : Int32) : entryFrame m #[(.ref x0), (.int x1), (.int x2)] 6 = mkF m 0 #[.val (.ref x0), .val (.int x1), .val (.int x2), .unset, .unset, .unset] [] := by first | (simp [entryFrame, mkF, argsToLocals, Value.category]; done) | rfl
set_option maxRecDepth 65536 in
set_option maxHeartbeats 4000000 in
theorem rm2_13 (l : Launch) (Z : State) (a0 : Array Value) (hw : ∀ d ∈ tables_1, d.before a0 Z = true) (n0 : Nat) (a : Addr) (h0 : Heap) (hn0 : n0 ≤ h0.size) (c0 c1 c2 c3 c4 : Int32) (A : own_A Z h0 a .byte [c0, c1, c2, c3, c4]) :
    own_Met l (⟨"com/example/vegeu/vegeu/model/Iso2709", "digits", "([BII)I"⟩ : MethodName) prog_52_method_5_code 6 (some .int) ({ frames := 0, cells := 0, slots := 0, locals := 0 } : Room) Z n0 #[(.ref a), (.int (1 : Int32)), (.int (3 : Int32))] h0 (some (.int (own_dig 0 [c1, c2, c3]))) (fun h' => h' = h0) := by
  refine own_met pn_rm2_13 hn0 ?_
  intro p e s m below meth c T X
  refine own_cast (ef_rm2_13 m a (1 : Int32) (3 : Int32)) ?_
  generalize hΦ : own_Q n0 below s _ _ _ = Φ
  refine own_iconst X (v := (0 : Int32)) (pc' := 1) d2_0 rfl (by decide) ?_
  refine own_istoreN X (pc' := 2) (Ls' := #[.val (.ref a), .val (.int (1 : Int32)), .val (.int (3 : Int32)), .val (.int (0 : Int32)), .unset, .unset]) d2_1 rfl rfl ?_
  refine own_iloadN X (pc' := 3) d2_2 rfl rfl ?_
  refine own_istore X (pc' := 5) (Ls' := #[.val (.ref a), .val (.int (1 : Int32)), .val (.int (3 : Int32)), .val (.int (0 : Int32)), .val (.int (1 : Int32)), .unset]) d2_3 rfl rfl ?_
  refine own_iload X (pc' := 7) d2_5 rfl rfl ?_
  refine own_iloadN X (pc' := 8) d2_7 rfl rfl ?_
  refine own_iloadN X (pc' := 9) d2_8 rfl rfl ?_
  refine own_iadd X (r := (4 : Int32)) (pc' := 10) d2_9 rfl (by decide) ?_
  refine own_icmp_ge X (pct := 50) (pc' := 13) d2_10 rfl (by decide) (by decide) (fun hc => absurd hc (by decide)) (fun _ => ?_)
  refine own_aloadN X (pc' := 14) d2_13 rfl rfl rfl ?_
  refine own_iload X (pc' := 16) d2_14 rfl rfl ?_
  refine own_baload X (v := c1) (pc' := 17) A rfl rfl d2_16 rfl ?_
  refine own_bipush X (v := (48 : Int32)) (pc' := 19) d2_17 rfl (by decide) ?_
  refine own_isub X (r := (c1 - (48 : Int32))) (pc' := 20) d2_19 rfl rfl ?_
  refine own_istore X (pc' := 22) (Ls' := #[.val (.ref a), .val (.int (1 : Int32)), .val (.int (3 : Int32)), .val (.int (0 : Int32)), .val (.int (1 : Int32)), .val (.int (c1 - (48 : Int32)))]) d2_20 rfl rfl ?_
  refine own_iload X (pc' := 24) d2_22 rfl rfl ?_
  refine own_if_lt X (pct := 34) (pc' := 27) d2_24 rfl (by decide) (by decide) (fun hc24_1 => ?_) (fun hc24_1 => ?_)
  · refine own_iconst X (v := (-1 : Int32)) (pc' := 35) d2_34 rfl (by decide) ?_
    subst hΦ
    exact own_retI X d2_35 (by decide) (by decide) (by rw [own_dc, if_pos hc24_1]) rfl
  · refine own_iload X (pc' := 29) d2_27 rfl rfl ?_
    refine own_bipush X (v := (9 : Int32)) (pc' := 31) d2_29 rfl (by decide) ?_
    refine own_icmp_le X (pct := 36) (pc' := 34) d2_31 rfl (by decide) (by decide) (fun hc31_2 => ?_) (fun hc31_2 => ?_)
    · refine own_iloadN X (pc' := 37) d2_36 rfl rfl ?_
      refine own_bipush X (v := (10 : Int32)) (pc' := 39) d2_37 rfl (by decide) ?_
      refine own_imul X (r := ((0 : Int32) * (10 : Int32))) (pc' := 40) d2_39 rfl rfl ?_
      refine own_iload X (pc' := 42) d2_40 rfl rfl ?_
      refine own_iadd X (r := (((0 : Int32) * (10 : Int32)) + (c1 - (48 : Int32)))) (pc' := 43) d2_42 rfl rfl ?_
      refine own_istoreN X (pc' := 44) (Ls' := #[.val (.ref a), .val (.int (1 : Int32)), .val (.int (3 : Int32)), .val (.int (((0 : Int32) * (10 : Int32)) + (c1 - (48 : Int32)))), .val (.int (1 : Int32)), .val (.int (c1 - (48 : Int32)))]) d2_43 rfl rfl ?_
      refine own_iinc X (pc' := 47) (Ls' := #[.val (.ref a), .val (.int (1 : Int32)), .val (.int (3 : Int32)), .val (.int (((0 : Int32) * (10 : Int32)) + (c1 - (48 : Int32)))), .val (.int (2 : Int32)), .val (.int (c1 - (48 : Int32)))]) (w := (2 : Int32)) d2_44 rfl rfl (by decide) rfl ?_
      refine own_goto X (pc' := 5) d2_47 (by decide) (by decide) ?_
      refine own_iload X (pc' := 7) d2_5 rfl rfl ?_
      refine own_iloadN X (pc' := 8) d2_7 rfl rfl ?_
      refine own_iloadN X (pc' := 9) d2_8 rfl rfl ?_
      refine own_iadd X (r := (4 : Int32)) (pc' := 10) d2_9 rfl (by decide) ?_
      refine own_icmp_ge X (pct := 50) (pc' := 13) d2_10 rfl (by decide) (by decide) (fun hc => absurd hc (by decide)) (fun _ => ?_)
      refine own_aloadN X (pc' := 14) d2_13 rfl rfl rfl ?_
      refine own_iload X (pc' := 16) d2_14 rfl rfl ?_
      refine own_baload X (v := c2) (pc' := 17) A rfl rfl d2_16 rfl ?_
      refine own_bipush X (v := (48 : Int32)) (pc' := 19) d2_17 rfl (by decide) ?_
      refine own_isub X (r := (c2 - (48 : Int32))) (pc' := 20) d2_19 rfl rfl ?_
      refine own_istore X (pc' := 22) (Ls' := #[.val (.ref a), .val (.int (1 : Int32)), .val (.int (3 : Int32)), .val (.int (((0 : Int32) * (10 : Int32)) + (c1 - (48 : Int32)))), .val (.int (2 : Int32)), .val (.int (c2 - (48 : Int32)))]) d2_20 rfl rfl ?_
      refine own_iload X (pc' := 24) d2_22 rfl rfl ?_
      refine own_if_lt X (pct := 34) (pc' := 27) d2_24 rfl (by decide) (by decide) (fun hc24_3 => ?_) (fun hc24_3 => ?_)
      · refine own_iconst X (v := (-1 : Int32)) (pc' := 35) d2_34 rfl (by decide) ?_
        subst hΦ
        exact own_retI X d2_35 (by decide) (by decide) (by rw [own_dc, if_neg hc24_1, if_pos hc31_2, own_dc, if_pos hc24_3]) rfl
      · refine own_iload X (pc' := 29) d2_27 rfl rfl ?_
        refine own_bipush X (v := (9 : Int32)) (pc' := 31) d2_29 rfl (by decide) ?_
        refine own_icmp_le X (pct := 36) (pc' := 34) d2_31 rfl (by decide) (by decide) (fun hc31_4 => ?_) (fun hc31_4 => ?_)
        · refine own_iloadN X (pc' := 37) d2_36 rfl rfl ?_
          refine own_bipush X (v := (10 : Int32)) (pc' := 39) d2_37 rfl (by decide) ?_
          refine own_imul X (r := ((((0 : Int32) * (10 : Int32)) + (c1 - (48 : Int32))) * (10 : Int32))) (pc' := 40) d2_39 rfl rfl ?_
          refine own_iload X (pc' := 42) d2_40 rfl rfl ?_
          refine own_iadd X (r := (((((0 : Int32) * (10 : Int32)) + (c1 - (48 : Int32))) * (10 : Int32)) + (c2 - (48 : Int32)))) (pc' := 43) d2_42 rfl rfl ?_
          refine own_istoreN X (pc' := 44) (Ls' := #[.val (.ref a), .val (.int (1 : Int32)), .val (.int (3 : Int32)), .val (.int (((((0 : Int32) * (10 : Int32)) + (c1 - (48 : Int32))) * (10 : Int32)) + (c2 - (48 : Int32)))), .val (.int (2 : Int32)), .val (.int (c2 - (48 : Int32)))]) d2_43 rfl rfl ?_
          refine own_iinc X (pc' := 47) (Ls' := #[.val (.ref a), .val (.int (1 : Int32)), .val (.int (3 : Int32)), .val (.int (((((0 : Int32) * (10 : Int32)) + (c1 - (48 : Int32))) * (10 : Int32)) + (c2 - (48 : Int32)))), .val (.int (3 : Int32)), .val (.int (c2 - (48 : Int32)))]) (w := (3 : Int32)) d2_44 rfl rfl (by decide) rfl ?_
          refine own_goto X (pc' := 5) d2_47 (by decide) (by decide) ?_
          refine own_iload X (pc' := 7) d2_5 rfl rfl ?_
          refine own_iloadN X (pc' := 8) d2_7 rfl rfl ?_
          refine own_iloadN X (pc' := 9) d2_8 rfl rfl ?_
          refine own_iadd X (r := (4 : Int32)) (pc' := 10) d2_9 rfl (by decide) ?_
          refine own_icmp_ge X (pct := 50) (pc' := 13) d2_10 rfl (by decide) (by decide) (fun hc => absurd hc (by decide)) (fun _ => ?_)
          refine own_aloadN X (pc' := 14) d2_13 rfl rfl rfl ?_
          refine own_iload X (pc' := 16) d2_14 rfl rfl ?_
          refine own_baload X (v := c3) (pc' := 17) A rfl rfl d2_16 rfl ?_
          refine own_bipush X (v := (48 : Int32)) (pc' := 19) d2_17 rfl (by decide) ?_
          refine own_isub X (r := (c3 - (48 : Int32))) (pc' := 20) d2_19 rfl rfl ?_
          refine own_istore X (pc' := 22) (Ls' := #[.val (.ref a), .val (.int (1 : Int32)), .val (.int (3 : Int32)), .val (.int (((((0 : Int32) * (10 : Int32)) + (c1 - (48 : Int32))) * (10 : Int32)) + (c2 - (48 : Int32)))), .val (.int (3 : Int32)), .val (.int (c3 - (48 : Int32)))]) d2_20 rfl rfl ?_
          refine own_iload X (pc' := 24) d2_22 rfl rfl ?_
          refine own_if_lt X (pct := 34) (pc' := 27) d2_24 rfl (by decide) (by decide) (fun hc24_5 => ?_) (fun hc24_5 => ?_)
          · refine own_iconst X (v := (-1 : Int32)) (pc' := 35) d2_34 rfl (by decide) ?_
            subst hΦ
            exact own_retI X d2_35 (by decide) (by decide) (by rw [own_dc, if_neg hc24_1, if_pos hc31_2, own_dc, if_neg hc24_3, if_pos hc31_4, own_dc, if_pos hc24_5]) rfl
          · refine own_iload X (pc' := 29) d2_27 rfl rfl ?_
            refine own_bipush X (v := (9 : Int32)) (pc' := 31) d2_29 rfl (by decide) ?_
            refine own_icmp_le X (pct := 36) (pc' := 34) d2_31 rfl (by decide) (by decide) (fun hc31_6 => ?_) (fun hc31_6 => ?_)
            · refine own_iloadN X (pc' := 37) d2_36 rfl rfl ?_
              refine own_bipush X (v := (10 : Int32)) (pc' := 39) d2_37 rfl (by decide) ?_
              refine own_imul X (r := ((((((0 : Int32) * (10 : Int32)) + (c1 - (48 : Int32))) * (10 : Int32)) + (c2 - (48 : Int32))) * (10 : Int32))) (pc' := 40) d2_39 rfl rfl ?_
              refine own_iload X (pc' := 42) d2_40 rfl rfl ?_
              refine own_iadd X (r := (((((((0 : Int32) * (10 : Int32)) + (c1 - (48 : Int32))) * (10 : Int32)) + (c2 - (48 : Int32))) * (10 : Int32)) + (c3 - (48 : Int32)))) (pc' := 43) d2_42 rfl rfl ?_
              refine own_istoreN X (pc' := 44) (Ls' := #[.val (.ref a), .val (.int (1 : Int32)), .val (.int (3 : Int32)), .val (.int (((((((0 : Int32) * (10 : Int32)) + (c1 - (48 : Int32))) * (10 : Int32)) + (c2 - (48 : Int32))) * (10 : Int32)) + (c3 - (48 : Int32)))), .val (.int (3 : Int32)), .val (.int (c3 - (48 : Int32)))]) d2_43 rfl rfl ?_
              refine own_iinc X (pc' := 47) (Ls' := #[.val (.ref a), .val (.int (1 : Int32)), .val (.int (3 : Int32)), .val (.int (((((((0 : Int32) * (10 : Int32)) + (c1 - (48 : Int32))) * (10 : Int32)) + (c2 - (48 : Int32))) * (10 : Int32)) + (c3 - (48 : Int32)))), .val (.int (4 : Int32)), .val (.int (c3 - (48 : Int32)))]) (w := (4 : Int32)) d2_44 rfl rfl (by decide) rfl ?_
              refine own_goto X (pc' := 5) d2_47 (by decide) (by decide) ?_
              refine own_iload X (pc' := 7) d2_5 rfl rfl ?_
              refine own_iloadN X (pc' := 8) d2_7 rfl rfl ?_
              refine own_iloadN X (pc' := 9) d2_8 rfl rfl ?_
              refine own_iadd X (r := (4 : Int32)) (pc' := 10) d2_9 rfl (by decide) ?_
              refine own_icmp_ge X (pct := 50) (pc' := 13) d2_10 rfl (by decide) (by decide) (fun _ => ?_) (fun hc => absurd hc (by decide))
              refine own_iloadN X (pc' := 51) d2_50 rfl rfl ?_
              subst hΦ
              exact own_retI X d2_51 (by decide) (by decide) (by rw [own_dc, if_neg hc24_1, if_pos hc31_2, own_dc, if_neg hc24_3, if_pos hc31_4, own_dc, if_neg hc24_5, if_pos hc31_6, own_dn]) rfl
            · refine own_iconst X (v := (-1 : Int32)) (pc' := 35) d2_34 rfl (by decide) ?_
              subst hΦ
              exact own_retI X d2_35 (by decide) (by decide) (by rw [own_dc, if_neg hc24_1, if_pos hc31_2, own_dc, if_neg hc24_3, if_pos hc31_4, own_dc, if_neg hc24_5, if_neg (fun z => z hc31_6)]) rfl
        · refine own_iconst X (v := (-1 : Int32)) (pc' := 35) d2_34 rfl (by decide) ?_
          subst hΦ
          exact own_retI X d2_35 (by decide) (by decide) (by rw [own_dc, if_neg hc24_1, if_pos hc31_2, own_dc, if_neg hc24_3, if_neg (fun z => z hc31_4)]) rfl
    · refine own_iconst X (v := (-1 : Int32)) (pc' := 35) d2_34 rfl (by decide) ?_
      subst hΦ
      exact own_retI X d2_35 (by decide) (by decide) (by rw [own_dc, if_neg hc24_1, if_neg (fun z => z hc31_2)]) rfl
theorem pn_rm2_23 : plainFor (⟨"com/example/vegeu/vegeu/model/Iso2709", "digits", "([BII)I"⟩ : MethodName) = true := plainFor_of_name (by first | (simp [plainName, overriddenIn]; done) | decide +kernel)
theorem ef_rm2_23 (m : MethodId) (x0 : Addr) (x1 : Int32) (x2 : Int32) : entryFrame m #[(.ref x0), (.int x1), (.int x2)] 6 = mkF m 0 #[.val (.ref x0), .val (.int x1), .val (.int x2), .unset, .unset, .unset] [] := by first | (simp [entryFrame, mkF, argsToLocals, Value.category]; done) | rfl
set_option maxRecDepth 65536 in
set_option maxHeartbeats 4000000 in
theorem rm2_23 (l : Launch) (Z : State) (a0 : Array Value) (hw : ∀ d ∈ tables_1, d.before a0 Z = true) (n0 : Nat) (a : Addr) (h0 : Heap) (hn0 : n0 ≤ h0.size) (c0 c1 c2 c3 c4 : Int32) (A : own_A Z h0 a .byte [c0, c1, c2, c3, c4]) :
    own_Met l (⟨"com/example/vegeu/vegeu/model/Iso2709", "digits", "([BII)I"⟩ : MethodName) prog_52_method_5_code 6 (some .int) ({ frames := 0, cells := 0, slots := 0, locals := 0 } : Room) Z n0 #[(.ref a), (.int (2 : Int32)), (.int (3 : Int32))] h0 (some (.int (own_dig 0 [c2, c3, c4]))) (fun h' => h' = h0) := by
  refine own_met pn_rm2_23 hn0 ?_
  intro p e s m below meth c T X
  refine own_cast (ef_rm2_23 m a (2 : Int32) (3 : Int32)) ?_
  generalize hΦ : own_Q n0 below s _ _ _ = Φ
  refine own_iconst X (v := (0 : Int32)) (pc' := 1) d2_0 rfl (by decide) ?_
  refine own_istoreN X (pc' := 2) (Ls' := #[.val (.ref a), .val (.int (2 : Int32)), .val (.int (3 : Int32)), .val (.int (0 : Int32)), .unset, .unset]) d2_1 rfl rfl ?_
  refine own_iloadN X (pc' := 3) d2_2 rfl rfl ?_
  refine own_istore X (pc' := 5) (Ls' := #[.val (.ref a), .val (.int (2 : Int32)), .val (.int (3 : Int32)), .val (.int (0 : Int32)), .val (.int (2 : Int32)), .unset]) d2_3 rfl rfl ?_
  refine own_iload X (pc' := 7) d2_5 rfl rfl ?_
  refine own_iloadN X (pc' := 8) d2_7 rfl rfl ?_
  refine own_iloadN X (pc' := 9) d2_8 rfl rfl ?_
  refine own_iadd X (r := (5 : Int32)) (pc' := 10) d2_9 rfl (by decide) ?_
  refine own_icmp_ge X (pct := 50) (pc' := 13) d2_10 rfl (by decide) (by decide) (fun hc => absurd hc (by decide)) (fun _ => ?_)
  refine own_aloadN X (pc' := 14) d2_13 rfl rfl rfl ?_
  refine own_iload X (pc' := 16) d2_14 rfl rfl ?_
  refine own_baload X (v := c2) (pc' := 17) A rfl rfl d2_16 rfl ?_
  refine own_bipush X (v := (48 : Int32)) (pc' := 19) d2_17 rfl (by decide) ?_
  refine own_isub X (r := (c2 - (48 : Int32))) (pc' := 20) d2_19 rfl rfl ?_
  refine own_istore X (pc' := 22) (Ls' := #[.val (.ref a), .val (.int (2 : Int32)), .val (.int (3 : Int32)), .val (.int (0 : Int32)), .val (.int (2 : Int32)), .val (.int (c2 - (48 : Int32)))]) d2_20 rfl rfl ?_
  refine own_iload X (pc' := 24) d2_22 rfl rfl ?_
  refine own_if_lt X (pct := 34) (pc' := 27) d2_24 rfl (by decide) (by decide) (fun hc24_1 => ?_) (fun hc24_1 => ?_)
  · refine own_iconst X (v := (-1 : Int32)) (pc' := 35) d2_34 rfl (by decide) ?_
    subst hΦ
    exact own_retI X d2_35 (by decide) (by decide) (by rw [own_dc, if_pos hc24_1]) rfl
  · refine own_iload X (pc' := 29) d2_27 rfl rfl ?_
    refine own_bipush X (v := (9 : Int32)) (pc' := 31) d2_29 rfl (by decide) ?_
    refine own_icmp_le X (pct := 36) (pc' := 34) d2_31 rfl (by decide) (by decide) (fun hc31_2 => ?_) (fun hc31_2 => ?_)
    · refine own_iloadN X (pc' := 37) d2_36 rfl rfl ?_
      refine own_bipush X (v := (10 : Int32)) (pc' := 39) d2_37 rfl (by decide) ?_
      refine own_imul X (r := ((0 : Int32) * (10 : Int32))) (pc' := 40) d2_39 rfl rfl ?_
      refine own_iload X (pc' := 42) d2_40 rfl rfl ?_
      refine own_iadd X (r := (((0 : Int32) * (10 : Int32)) + (c2 - (48 : Int32)))) (pc' := 43) d2_42 rfl rfl ?_
      refine own_istoreN X (pc' := 44) (Ls' := #[.val (.ref a), .val (.int (2 : Int32)), .val (.int (3 : Int32)), .val (.int (((0 : Int32) * (10 : Int32)) + (c2 - (48 : Int32)))), .val (.int (2 : Int32)), .val (.int (c2 - (48 : Int32)))]) d2_43 rfl rfl ?_
      refine own_iinc X (pc' := 47) (Ls' := #[.val (.ref a), .val (.int (2 : Int32)), .val (.int (3 : Int32)), .val (.int (((0 : Int32) * (10 : Int32)) + (c2 - (48 : Int32)))), .val (.int (3 : Int32)), .val (.int (c2 - (48 : Int32)))]) (w := (3 : Int32)) d2_44 rfl rfl (by decide) rfl ?_
      refine own_goto X (pc' := 5) d2_47 (by decide) (by decide) ?_
      refine own_iload X (pc' := 7) d2_5 rfl rfl ?_
      refine own_iloadN X (pc' := 8) d2_7 rfl rfl ?_
      refine own_iloadN X (pc' := 9) d2_8 rfl rfl ?_
      refine own_iadd X (r := (5 : Int32)) (pc' := 10) d2_9 rfl (by decide) ?_
      refine own_icmp_ge X (pct := 50) (pc' := 13) d2_10 rfl (by decide) (by decide) (fun hc => absurd hc (by decide)) (fun _ => ?_)
      refine own_aloadN X (pc' := 14) d2_13 rfl rfl rfl ?_
      refine own_iload X (pc' := 16) d2_14 rfl rfl ?_
      refine own_baload X (v := c3) (pc' := 17) A rfl rfl d2_16 rfl ?_
      refine own_bipush X (v := (48 : Int32)) (pc' := 19) d2_17 rfl (by decide) ?_
      refine own_isub X (r := (c3 - (48 : Int32))) (pc' := 20) d2_19 rfl rfl ?_
      refine own_istore X (pc' := 22) (Ls' := #[.val (.ref a), .val (.int (2 : Int32)), .val (.int (3 : Int32)), .val (.int (((0 : Int32) * (10 : Int32)) + (c2 - (48 : Int32)))), .val (.int (3 : Int32)), .val (.int (c3 - (48 : Int32)))]) d2_20 rfl rfl ?_
      refine own_iload X (pc' := 24) d2_22 rfl rfl ?_
      refine own_if_lt X (pct := 34) (pc' := 27) d2_24 rfl (by decide) (by decide) (fun hc24_3 => ?_) (fun hc24_3 => ?_)
      · refine own_iconst X (v := (-1 : Int32)) (pc' := 35) d2_34 rfl (by decide) ?_
        subst hΦ
        exact own_retI X d2_35 (by decide) (by decide) (by rw [own_dc, if_neg hc24_1, if_pos hc31_2, own_dc, if_pos hc24_3]) rfl
      · refine own_iload X (pc' := 29) d2_27 rfl rfl ?_
        refine own_bipush X (v := (9 : Int32)) (pc' := 31) d2_29 rfl (by decide) ?_
        refine own_icmp_le X (pct := 36) (pc' := 34) d2_31 rfl (by decide) (by decide) (fun hc31_4 => ?_) (fun hc31_4 => ?_)
        · refine own_iloadN X (pc' := 37) d2_36 rfl rfl ?_
          refine own_bipush X (v := (10 : Int32)) (pc' := 39) d2_37 rfl (by decide) ?_
          refine own_imul X (r := ((((0 : Int32) * (10 : Int32)) + (c2 - (48 : Int32))) * (10 : Int32))) (pc' := 40) d2_39 rfl rfl ?_
          refine own_iload X (pc' := 42) d2_40 rfl rfl ?_
          refine own_iadd X (r := (((((0 : Int32) * (10 : Int32)) + (c2 - (48 : Int32))) * (10 : Int32)) + (c3 - (48 : Int32)))) (pc' := 43) d2_42 rfl rfl ?_
          refine own_istoreN X (pc' := 44) (Ls' := #[.val (.ref a), .val (.int (2 : Int32)), .val (.int (3 : Int32)), .val (.int (((((0 : Int32) * (10 : Int32)) + (c2 - (48 : Int32))) * (10 : Int32)) + (c3 - (48 : Int32)))), .val (.int (3 : Int32)), .val (.int (c3 - (48 : Int32)))]) d2_43 rfl rfl ?_
          refine own_iinc X (pc' := 47) (Ls' := #[.val (.ref a), .val (.int (2 : Int32)), .val (.int (3 : Int32)), .val (.int (((((0 : Int32) * (10 : Int32)) + (c2 - (48 : Int32))) * (10 : Int32)) + (c3 - (48 : Int32)))), .val (.int (4 : Int32)), .val (.int (c3 - (48 : Int32)))]) (w := (4 : Int32)) d2_44 rfl rfl (by decide) rfl ?_
          refine own_goto X (pc' := 5) d2_47 (by decide) (by decide) ?_
          refine own_iload X (pc' := 7) d2_5 rfl rfl ?_
          refine own_iloadN X (pc' := 8) d2_7 rfl rfl ?_
          refine own_iloadN X (pc' := 9) d2_8 rfl rfl ?_
          refine own_iadd X (r := (5 : Int32)) (pc' := 10) d2_9 rfl (by decide) ?_
          refine own_icmp_ge X (pct := 50) (pc' := 13) d2_10 rfl (by decide) (by decide) (fun hc => absurd hc (by decide)) (fun _ => ?_)
          refine own_aloadN X (pc' := 14) d2_13 rfl rfl rfl ?_
          refine own_iload X (pc' := 16) d2_14 rfl rfl ?_
          refine own_baload X (v := c4) (pc' := 17) A rfl rfl d2_16 rfl ?_
          refine own_bipush X (v := (48 : Int32)) (pc' := 19) d2_17 rfl (by decide) ?_
          refine own_isub X (r := (c4 - (48 : Int32))) (pc' := 20) d2_19 rfl rfl ?_
          refine own_istore X (pc' := 22) (Ls' := #[.val (.ref a), .val (.int (2 : Int32)), .val (.int (3 : Int32)), .val (.int (((((0 : Int32) * (10 : Int32)) + (c2 - (48 : Int32))) * (10 : Int32)) + (c3 - (48 : Int32)))), .val (.int (4 : Int32)), .val (.int (c4 - (48 : Int32)))]) d2_20 rfl rfl ?_
          refine own_iload X (pc' := 24) d2_22 rfl rfl ?_
          refine own_if_lt X (pct := 34) (pc' := 27) d2_24 rfl (by decide) (by decide) (fun hc24_5 => ?_) (fun hc24_5 => ?_)
          · refine own_iconst X (v := (-1 : Int32)) (pc' := 35) d2_34 rfl (by decide) ?_
            subst hΦ
            exact own_retI X d2_35 (by decide) (by decide) (by rw [own_dc, if_neg hc24_1, if_pos hc31_2, own_dc, if_neg hc24_3, if_pos hc31_4, own_dc, if_pos hc24_5]) rfl
          · refine own_iload X (pc' := 29) d2_27 rfl rfl ?_
            refine own_bipush X (v := (9 : Int32)) (pc' := 31) d2_29 rfl (by decide) ?_
            refine own_icmp_le X (pct := 36) (pc' := 34) d2_31 rfl (by decide) (by decide) (fun hc31_6 => ?_) (fun hc31_6 => ?_)
            · refine own_iloadN X (pc' := 37) d2_36 rfl rfl ?_
              refine own_bipush X (v := (10 : Int32)) (pc' := 39) d2_37 rfl (by decide) ?_
              refine own_imul X (r := ((((((0 : Int32) * (10 : Int32)) + (c2 - (48 : Int32))) * (10 : Int32)) + (c3 - (48 : Int32))) * (10 : Int32))) (pc' := 40) d2_39 rfl rfl ?_
              refine own_iload X (pc' := 42) d2_40 rfl rfl ?_
              refine own_iadd X (r := (((((((0 : Int32) * (10 : Int32)) + (c2 - (48 : Int32))) * (10 : Int32)) + (c3 - (48 : Int32))) * (10 : Int32)) + (c4 - (48 : Int32)))) (pc' := 43) d2_42 rfl rfl ?_
              refine own_istoreN X (pc' := 44) (Ls' := #[.val (.ref a), .val (.int (2 : Int32)), .val (.int (3 : Int32)), .val (.int (((((((0 : Int32) * (10 : Int32)) + (c2 - (48 : Int32))) * (10 : Int32)) + (c3 - (48 : Int32))) * (10 : Int32)) + (c4 - (48 : Int32)))), .val (.int (4 : Int32)), .val (.int (c4 - (48 : Int32)))]) d2_43 rfl rfl ?_
              refine own_iinc X (pc' := 47) (Ls' := #[.val (.ref a), .val (.int (2 : Int32)), .val (.int (3 : Int32)), .val (.int (((((((0 : Int32) * (10 : Int32)) + (c2 - (48 : Int32))) * (10 : Int32)) + (c3 - (48 : Int32))) * (10 : Int32)) + (c4 - (48 : Int32)))), .val (.int (5 : Int32)), .val (.int (c4 - (48 : Int32)))]) (w := (5 : Int32)) d2_44 rfl rfl (by decide) rfl ?_
              refine own_goto X (pc' := 5) d2_47 (by decide) (by decide) ?_
              refine own_iload X (pc' := 7) d2_5 rfl rfl ?_
              refine own_iloadN X (pc' := 8) d2_7 rfl rfl ?_
              refine own_iloadN X (pc' := 9) d2_8 rfl rfl ?_
              refine own_iadd X (r := (5 : Int32)) (pc' := 10) d2_9 rfl (by decide) ?_
              refine own_icmp_ge X (pct := 50) (pc' := 13) d2_10 rfl (by decide) (by decide) (fun _ => ?_) (fun hc => absurd hc (by decide))
              refine own_iloadN X (pc' := 51) d2_50 rfl rfl ?_
              subst hΦ
              exact own_retI X d2_51 (by decide) (by decide) (by rw [own_dc, if_neg hc24_1, if_pos hc31_2, own_dc, if_neg hc24_3, if_pos hc31_4, own_dc, if_neg hc24_5, if_pos hc31_6, own_dn]) rfl
            · refine own_iconst X (v := (-1 : Int32)) (pc' := 35) d2_34 rfl (by decide) ?_
              subst hΦ
              exact own_retI X d2_35 (by decide) (by decide) (by rw [own_dc, if_neg hc24_1, if_pos hc31_2, own_dc, if_neg hc24_3, if_pos hc31_4, own_dc, if_neg hc24_5, if_neg (fun z => z hc31_6)]) rfl
        · refine own_iconst X (v := (-1 : Int32)) (pc' := 35) d2_34 rfl (by decide) ?_
          subst hΦ
          exact own_retI X d2_35 (by decide) (by decide) (by rw [own_dc, if_neg hc24_1, if_pos hc31_2, own_dc, if_neg hc24_3, if_neg (fun z => z hc31_4)]) rfl
    · refine own_iconst X (v := (-1 : Int32)) (pc' := 35) d2_34 rfl (by decide) ?_
      subst hΦ
      exact own_retI X d2_35 (by decide) (by decide) (by rw [own_dc, if_neg hc24_1, if_neg (fun z => z hc31_2)]) rfl
theorem pn_rm2_04 : plainFor (⟨"com/example/vegeu/vegeu/model/Iso2709", "digits", "([BII)I"⟩ : MethodName) = true := plainFor_of_name (by first | (simp [plainName, overriddenIn]; done) | decide +kernel)
theorem ef_rm2_04 (m : MethodId) (x0 : Addr) (x1 : Int32) (x2 : Int32) : entryFrame m #[(.ref x0), (.int x1), (.int x2)] 6 = mkF m 0 #[.val (.ref x0), .val (.int x1), .val (.int x2), .unset, .unset, .unset] [] := by first | (simp [entryFrame, mkF, argsToLocals, Value.category]; done) | rfl
set_option maxRecDepth 65536 in
set_option maxHeartbeats 4000000 in
theorem rm2_04 (l : Launch) (Z : State) (a0 : Array Value) (hw : ∀ d ∈ tables_1, d.before a0 Z = true) (n0 : Nat) (a : Addr) (h0 : Heap) (hn0 : n0 ≤ h0.size) (c0 c1 c2 c3 c4 : Int32) (A : own_A Z h0 a .byte [c0, c1, c2, c3, c4]) :
    own_Met l (⟨"com/example/vegeu/vegeu/model/Iso2709", "digits", "([BII)I"⟩ : MethodName) prog_52_method_5_code 6 (some .int) ({ frames := 0, cells := 0, slots := 0, locals := 0 } : Room) Z n0 #[(.ref a), (.int (0 : Int32)), (.int (4 : Int32))] h0 (some (.int (own_dig 0 [c0, c1, c2, c3]))) (fun h' => h' = h0) := by
  refine own_met pn_rm2_04 hn0 ?_
  intro p e s m below meth c T X
  refine own_cast (ef_rm2_04 m a (0 : Int32) (4 : Int32)) ?_
  generalize hΦ : own_Q n0 below s _ _ _ = Φ
  refine own_iconst X (v := (0 : Int32)) (pc' := 1) d2_0 rfl (by decide) ?_
  refine own_istoreN X (pc' := 2) (Ls' := #[.val (.ref a), .val (.int (0 : Int32)), .val (.int (4 : Int32)), .val (.int (0 : Int32)), .unset, .unset]) d2_1 rfl rfl ?_
  refine own_iloadN X (pc' := 3) d2_2 rfl rfl ?_
  refine own_istore X (pc' := 5) (Ls' := #[.val (.ref a), .val (.int (0 : Int32)), .val (.int (4 : Int32)), .val (.int (0 : Int32)), .val (.int (0 : Int32)), .unset]) d2_3 rfl rfl ?_
  refine own_iload X (pc' := 7) d2_5 rfl rfl ?_
  refine own_iloadN X (pc' := 8) d2_7 rfl rfl ?_
  refine own_iloadN X (pc' := 9) d2_8 rfl rfl ?_
  refine own_iadd X (r := (4 : Int32)) (pc' := 10) d2_9 rfl (by decide) ?_
  refine own_icmp_ge X (pct := 50) (pc' := 13) d2_10 rfl (by decide) (by decide) (fun hc => absurd hc (by decide)) (fun _ => ?_)
  refine own_aloadN X (pc' := 14) d2_13 rfl rfl rfl ?_
  refine own_iload X (pc' := 16) d2_14 rfl rfl ?_
  refine own_baload X (v := c0) (pc' := 17) A rfl rfl d2_16 rfl ?_
  refine own_bipush X (v := (48 : Int32)) (pc' := 19) d2_17 rfl (by decide) ?_
  refine own_isub X (r := (c0 - (48 : Int32))) (pc' := 20) d2_19 rfl rfl ?_
  refine own_istore X (pc' := 22) (Ls' := #[.val (.ref a), .val (.int (0 : Int32)), .val (.int (4 : Int32)), .val (.int (0 : Int32)), .val (.int (0 : Int32)), .val (.int (c0 - (48 : Int32)))]) d2_20 rfl rfl ?_
  refine own_iload X (pc' := 24) d2_22 rfl rfl ?_
  refine own_if_lt X (pct := 34) (pc' := 27) d2_24 rfl (by decide) (by decide) (fun hc24_1 => ?_) (fun hc24_1 => ?_)
  · refine own_iconst X (v := (-1 : Int32)) (pc' := 35) d2_34 rfl (by decide) ?_
    subst hΦ
    exact own_retI X d2_35 (by decide) (by decide) (by rw [own_dc, if_pos hc24_1]) rfl
  · refine own_iload X (pc' := 29) d2_27 rfl rfl ?_
    refine own_bipush X (v := (9 : Int32)) (pc' := 31) d2_29 rfl (by decide) ?_
    refine own_icmp_le X (pct := 36) (pc' := 34) d2_31 rfl (by decide) (by decide) (fun hc31_2 => ?_) (fun hc31_2 => ?_)
    · refine own_iloadN X (pc' := 37) d2_36 rfl rfl ?_
      refine own_bipush X (v := (10 : Int32)) (pc' := 39) d2_37 rfl (by decide) ?_
      refine own_imul X (r := ((0 : Int32) * (10 : Int32))) (pc' := 40) d2_39 rfl rfl ?_
      refine own_iload X (pc' := 42) d2_40 rfl rfl ?_
      refine own_iadd X (r := (((0 : Int32) * (10 : Int32)) + (c0 - (48 : Int32)))) (pc' := 43) d2_42 rfl rfl ?_
      refine own_istoreN X (pc' := 44) (Ls' := #[.val (.ref a), .val (.int (0 : Int32)), .val (.int (4 : Int32)), .val (.int (((0 : Int32) * (10 : Int32)) + (c0 - (48 : Int32)))), .val (.int (0 : Int32)), .val (.int (c0 - (48 : Int32)))]) d2_43 rfl rfl ?_
      refine own_iinc X (pc' := 47) (Ls' := #[.val (.ref a), .val (.int (0 : Int32)), .val (.int (4 : Int32)), .val (.int (((0 : Int32) * (10 : Int32)) + (c0 - (48 : Int32)))), .val (.int (1 : Int32)), .val (.int (c0 - (48 : Int32)))]) (w := (1 : Int32)) d2_44 rfl rfl (by decide) rfl ?_
      refine own_goto X (pc' := 5) d2_47 (by decide) (by decide) ?_
      refine own_iload X (pc' := 7) d2_5 rfl rfl ?_
      refine own_iloadN X (pc' := 8) d2_7 rfl rfl ?_
      refine own_iloadN X (pc' := 9) d2_8 rfl rfl ?_
      refine own_iadd X (r := (4 : Int32)) (pc' := 10) d2_9 rfl (by decide) ?_
      refine own_icmp_ge X (pct := 50) (pc' := 13) d2_10 rfl (by decide) (by decide) (fun hc => absurd hc (by decide)) (fun _ => ?_)
      refine own_aloadN X (pc' := 14) d2_13 rfl rfl rfl ?_
      refine own_iload X (pc' := 16) d2_14 rfl rfl ?_
      refine own_baload X (v := c1) (pc' := 17) A rfl rfl d2_16 rfl ?_
      refine own_bipush X (v := (48 : Int32)) (pc' := 19) d2_17 rfl (by decide) ?_
      refine own_isub X (r := (c1 - (48 : Int32))) (pc' := 20) d2_19 rfl rfl ?_
      refine own_istore X (pc' := 22) (Ls' := #[.val (.ref a), .val (.int (0 : Int32)), .val (.int (4 : Int32)), .val (.int (((0 : Int32) * (10 : Int32)) + (c0 - (48 : Int32)))), .val (.int (1 : Int32)), .val (.int (c1 - (48 : Int32)))]) d2_20 rfl rfl ?_
      refine own_iload X (pc' := 24) d2_22 rfl rfl ?_
      refine own_if_lt X (pct := 34) (pc' := 27) d2_24 rfl (by decide) (by decide) (fun hc24_3 => ?_) (fun hc24_3 => ?_)
      · refine own_iconst X (v := (-1 : Int32)) (pc' := 35) d2_34 rfl (by decide) ?_
        subst hΦ
        exact own_retI X d2_35 (by decide) (by decide) (by rw [own_dc, if_neg hc24_1, if_pos hc31_2, own_dc, if_pos hc24_3]) rfl
      · refine own_iload X (pc' := 29) d2_27 rfl rfl ?_
        refine own_bipush X (v := (9 : Int32)) (pc' := 31) d2_29 rfl (by decide) ?_
        refine own_icmp_le X (pct := 36) (pc' := 34) d2_31 rfl (by decide) (by decide) (fun hc31_4 => ?_) (fun hc31_4 => ?_)
        · refine own_iloadN X (pc' := 37) d2_36 rfl rfl ?_
          refine own_bipush X (v := (10 : Int32)) (pc' := 39) d2_37 rfl (by decide) ?_
          refine own_imul X (r := ((((0 : Int32) * (10 : Int32)) + (c0 - (48 : Int32))) * (10 : Int32))) (pc' := 40) d2_39 rfl rfl ?_
          refine own_iload X (pc' := 42) d2_40 rfl rfl ?_
          refine own_iadd X (r := (((((0 : Int32) * (10 : Int32)) + (c0 - (48 : Int32))) * (10 : Int32)) + (c1 - (48 : Int32)))) (pc' := 43) d2_42 rfl rfl ?_
          refine own_istoreN X (pc' := 44) (Ls' := #[.val (.ref a), .val (.int (0 : Int32)), .val (.int (4 : Int32)), .val (.int (((((0 : Int32) * (10 : Int32)) + (c0 - (48 : Int32))) * (10 : Int32)) + (c1 - (48 : Int32)))), .val (.int (1 : Int32)), .val (.int (c1 - (48 : Int32)))]) d2_43 rfl rfl ?_
          refine own_iinc X (pc' := 47) (Ls' := #[.val (.ref a), .val (.int (0 : Int32)), .val (.int (4 : Int32)), .val (.int (((((0 : Int32) * (10 : Int32)) + (c0 - (48 : Int32))) * (10 : Int32)) + (c1 - (48 : Int32)))), .val (.int (2 : Int32)), .val (.int (c1 - (48 : Int32)))]) (w := (2 : Int32)) d2_44 rfl rfl (by decide) rfl ?_
          refine own_goto X (pc' := 5) d2_47 (by decide) (by decide) ?_
          refine own_iload X (pc' := 7) d2_5 rfl rfl ?_
          refine own_iloadN X (pc' := 8) d2_7 rfl rfl ?_
          refine own_iloadN X (pc' := 9) d2_8 rfl rfl ?_
          refine own_iadd X (r := (4 : Int32)) (pc' := 10) d2_9 rfl (by decide) ?_
          refine own_icmp_ge X (pct := 50) (pc' := 13) d2_10 rfl (by decide) (by decide) (fun hc => absurd hc (by decide)) (fun _ => ?_)
          refine own_aloadN X (pc' := 14) d2_13 rfl rfl rfl ?_
          refine own_iload X (pc' := 16) d2_14 rfl rfl ?_
          refine own_baload X (v := c2) (pc' := 17) A rfl rfl d2_16 rfl ?_
          refine own_bipush X (v := (48 : Int32)) (pc' := 19) d2_17 rfl (by decide) ?_
          refine own_isub X (r := (c2 - (48 : Int32))) (pc' := 20) d2_19 rfl rfl ?_
          refine own_istore X (pc' := 22) (Ls' := #[.val (.ref a), .val (.int (0 : Int32)), .val (.int (4 : Int32)), .val (.int (((((0 : Int32) * (10 : Int32)) + (c0 - (48 : Int32))) * (10 : Int32)) + (c1 - (48 : Int32)))), .val (.int (2 : Int32)), .val (.int (c2 - (48 : Int32)))]) d2_20 rfl rfl ?_
          refine own_iload X (pc' := 24) d2_22 rfl rfl ?_
          refine own_if_lt X (pct := 34) (pc' := 27) d2_24 rfl (by decide) (by decide) (fun hc24_5 => ?_) (fun hc24_5 => ?_)
          · refine own_iconst X (v := (-1 : Int32)) (pc' := 35) d2_34 rfl (by decide) ?_
            subst hΦ
            exact own_retI X d2_35 (by decide) (by decide) (by rw [own_dc, if_neg hc24_1, if_pos hc31_2, own_dc, if_neg hc24_3, if_pos hc31_4, own_dc, if_pos hc24_5]) rfl
          · refine own_iload X (pc' := 29) d2_27 rfl rfl ?_
            refine own_bipush X (v := (9 : Int32)) (pc' := 31) d2_29 rfl (by decide) ?_
            refine own_icmp_le X (pct := 36) (pc' := 34) d2_31 rfl (by decide) (by decide) (fun hc31_6 => ?_) (fun hc31_6 => ?_)
            · refine own_iloadN X (pc' := 37) d2_36 rfl rfl ?_
              refine own_bipush X (v := (10 : Int32)) (pc' := 39) d2_37 rfl (by decide) ?_
              refine own_imul X (r := ((((((0 : Int32) * (10 : Int32)) + (c0 - (48 : Int32))) * (10 : Int32)) + (c1 - (48 : Int32))) * (10 : Int32))) (pc' := 40) d2_39 rfl rfl ?_
              refine own_iload X (pc' := 42) d2_40 rfl rfl ?_
              refine own_iadd X (r := (((((((0 : Int32) * (10 : Int32)) + (c0 - (48 : Int32))) * (10 : Int32)) + (c1 - (48 : Int32))) * (10 : Int32)) + (c2 - (48 : Int32)))) (pc' := 43) d2_42 rfl rfl ?_
              refine own_istoreN X (pc' := 44) (Ls' := #[.val (.ref a), .val (.int (0 : Int32)), .val (.int (4 : Int32)), .val (.int (((((((0 : Int32) * (10 : Int32)) + (c0 - (48 : Int32))) * (10 : Int32)) + (c1 - (48 : Int32))) * (10 : Int32)) + (c2 - (48 : Int32)))), .val (.int (2 : Int32)), .val (.int (c2 - (48 : Int32)))]) d2_43 rfl rfl ?_
              refine own_iinc X (pc' := 47) (Ls' := #[.val (.ref a), .val (.int (0 : Int32)), .val (.int (4 : Int32)), .val (.int (((((((0 : Int32) * (10 : Int32)) + (c0 - (48 : Int32))) * (10 : Int32)) + (c1 - (48 : Int32))) * (10 : Int32)) + (c2 - (48 : Int32)))), .val (.int (3 : Int32)), .val (.int (c2 - (48 : Int32)))]) (w := (3 : Int32)) d2_44 rfl rfl (by decide) rfl ?_
              refine own_goto X (pc' := 5) d2_47 (by decide) (by decide) ?_
              refine own_iload X (pc' := 7) d2_5 rfl rfl ?_
              refine own_iloadN X (pc' := 8) d2_7 rfl rfl ?_
              refine own_iloadN X (pc' := 9) d2_8 rfl rfl ?_
              refine own_iadd X (r := (4 : Int32)) (pc' := 10) d2_9 rfl (by decide) ?_
              refine own_icmp_ge X (pct := 50) (pc' := 13) d2_10 rfl (by decide) (by decide) (fun hc => absurd hc (by decide)) (fun _ => ?_)
              refine own_aloadN X (pc' := 14) d2_13 rfl rfl rfl ?_
              refine own_iload X (pc' := 16) d2_14 rfl rfl ?_
              refine own_baload X (v := c3) (pc' := 17) A rfl rfl d2_16 rfl ?_
              refine own_bipush X (v := (48 : Int32)) (pc' := 19) d2_17 rfl (by decide) ?_
              refine own_isub X (r := (c3 - (48 : Int32))) (pc' := 20) d2_19 rfl rfl ?_
              refine own_istore X (pc' := 22) (Ls' := #[.val (.ref a), .val (.int (0 : Int32)), .val (.int (4 : Int32)), .val (.int (((((((0 : Int32) * (10 : Int32)) + (c0 - (48 : Int32))) * (10 : Int32)) + (c1 - (48 : Int32))) * (10 : Int32)) + (c2 - (48 : Int32)))), .val (.int (3 : Int32)), .val (.int (c3 - (48 : Int32)))]) d2_20 rfl rfl ?_
              refine own_iload X (pc' := 24) d2_22 rfl rfl ?_
              refine own_if_lt X (pct := 34) (pc' := 27) d2_24 rfl (by decide) (by decide) (fun hc24_7 => ?_) (fun hc24_7 => ?_)
              · refine own_iconst X (v := (-1 : Int32)) (pc' := 35) d2_34 rfl (by decide) ?_
                subst hΦ
                exact own_retI X d2_35 (by decide) (by decide) (by rw [own_dc, if_neg hc24_1, if_pos hc31_2, own_dc, if_neg hc24_3, if_pos hc31_4, own_dc, if_neg hc24_5, if_pos hc31_6, own_dc, if_pos hc24_7]) rfl
              · refine own_iload X (pc' := 29) d2_27 rfl rfl ?_
                refine own_bipush X (v := (9 : Int32)) (pc' := 31) d2_29 rfl (by decide) ?_
                refine own_icmp_le X (pct := 36) (pc' := 34) d2_31 rfl (by decide) (by decide) (fun hc31_8 => ?_) (fun hc31_8 => ?_)
                · refine own_iloadN X (pc' := 37) d2_36 rfl rfl ?_
                  refine own_bipush X (v := (10 : Int32)) (pc' := 39) d2_37 rfl (by decide) ?_
                  refine own_imul X (r := ((((((((0 : Int32) * (10 : Int32)) + (c0 - (48 : Int32))) * (10 : Int32)) + (c1 - (48 : Int32))) * (10 : Int32)) + (c2 - (48 : Int32))) * (10 : Int32))) (pc' := 40) d2_39 rfl rfl ?_
                  refine own_iload X (pc' := 42) d2_40 rfl rfl ?_
                  refine own_iadd X (r := (((((((((0 : Int32) * (10 : Int32)) + (c0 - (48 : Int32))) * (10 : Int32)) + (c1 - (48 : Int32))) * (10 : Int32)) + (c2 - (48 : Int32))) * (10 : Int32)) + (c3 - (48 : Int32)))) (pc' := 43) d2_42 rfl rfl ?_
                  refine own_istoreN X (pc' := 44) (Ls' := #[.val (.ref a), .val (.int (0 : Int32)), .val (.int (4 : Int32)), .val (.int (((((((((0 : Int32) * (10 : Int32)) + (c0 - (48 : Int32))) * (10 : Int32)) + (c1 - (48 : Int32))) * (10 : Int32)) + (c2 - (48 : Int32))) * (10 : Int32)) + (c3 - (48 : Int32)))), .val (.int (3 : Int32)), .val (.int (c3 - (48 : Int32)))]) d2_43 rfl rfl ?_
                  refine own_iinc X (pc' := 47) (Ls' := #[.val (.ref a), .val (.int (0 : Int32)), .val (.int (4 : Int32)), .val (.int (((((((((0 : Int32) * (10 : Int32)) + (c0 - (48 : Int32))) * (10 : Int32)) + (c1 - (48 : Int32))) * (10 : Int32)) + (c2 - (48 : Int32))) * (10 : Int32)) + (c3 - (48 : Int32)))), .val (.int (4 : Int32)), .val (.int (c3 - (48 : Int32)))]) (w := (4 : Int32)) d2_44 rfl rfl (by decide) rfl ?_
                  refine own_goto X (pc' := 5) d2_47 (by decide) (by decide) ?_
                  refine own_iload X (pc' := 7) d2_5 rfl rfl ?_
                  refine own_iloadN X (pc' := 8) d2_7 rfl rfl ?_
                  refine own_iloadN X (pc' := 9) d2_8 rfl rfl ?_
                  refine own_iadd X (r := (4 : Int32)) (pc' := 10) d2_9 rfl (by decide) ?_
                  refine own_icmp_ge X (pct := 50) (pc' := 13) d2_10 rfl (by decide) (by decide) (fun _ => ?_) (fun hc => absurd hc (by decide))
                  refine own_iloadN X (pc' := 51) d2_50 rfl rfl ?_
                  subst hΦ
                  exact own_retI X d2_51 (by decide) (by decide) (by rw [own_dc, if_neg hc24_1, if_pos hc31_2, own_dc, if_neg hc24_3, if_pos hc31_4, own_dc, if_neg hc24_5, if_pos hc31_6, own_dc, if_neg hc24_7, if_pos hc31_8, own_dn]) rfl
                · refine own_iconst X (v := (-1 : Int32)) (pc' := 35) d2_34 rfl (by decide) ?_
                  subst hΦ
                  exact own_retI X d2_35 (by decide) (by decide) (by rw [own_dc, if_neg hc24_1, if_pos hc31_2, own_dc, if_neg hc24_3, if_pos hc31_4, own_dc, if_neg hc24_5, if_pos hc31_6, own_dc, if_neg hc24_7, if_neg (fun z => z hc31_8)]) rfl
            · refine own_iconst X (v := (-1 : Int32)) (pc' := 35) d2_34 rfl (by decide) ?_
              subst hΦ
              exact own_retI X d2_35 (by decide) (by decide) (by rw [own_dc, if_neg hc24_1, if_pos hc31_2, own_dc, if_neg hc24_3, if_pos hc31_4, own_dc, if_neg hc24_5, if_neg (fun z => z hc31_6)]) rfl
        · refine own_iconst X (v := (-1 : Int32)) (pc' := 35) d2_34 rfl (by decide) ?_
          subst hΦ
          exact own_retI X d2_35 (by decide) (by decide) (by rw [own_dc, if_neg hc24_1, if_pos hc31_2, own_dc, if_neg hc24_3, if_neg (fun z => z hc31_4)]) rfl
    · refine own_iconst X (v := (-1 : Int32)) (pc' := 35) d2_34 rfl (by decide) ?_
      subst hΦ
      exact own_retI X d2_35 (by decide) (by decide) (by rw [own_dc, if_neg hc24_1, if_neg (fun z => z hc31_2)]) rfl
theorem pn_rm2_14 : plainFor (⟨"com/example/vegeu/vegeu/model/Iso2709", "digits", "([BII)I"⟩ : MethodName) = true := plainFor_of_name (by first | (simp [plainName, overriddenIn]; done) | decide +kernel)
theorem ef_rm2_14 (m : MethodId) (x0 : Addr) (x1 : Int32) (x2 : Int32) : entryFrame m #[(.ref x0), (.int x1), (.int x2)] 6 = mkF m 0 #[.val (.ref x0), .val (.int x1), .val (.int x2), .unset, .unset, .unset] [] := by first | (simp [entryFrame, mkF, argsToLocals, Value.category]; done) | rfl
set_option maxRecDepth 65536 in
set_option maxHeartbeats 4000000 in
theorem rm2_14 (l : Launch) (Z : State) (a0 : Array Value) (hw : ∀ d ∈ tables_1, d.before a0 Z = true) (n0 : Nat) (a : Addr) (h0 : Heap) (hn0 : n0 ≤ h0.size) (c0 c1 c2 c3 c4 : Int32) (A : own_A Z h0 a .byte [c0, c1, c2, c3, c4]) :
    own_Met l (⟨"com/example/vegeu/vegeu/model/Iso2709", "digits", "([BII)I"⟩ : MethodName) prog_52_method_5_code 6 (some .int) ({ frames := 0, cells := 0, slots := 0, locals := 0 } : Room) Z n0 #[(.ref a), (.int (1 : Int32)), (.int (4 : Int32))] h0 (some (.int (own_dig 0 [c1, c2, c3, c4]))) (fun h' => h' = h0) := by
  refine own_met pn_rm2_14 hn0 ?_
  intro p e s m below meth c T X
  refine own_cast (ef_rm2_14 m a (1 : Int32) (4 : Int32)) ?_
  generalize hΦ : own_Q n0 below s _ _ _ = Φ
  refine own_iconst X (v := (0 : Int32)) (pc' := 1) d2_0 rfl (by decide) ?_
  refine own_istoreN X (pc' := 2) (Ls' := #[.val (.ref a), .val (.int (1 : Int32)), .val (.int (4 : Int32)), .val (.int (0 : Int32)), .unset, .unset]) d2_1 rfl rfl ?_
  refine own_iloadN X (pc' := 3) d2_2 rfl rfl ?_
  refine own_istore X (pc' := 5) (Ls' := #[.val (.ref a), .val (.int (1 : Int32)), .val (.int (4 : Int32)), .val (.int (0 : Int32)), .val (.int (1 : Int32)), .unset]) d2_3 rfl rfl ?_
  refine own_iload X (pc' := 7) d2_5 rfl rfl ?_
  refine own_iloadN X (pc' := 8) d2_7 rfl rfl ?_
  refine own_iloadN X (pc' := 9) d2_8 rfl rfl ?_
  refine own_iadd X (r := (5 : Int32)) (pc' := 10) d2_9 rfl (by decide) ?_
  refine own_icmp_ge X (pct := 50) (pc' := 13) d2_10 rfl (by decide) (by decide) (fun hc => absurd hc (by decide)) (fun _ => ?_)
  refine own_aloadN X (pc' := 14) d2_13 rfl rfl rfl ?_
  refine own_iload X (pc' := 16) d2_14 rfl rfl ?_
  refine own_baload X (v := c1) (pc' := 17) A rfl rfl d2_16 rfl ?_
  refine own_bipush X (v := (48 : Int32)) (pc' := 19) d2_17 rfl (by decide) ?_
  refine own_isub X (r := (c1 - (48 : Int32))) (pc' := 20) d2_19 rfl rfl ?_
  refine own_istore X (pc' := 22) (Ls' := #[.val (.ref a), .val (.int (1 : Int32)), .val (.int (4 : Int32)), .val (.int (0 : Int32)), .val (.int (1 : Int32)), .val (.int (c1 - (48 : Int32)))]) d2_20 rfl rfl ?_
  refine own_iload X (pc' := 24) d2_22 rfl rfl ?_
  refine own_if_lt X (pct := 34) (pc' := 27) d2_24 rfl (by decide) (by decide) (fun hc24_1 => ?_) (fun hc24_1 => ?_)
  · refine own_iconst X (v := (-1 : Int32)) (pc' := 35) d2_34 rfl (by decide) ?_
    subst hΦ
    exact own_retI X d2_35 (by decide) (by decide) (by rw [own_dc, if_pos hc24_1]) rfl
  · refine own_iload X (pc' := 29) d2_27 rfl rfl ?_
    refine own_bipush X (v := (9 : Int32)) (pc' := 31) d2_29 rfl (by decide) ?_
    refine own_icmp_le X (pct := 36) (pc' := 34) d2_31 rfl (by decide) (by decide) (fun hc31_2 => ?_) (fun hc31_2 => ?_)
    · refine own_iloadN X (pc' := 37) d2_36 rfl rfl ?_
      refine own_bipush X (v := (10 : Int32)) (pc' := 39) d2_37 rfl (by decide) ?_
      refine own_imul X (r := ((0 : Int32) * (10 : Int32))) (pc' := 40) d2_39 rfl rfl ?_
      refine own_iload X (pc' := 42) d2_40 rfl rfl ?_
      refine own_iadd X (r := (((0 : Int32) * (10 : Int32)) + (c1 - (48 : Int32)))) (pc' := 43) d2_42 rfl rfl ?_
      refine own_istoreN X (pc' := 44) (Ls' := #[.val (.ref a), .val (.int (1 : Int32)), .val (.int (4 : Int32)), .val (.int (((0 : Int32) * (10 : Int32)) + (c1 - (48 : Int32)))), .val (.int (1 : Int32)), .val (.int (c1 - (48 : Int32)))]) d2_43 rfl rfl ?_
      refine own_iinc X (pc' := 47) (Ls' := #[.val (.ref a), .val (.int (1 : Int32)), .val (.int (4 : Int32)), .val (.int (((0 : Int32) * (10 : Int32)) + (c1 - (48 : Int32)))), .val (.int (2 : Int32)), .val (.int (c1 - (48 : Int32)))]) (w := (2 : Int32)) d2_44 rfl rfl (by decide) rfl ?_
      refine own_goto X (pc' := 5) d2_47 (by decide) (by decide) ?_
      refine own_iload X (pc' := 7) d2_5 rfl rfl ?_
      refine own_iloadN X (pc' := 8) d2_7 rfl rfl ?_
      refine own_iloadN X (pc' := 9) d2_8 rfl rfl ?_
      refine own_iadd X (r := (5 : Int32)) (pc' := 10) d2_9 rfl (by decide) ?_
      refine own_icmp_ge X (pct := 50) (pc' := 13) d2_10 rfl (by decide) (by decide) (fun hc => absurd hc (by decide)) (fun _ => ?_)
      refine own_aloadN X (pc' := 14) d2_13 rfl rfl rfl ?_
      refine own_iload X (pc' := 16) d2_14 rfl rfl ?_
      refine own_baload X (v := c2) (pc' := 17) A rfl rfl d2_16 rfl ?_
      refine own_bipush X (v := (48 : Int32)) (pc' := 19) d2_17 rfl (by decide) ?_
      refine own_isub X (r := (c2 - (48 : Int32))) (pc' := 20) d2_19 rfl rfl ?_
      refine own_istore X (pc' := 22) (Ls' := #[.val (.ref a), .val (.int (1 : Int32)), .val (.int (4 : Int32)), .val (.int (((0 : Int32) * (10 : Int32)) + (c1 - (48 : Int32)))), .val (.int (2 : Int32)), .val (.int (c2 - (48 : Int32)))]) d2_20 rfl rfl ?_
      refine own_iload X (pc' := 24) d2_22 rfl rfl ?_
      refine own_if_lt X (pct := 34) (pc' := 27) d2_24 rfl (by decide) (by decide) (fun hc24_3 => ?_) (fun hc24_3 => ?_)
      · refine own_iconst X (v := (-1 : Int32)) (pc' := 35) d2_34 rfl (by decide) ?_
        subst hΦ
        exact own_retI X d2_35 (by decide) (by decide) (by rw [own_dc, if_neg hc24_1, if_pos hc31_2, own_dc, if_pos hc24_3]) rfl
      · refine own_iload X (pc' := 29) d2_27 rfl rfl ?_
        refine own_bipush X (v := (9 : Int32)) (pc' := 31) d2_29 rfl (by decide) ?_
        refine own_icmp_le X (pct := 36) (pc' := 34) d2_31 rfl (by decide) (by decide) (fun hc31_4 => ?_) (fun hc31_4 => ?_)
        · refine own_iloadN X (pc' := 37) d2_36 rfl rfl ?_
          refine own_bipush X (v := (10 : Int32)) (pc' := 39) d2_37 rfl (by decide) ?_
          refine own_imul X (r := ((((0 : Int32) * (10 : Int32)) + (c1 - (48 : Int32))) * (10 : Int32))) (pc' := 40) d2_39 rfl rfl ?_
          refine own_iload X (pc' := 42) d2_40 rfl rfl ?_
          refine own_iadd X (r := (((((0 : Int32) * (10 : Int32)) + (c1 - (48 : Int32))) * (10 : Int32)) + (c2 - (48 : Int32)))) (pc' := 43) d2_42 rfl rfl ?_
          refine own_istoreN X (pc' := 44) (Ls' := #[.val (.ref a), .val (.int (1 : Int32)), .val (.int (4 : Int32)), .val (.int (((((0 : Int32) * (10 : Int32)) + (c1 - (48 : Int32))) * (10 : Int32)) + (c2 - (48 : Int32)))), .val (.int (2 : Int32)), .val (.int (c2 - (48 : Int32)))]) d2_43 rfl rfl ?_
          refine own_iinc X (pc' := 47) (Ls' := #[.val (.ref a), .val (.int (1 : Int32)), .val (.int (4 : Int32)), .val (.int (((((0 : Int32) * (10 : Int32)) + (c1 - (48 : Int32))) * (10 : Int32)) + (c2 - (48 : Int32)))), .val (.int (3 : Int32)), .val (.int (c2 - (48 : Int32)))]) (w := (3 : Int32)) d2_44 rfl rfl (by decide) rfl ?_
          refine own_goto X (pc' := 5) d2_47 (by decide) (by decide) ?_
          refine own_iload X (pc' := 7) d2_5 rfl rfl ?_
          refine own_iloadN X (pc' := 8) d2_7 rfl rfl ?_
          refine own_iloadN X (pc' := 9) d2_8 rfl rfl ?_
          refine own_iadd X (r := (5 : Int32)) (pc' := 10) d2_9 rfl (by decide) ?_
          refine own_icmp_ge X (pct := 50) (pc' := 13) d2_10 rfl (by decide) (by decide) (fun hc => absurd hc (by decide)) (fun _ => ?_)
          refine own_aloadN X (pc' := 14) d2_13 rfl rfl rfl ?_
          refine own_iload X (pc' := 16) d2_14 rfl rfl ?_
          refine own_baload X (v := c3) (pc' := 17) A rfl rfl d2_16 rfl ?_
          refine own_bipush X (v := (48 : Int32)) (pc' := 19) d2_17 rfl (by decide) ?_
          refine own_isub X (r := (c3 - (48 : Int32))) (pc' := 20) d2_19 rfl rfl ?_
          refine own_istore X (pc' := 22) (Ls' := #[.val (.ref a), .val (.int (1 : Int32)), .val (.int (4 : Int32)), .val (.int (((((0 : Int32) * (10 : Int32)) + (c1 - (48 : Int32))) * (10 : Int32)) + (c2 - (48 : Int32)))), .val (.int (3 : Int32)), .val (.int (c3 - (48 : Int32)))]) d2_20 rfl rfl ?_
          refine own_iload X (pc' := 24) d2_22 rfl rfl ?_
          refine own_if_lt X (pct := 34) (pc' := 27) d2_24 rfl (by decide) (by decide) (fun hc24_5 => ?_) (fun hc24_5 => ?_)
          · refine own_iconst X (v := (-1 : Int32)) (pc' := 35) d2_34 rfl (by decide) ?_
            subst hΦ
            exact own_retI X d2_35 (by decide) (by decide) (by rw [own_dc, if_neg hc24_1, if_pos hc31_2, own_dc, if_neg hc24_3, if_pos hc31_4, own_dc, if_pos hc24_5]) rfl
          · refine own_iload X (pc' := 29) d2_27 rfl rfl ?_
            refine own_bipush X (v := (9 : Int32)) (pc' := 31) d2_29 rfl (by decide) ?_
            refine own_icmp_le X (pct := 36) (pc' := 34) d2_31 rfl (by decide) (by decide) (fun hc31_6 => ?_) (fun hc31_6 => ?_)
            · refine own_iloadN X (pc' := 37) d2_36 rfl rfl ?_
              refine own_bipush X (v := (10 : Int32)) (pc' := 39) d2_37 rfl (by decide) ?_
              refine own_imul X (r := ((((((0 : Int32) * (10 : Int32)) + (c1 - (48 : Int32))) * (10 : Int32)) + (c2 - (48 : Int32))) * (10 : Int32))) (pc' := 40) d2_39 rfl rfl ?_
              refine own_iload X (pc' := 42) d2_40 rfl rfl ?_
              refine own_iadd X (r := (((((((0 : Int32) * (10 : Int32)) + (c1 - (48 : Int32))) * (10 : Int32)) + (c2 - (48 : Int32))) * (10 : Int32)) + (c3 - (48 : Int32)))) (pc' := 43) d2_42 rfl rfl ?_
              refine own_istoreN X (pc' := 44) (Ls' := #[.val (.ref a), .val (.int (1 : Int32)), .val (.int (4 : Int32)), .val (.int (((((((0 : Int32) * (10 : Int32)) + (c1 - (48 : Int32))) * (10 : Int32)) + (c2 - (48 : Int32))) * (10 : Int32)) + (c3 - (48 : Int32)))), .val (.int (3 : Int32)), .val (.int (c3 - (48 : Int32)))]) d2_43 rfl rfl ?_
              refine own_iinc X (pc' := 47) (Ls' := #[.val (.ref a), .val (.int (1 : Int32)), .val (.int (4 : Int32)), .val (.int (((((((0 : Int32) * (10 : Int32)) + (c1 - (48 : Int32))) * (10 : Int32)) + (c2 - (48 : Int32))) * (10 : Int32)) + (c3 - (48 : Int32)))), .val (.int (4 : Int32)), .val (.int (c3 - (48 : Int32)))]) (w := (4 : Int32)) d2_44 rfl rfl (by decide) rfl ?_
              refine own_goto X (pc' := 5) d2_47 (by decide) (by decide) ?_
              refine own_iload X (pc' := 7) d2_5 rfl rfl ?_
              refine own_iloadN X (pc' := 8) d2_7 rfl rfl ?_
              refine own_iloadN X (pc' := 9) d2_8 rfl rfl ?_
              refine own_iadd X (r := (5 : Int32)) (pc' := 10) d2_9 rfl (by decide) ?_
              refine own_icmp_ge X (pct := 50) (pc' := 13) d2_10 rfl (by decide) (by decide) (fun hc => absurd hc (by decide)) (fun _ => ?_)
              refine own_aloadN X (pc' := 14) d2_13 rfl rfl rfl ?_
              refine own_iload X (pc' := 16) d2_14 rfl rfl ?_
              refine own_baload X (v := c4) (pc' := 17) A rfl rfl d2_16 rfl ?_
              refine own_bipush X (v := (48 : Int32)) (pc' := 19) d2_17 rfl (by decide) ?_
              refine own_isub X (r := (c4 - (48 : Int32))) (pc' := 20) d2_19 rfl rfl ?_
              refine own_istore X (pc' := 22) (Ls' := #[.val (.ref a), .val (.int (1 : Int32)), .val (.int (4 : Int32)), .val (.int (((((((0 : Int32) * (10 : Int32)) + (c1 - (48 : Int32))) * (10 : Int32)) + (c2 - (48 : Int32))) * (10 : Int32)) + (c3 - (48 : Int32)))), .val (.int (4 : Int32)), .val (.int (c4 - (48 : Int32)))]) d2_20 rfl rfl ?_
              refine own_iload X (pc' := 24) d2_22 rfl rfl ?_
              refine own_if_lt X (pct := 34) (pc' := 27) d2_24 rfl (by decide) (by decide) (fun hc24_7 => ?_) (fun hc24_7 => ?_)
              · refine own_iconst X (v := (-1 : Int32)) (pc' := 35) d2_34 rfl (by decide) ?_
                subst hΦ
                exact own_retI X d2_35 (by decide) (by decide) (by rw [own_dc, if_neg hc24_1, if_pos hc31_2, own_dc, if_neg hc24_3, if_pos hc31_4, own_dc, if_neg hc24_5, if_pos hc31_6, own_dc, if_pos hc24_7]) rfl
              · refine own_iload X (pc' := 29) d2_27 rfl rfl ?_
                refine own_bipush X (v := (9 : Int32)) (pc' := 31) d2_29 rfl (by decide) ?_
                refine own_icmp_le X (pct := 36) (pc' := 34) d2_31 rfl (by decide) (by decide) (fun hc31_8 => ?_) (fun hc31_8 => ?_)
                · refine own_iloadN X (pc' := 37) d2_36 rfl rfl ?_
                  refine own_bipush X (v := (10 : Int32)) (pc' := 39) d2_37 rfl (by decide) ?_
                  refine own_imul X (r := ((((((((0 : Int32) * (10 : Int32)) + (c1 - (48 : Int32))) * (10 : Int32)) + (c2 - (48 : Int32))) * (10 : Int32)) + (c3 - (48 : Int32))) * (10 : Int32))) (pc' := 40) d2_39 rfl rfl ?_
                  refine own_iload X (pc' := 42) d2_40 rfl rfl ?_
                  refine own_iadd X (r := (((((((((0 : Int32) * (10 : Int32)) + (c1 - (48 : Int32))) * (10 : Int32)) + (c2 - (48 : Int32))) * (10 : Int32)) + (c3 - (48 : Int32))) * (10 : Int32)) + (c4 - (48 : Int32)))) (pc' := 43) d2_42 rfl rfl ?_
                  refine own_istoreN X (pc' := 44) (Ls' := #[.val (.ref a), .val (.int (1 : Int32)), .val (.int (4 : Int32)), .val (.int (((((((((0 : Int32) * (10 : Int32)) + (c1 - (48 : Int32))) * (10 : Int32)) + (c2 - (48 : Int32))) * (10 : Int32)) + (c3 - (48 : Int32))) * (10 : Int32)) + (c4 - (48 : Int32)))), .val (.int (4 : Int32)), .val (.int (c4 - (48 : Int32)))]) d2_43 rfl rfl ?_
                  refine own_iinc X (pc' := 47) (Ls' := #[.val (.ref a), .val (.int (1 : Int32)), .val (.int (4 : Int32)), .val (.int (((((((((0 : Int32) * (10 : Int32)) + (c1 - (48 : Int32))) * (10 : Int32)) + (c2 - (48 : Int32))) * (10 : Int32)) + (c3 - (48 : Int32))) * (10 : Int32)) + (c4 - (48 : Int32)))), .val (.int (5 : Int32)), .val (.int (c4 - (48 : Int32)))]) (w := (5 : Int32)) d2_44 rfl rfl (by decide) rfl ?_
                  refine own_goto X (pc' := 5) d2_47 (by decide) (by decide) ?_
                  refine own_iload X (pc' := 7) d2_5 rfl rfl ?_
                  refine own_iloadN X (pc' := 8) d2_7 rfl rfl ?_
                  refine own_iloadN X (pc' := 9) d2_8 rfl rfl ?_
                  refine own_iadd X (r := (5 : Int32)) (pc' := 10) d2_9 rfl (by decide) ?_
                  refine own_icmp_ge X (pct := 50) (pc' := 13) d2_10 rfl (by decide) (by decide) (fun _ => ?_) (fun hc => absurd hc (by decide))
                  refine own_iloadN X (pc' := 51) d2_50 rfl rfl ?_
                  subst hΦ
                  exact own_retI X d2_51 (by decide) (by decide) (by rw [own_dc, if_neg hc24_1, if_pos hc31_2, own_dc, if_neg hc24_3, if_pos hc31_4, own_dc, if_neg hc24_5, if_pos hc31_6, own_dc, if_neg hc24_7, if_pos hc31_8, own_dn]) rfl
                · refine own_iconst X (v := (-1 : Int32)) (pc' := 35) d2_34 rfl (by decide) ?_
                  subst hΦ
                  exact own_retI X d2_35 (by decide) (by decide) (by rw [own_dc, if_neg hc24_1, if_pos hc31_2, own_dc, if_neg hc24_3, if_pos hc31_4, own_dc, if_neg hc24_5, if_pos hc31_6, own_dc, if_neg hc24_7, if_neg (fun z => z hc31_8)]) rfl
            · refine own_iconst X (v := (-1 : Int32)) (pc' := 35) d2_34 rfl (by decide) ?_
              subst hΦ
              exact own_retI X d2_35 (by decide) (by decide) (by rw [own_dc, if_neg hc24_1, if_pos hc31_2, own_dc, if_neg hc24_3, if_pos hc31_4, own_dc, if_neg hc24_5, if_neg (fun z => z hc31_6)]) rfl
        · refine own_iconst X (v := (-1 : Int32)) (pc' := 35) d2_34 rfl (by decide) ?_
          subst hΦ
          exact own_retI X d2_35 (by decide) (by decide) (by rw [own_dc, if_neg hc24_1, if_pos hc31_2, own_dc, if_neg hc24_3, if_neg (fun z => z hc31_4)]) rfl
    · refine own_iconst X (v := (-1 : Int32)) (pc' := 35) d2_34 rfl (by decide) ?_
      subst hΦ
      exact own_retI X d2_35 (by decide) (by decide) (by rw [own_dc, if_neg hc24_1, if_neg (fun z => z hc31_2)]) rfl
theorem pn_rm2_05 : plainFor (⟨"com/example/vegeu/vegeu/model/Iso2709", "digits", "([BII)I"⟩ : MethodName) = true := plainFor_of_name (by first | (simp [plainName, overriddenIn]; done) | decide +kernel)
theorem ef_rm2_05 (m : MethodId) (x0 : Addr) (x1 : Int32) (x2 : Int32) : entryFrame m #[(.ref x0), (.int x1), (.int x2)] 6 = mkF m 0 #[.val (.ref x0), .val (.int x1), .val (.int x2), .unset, .unset, .unset] [] := by first | (simp [entryFrame, mkF, argsToLocals, Value.category]; done) | rfl
set_option maxRecDepth 65536 in
set_option maxHeartbeats 4000000 in
theorem rm2_05 (l : Launch) (Z : State) (a0 : Array Value) (hw : ∀ d ∈ tables_1, d.before a0 Z = true) (n0 : Nat) (a : Addr) (h0 : Heap) (hn0 : n0 ≤ h0.size) (c0 c1 c2 c3 c4 : Int32) (A : own_A Z h0 a .byte [c0, c1, c2, c3, c4]) :
    own_Met l (⟨"com/example/vegeu/vegeu/model/Iso2709", "digits", "([BII)I"⟩ : MethodName) prog_52_method_5_code 6 (some .int) ({ frames := 0, cells := 0, slots := 0, locals := 0 } : Room) Z n0 #[(.ref a), (.int (0 : Int32)), (.int (5 : Int32))] h0 (some (.int (own_dig 0 [c0, c1, c2, c3, c4]))) (fun h' => h' = h0) := by
  refine own_met pn_rm2_05 hn0 ?_
  intro p e s m below meth c T X
  refine own_cast (ef_rm2_05 m a (0 : Int32) (5 : Int32)) ?_
  generalize hΦ : own_Q n0 below s _ _ _ = Φ
  refine own_iconst X (v := (0 : Int32)) (pc' := 1) d2_0 rfl (by decide) ?_
  refine own_istoreN X (pc' := 2) (Ls' := #[.val (.ref a), .val (.int (0 : Int32)), .val (.int (5 : Int32)), .val (.int (0 : Int32)), .unset, .unset]) d2_1 rfl rfl ?_
  refine own_iloadN X (pc' := 3) d2_2 rfl rfl ?_
  refine own_istore X (pc' := 5) (Ls' := #[.val (.ref a), .val (.int (0 : Int32)), .val (.int (5 : Int32)), .val (.int (0 : Int32)), .val (.int (0 : Int32)), .unset]) d2_3 rfl rfl ?_
  refine own_iload X (pc' := 7) d2_5 rfl rfl ?_
  refine own_iloadN X (pc' := 8) d2_7 rfl rfl ?_
  refine own_iloadN X (pc' := 9) d2_8 rfl rfl ?_
  refine own_iadd X (r := (5 : Int32)) (pc' := 10) d2_9 rfl (by decide) ?_
  refine own_icmp_ge X (pct := 50) (pc' := 13) d2_10 rfl (by decide) (by decide) (fun hc => absurd hc (by decide)) (fun _ => ?_)
  refine own_aloadN X (pc' := 14) d2_13 rfl rfl rfl ?_
  refine own_iload X (pc' := 16) d2_14 rfl rfl ?_
  refine own_baload X (v := c0) (pc' := 17) A rfl rfl d2_16 rfl ?_
  refine own_bipush X (v := (48 : Int32)) (pc' := 19) d2_17 rfl (by decide) ?_
  refine own_isub X (r := (c0 - (48 : Int32))) (pc' := 20) d2_19 rfl rfl ?_
  refine own_istore X (pc' := 22) (Ls' := #[.val (.ref a), .val (.int (0 : Int32)), .val (.int (5 : Int32)), .val (.int (0 : Int32)), .val (.int (0 : Int32)), .val (.int (c0 - (48 : Int32)))]) d2_20 rfl rfl ?_
  refine own_iload X (pc' := 24) d2_22 rfl rfl ?_
  refine own_if_lt X (pct := 34) (pc' := 27) d2_24 rfl (by decide) (by decide) (fun hc24_1 => ?_) (fun hc24_1 => ?_)
  · refine own_iconst X (v := (-1 : Int32)) (pc' := 35) d2_34 rfl (by decide) ?_
    subst hΦ
    exact own_retI X d2_35 (by decide) (by decide) (by rw [own_dc, if_pos hc24_1]) rfl
  · refine own_iload X (pc' := 29) d2_27 rfl rfl ?_
    refine own_bipush X (v := (9 : Int32)) (pc' := 31) d2_29 rfl (by decide) ?_
    refine own_icmp_le X (pct := 36) (pc' := 34) d2_31 rfl (by decide) (by decide) (fun hc31_2 => ?_) (fun hc31_2 => ?_)
    · refine own_iloadN X (pc' := 37) d2_36 rfl rfl ?_
      refine own_bipush X (v := (10 : Int32)) (pc' := 39) d2_37 rfl (by decide) ?_
      refine own_imul X (r := ((0 : Int32) * (10 : Int32))) (pc' := 40) d2_39 rfl rfl ?_
      refine own_iload X (pc' := 42) d2_40 rfl rfl ?_
      refine own_iadd X (r := (((0 : Int32) * (10 : Int32)) + (c0 - (48 : Int32)))) (pc' := 43) d2_42 rfl rfl ?_
      refine own_istoreN X (pc' := 44) (Ls' := #[.val (.ref a), .val (.int (0 : Int32)), .val (.int (5 : Int32)), .val (.int (((0 : Int32) * (10 : Int32)) + (c0 - (48 : Int32)))), .val (.int (0 : Int32)), .val (.int (c0 - (48 : Int32)))]) d2_43 rfl rfl ?_
      refine own_iinc X (pc' := 47) (Ls' := #[.val (.ref a), .val (.int (0 : Int32)), .val (.int (5 : Int32)), .val (.int (((0 : Int32) * (10 : Int32)) + (c0 - (48 : Int32)))), .val (.int (1 : Int32)), .val (.int (c0 - (48 : Int32)))]) (w := (1 : Int32)) d2_44 rfl rfl (by decide) rfl ?_
      refine own_goto X (pc' := 5) d2_47 (by decide) (by decide) ?_
      refine own_iload X (pc' := 7) d2_5 rfl rfl ?_
      refine own_iloadN X (pc' := 8) d2_7 rfl rfl ?_
      refine own_iloadN X (pc' := 9) d2_8 rfl rfl ?_
      refine own_iadd X (r := (5 : Int32)) (pc' := 10) d2_9 rfl (by decide) ?_
      refine own_icmp_ge X (pct := 50) (pc' := 13) d2_10 rfl (by decide) (by decide) (fun hc => absurd hc (by decide)) (fun _ => ?_)
      refine own_aloadN X (pc' := 14) d2_13 rfl rfl rfl ?_
      refine own_iload X (pc' := 16) d2_14 rfl rfl ?_
      refine own_baload X (v := c1) (pc' := 17) A rfl rfl d2_16 rfl ?_
      refine own_bipush X (v := (48 : Int32)) (pc' := 19) d2_17 rfl (by decide) ?_
      refine own_isub X (r := (c1 - (48 : Int32))) (pc' := 20) d2_19 rfl rfl ?_
      refine own_istore X (pc' := 22) (Ls' := #[.val (.ref a), .val (.int (0 : Int32)), .val (.int (5 : Int32)), .val (.int (((0 : Int32) * (10 : Int32)) + (c0 - (48 : Int32)))), .val (.int (1 : Int32)), .val (.int (c1 - (48 : Int32)))]) d2_20 rfl rfl ?_
      refine own_iload X (pc' := 24) d2_22 rfl rfl ?_
      refine own_if_lt X (pct := 34) (pc' := 27) d2_24 rfl (by decide) (by decide) (fun hc24_3 => ?_) (fun hc24_3 => ?_)
      · refine own_iconst X (v := (-1 : Int32)) (pc' := 35) d2_34 rfl (by decide) ?_
        subst hΦ
        exact own_retI X d2_35 (by decide) (by decide) (by rw [own_dc, if_neg hc24_1, if_pos hc31_2, own_dc, if_pos hc24_3]) rfl
      · refine own_iload X (pc' := 29) d2_27 rfl rfl ?_
        refine own_bipush X (v := (9 : Int32)) (pc' := 31) d2_29 rfl (by decide) ?_
        refine own_icmp_le X (pct := 36) (pc' := 34) d2_31 rfl (by decide) (by decide) (fun hc31_4 => ?_) (fun hc31_4 => ?_)
        · refine own_iloadN X (pc' := 37) d2_36 rfl rfl ?_
          refine own_bipush X (v := (10 : Int32)) (pc' := 39) d2_37 rfl (by decide) ?_
          refine own_imul X (r := ((((0 : Int32) * (10 : Int32)) + (c0 - (48 : Int32))) * (10 : Int32))) (pc' := 40) d2_39 rfl rfl ?_
          refine own_iload X (pc' := 42) d2_40 rfl rfl ?_
          refine own_iadd X (r := (((((0 : Int32) * (10 : Int32)) + (c0 - (48 : Int32))) * (10 : Int32)) + (c1 - (48 : Int32)))) (pc' := 43) d2_42 rfl rfl ?_
          refine own_istoreN X (pc' := 44) (Ls' := #[.val (.ref a), .val (.int (0 : Int32)), .val (.int (5 : Int32)), .val (.int (((((0 : Int32) * (10 : Int32)) + (c0 - (48 : Int32))) * (10 : Int32)) + (c1 - (48 : Int32)))), .val (.int (1 : Int32)), .val (.int (c1 - (48 : Int32)))]) d2_43 rfl rfl ?_
          refine own_iinc X (pc' := 47) (Ls' := #[.val (.ref a), .val (.int (0 : Int32)), .val (.int (5 : Int32)), .val (.int (((((0 : Int32) * (10 : Int32)) + (c0 - (48 : Int32))) * (10 : Int32)) + (c1 - (48 : Int32)))), .val (.int (2 : Int32)), .val (.int (c1 - (48 : Int32)))]) (w := (2 : Int32)) d2_44 rfl rfl (by decide) rfl ?_
          refine own_goto X (pc' := 5) d2_47 (by decide) (by decide) ?_
          refine own_iload X (pc' := 7) d2_5 rfl rfl ?_
          refine own_iloadN X (pc' := 8) d2_7 rfl rfl ?_
          refine own_iloadN X (pc' := 9) d2_8 rfl rfl ?_
          refine own_iadd X (r := (5 : Int32)) (pc' := 10) d2_9 rfl (by decide) ?_
          refine own_icmp_ge X (pct := 50) (pc' := 13) d2_10 rfl (by decide) (by decide) (fun hc => absurd hc (by decide)) (fun _ => ?_)
          refine own_aloadN X (pc' := 14) d2_13 rfl rfl rfl ?_
          refine own_iload X (pc' := 16) d2_14 rfl rfl ?_
          refine own_baload X (v := c2) (pc' := 17) A rfl rfl d2_16 rfl ?_
          refine own_bipush X (v := (48 : Int32)) (pc' := 19) d2_17 rfl (by decide) ?_
          refine own_isub X (r := (c2 - (48 : Int32))) (pc' := 20) d2_19 rfl rfl ?_
          refine own_istore X (pc' := 22) (Ls' := #[.val (.ref a), .val (.int (0 : Int32)), .val (.int (5 : Int32)), .val (.int (((((0 : Int32) * (10 : Int32)) + (c0 - (48 : Int32))) * (10 : Int32)) + (c1 - (48 : Int32)))), .val (.int (2 : Int32)), .val (.int (c2 - (48 : Int32)))]) d2_20 rfl rfl ?_
          refine own_iload X (pc' := 24) d2_22 rfl rfl ?_
          refine own_if_lt X (pct := 34) (pc' := 27) d2_24 rfl (by decide) (by decide) (fun hc24_5 => ?_) (fun hc24_5 => ?_)
          · refine own_iconst X (v := (-1 : Int32)) (pc' := 35) d2_34 rfl (by decide) ?_
            subst hΦ
            exact own_retI X d2_35 (by decide) (by decide) (by rw [own_dc, if_neg hc24_1, if_pos hc31_2, own_dc, if_neg hc24_3, if_pos hc31_4, own_dc, if_pos hc24_5]) rfl
          · refine own_iload X (pc' := 29) d2_27 rfl rfl ?_
            refine own_bipush X (v := (9 : Int32)) (pc' := 31) d2_29 rfl (by decide) ?_
            refine own_icmp_le X (pct := 36) (pc' := 34) d2_31 rfl (by decide) (by decide) (fun hc31_6 => ?_) (fun hc31_6 => ?_)
            · refine own_iloadN X (pc' := 37) d2_36 rfl rfl ?_
              refine own_bipush X (v := (10 : Int32)) (pc' := 39) d2_37 rfl (by decide) ?_
              refine own_imul X (r := ((((((0 : Int32) * (10 : Int32)) + (c0 - (48 : Int32))) * (10 : Int32)) + (c1 - (48 : Int32))) * (10 : Int32))) (pc' := 40) d2_39 rfl rfl ?_
              refine own_iload X (pc' := 42) d2_40 rfl rfl ?_
              refine own_iadd X (r := (((((((0 : Int32) * (10 : Int32)) + (c0 - (48 : Int32))) * (10 : Int32)) + (c1 - (48 : Int32))) * (10 : Int32)) + (c2 - (48 : Int32)))) (pc' := 43) d2_42 rfl rfl ?_
              refine own_istoreN X (pc' := 44) (Ls' := #[.val (.ref a), .val (.int (0 : Int32)), .val (.int (5 : Int32)), .val (.int (((((((0 : Int32) * (10 : Int32)) + (c0 - (48 : Int32))) * (10 : Int32)) + (c1 - (48 : Int32))) * (10 : Int32)) + (c2 - (48 : Int32)))), .val (.int (2 : Int32)), .val (.int (c2 - (48 : Int32)))]) d2_43 rfl rfl ?_
              refine own_iinc X (pc' := 47) (Ls' := #[.val (.ref a), .val (.int (0 : Int32)), .val (.int (5 : Int32)), .val (.int (((((((0 : Int32) * (10 : Int32)) + (c0 - (48 : Int32))) * (10 : Int32)) + (c1 - (48 : Int32))) * (10 : Int32)) + (c2 - (48 : Int32)))), .val (.int (3 : Int32)), .val (.int (c2 - (48 : Int32)))]) (w := (3 : Int32)) d2_44 rfl rfl (by decide) rfl ?_
              refine own_goto X (pc' := 5) d2_47 (by decide) (by decide) ?_
              refine own_iload X (pc' := 7) d2_5 rfl rfl ?_
              refine own_iloadN X (pc' := 8) d2_7 rfl rfl ?_
              refine own_iloadN X (pc' := 9) d2_8 rfl rfl ?_
              refine own_iadd X (r := (5 : Int32)) (pc' := 10) d2_9 rfl (by decide) ?_
              refine own_icmp_ge X (pct := 50) (pc' := 13) d2_10 rfl (by decide) (by decide) (fun hc => absurd hc (by decide)) (fun _ => ?_)
              refine own_aloadN X (pc' := 14) d2_13 rfl rfl rfl ?_
              refine own_iload X (pc' := 16) d2_14 rfl rfl ?_
              refine own_baload X (v := c3) (pc' := 17) A rfl rfl d2_16 rfl ?_
              refine own_bipush X (v := (48 : Int32)) (pc' := 19) d2_17 rfl (by decide) ?_
              refine own_isub X (r := (c3 - (48 : Int32))) (pc' := 20) d2_19 rfl rfl ?_
              refine own_istore X (pc' := 22) (Ls' := #[.val (.ref a), .val (.int (0 : Int32)), .val (.int (5 : Int32)), .val (.int (((((((0 : Int32) * (10 : Int32)) + (c0 - (48 : Int32))) * (10 : Int32)) + (c1 - (48 : Int32))) * (10 : Int32)) + (c2 - (48 : Int32)))), .val (.int (3 : Int32)), .val (.int (c3 - (48 : Int32)))]) d2_20 rfl rfl ?_
              refine own_iload X (pc' := 24) d2_22 rfl rfl ?_
              refine own_if_lt X (pct := 34) (pc' := 27) d2_24 rfl (by decide) (by decide) (fun hc24_7 => ?_) (fun hc24_7 => ?_)
              · refine own_iconst X (v := (-1 : Int32)) (pc' := 35) d2_34 rfl (by decide) ?_
                subst hΦ
                exact own_retI X d2_35 (by decide) (by decide) (by rw [own_dc, if_neg hc24_1, if_pos hc31_2, own_dc, if_neg hc24_3, if_pos hc31_4, own_dc, if_neg hc24_5, if_pos hc31_6, own_dc, if_pos hc24_7]) rfl
              · refine own_iload X (pc' := 29) d2_27 rfl rfl ?_
                refine own_bipush X (v := (9 : Int32)) (pc' := 31) d2_29 rfl (by decide) ?_
                refine own_icmp_le X (pct := 36) (pc' := 34) d2_31 rfl (by decide) (by decide) (fun hc31_8 => ?_) (fun hc31_8 => ?_)
                · refine own_iloadN X (pc' := 37) d2_36 rfl rfl ?_
                  refine own_bipush X (v := (10 : Int32)) (pc' := 39) d2_37 rfl (by decide) ?_
                  refine own_imul X (r := ((((((((0 : Int32) * (10 : Int32)) + (c0 - (48 : Int32))) * (10 : Int32)) + (c1 - (48 : Int32))) * (10 : Int32)) + (c2 - (48 : Int32))) * (10 : Int32))) (pc' := 40) d2_39 rfl rfl ?_
                  refine own_iload X (pc' := 42) d2_40 rfl rfl ?_
                  refine own_iadd X (r := (((((((((0 : Int32) * (10 : Int32)) + (c0 - (48 : Int32))) * (10 : Int32)) + (c1 - (48 : Int32))) * (10 : Int32)) + (c2 - (48 : Int32))) * (10 : Int32)) + (c3 - (48 : Int32)))) (pc' := 43) d2_42 rfl rfl ?_
                  refine own_istoreN X (pc' := 44) (Ls' := #[.val (.ref a), .val (.int (0 : Int32)), .val (.int (5 : Int32)), .val (.int (((((((((0 : Int32) * (10 : Int32)) + (c0 - (48 : Int32))) * (10 : Int32)) + (c1 - (48 : Int32))) * (10 : Int32)) + (c2 - (48 : Int32))) * (10 : Int32)) + (c3 - (48 : Int32)))), .val (.int (3 : Int32)), .val (.int (c3 - (48 : Int32)))]) d2_43 rfl rfl ?_
                  refine own_iinc X (pc' := 47) (Ls' := #[.val (.ref a), .val (.int (0 : Int32)), .val (.int (5 : Int32)), .val (.int (((((((((0 : Int32) * (10 : Int32)) + (c0 - (48 : Int32))) * (10 : Int32)) + (c1 - (48 : Int32))) * (10 : Int32)) + (c2 - (48 : Int32))) * (10 : Int32)) + (c3 - (48 : Int32)))), .val (.int (4 : Int32)), .val (.int (c3 - (48 : Int32)))]) (w := (4 : Int32)) d2_44 rfl rfl (by decide) rfl ?_
                  refine own_goto X (pc' := 5) d2_47 (by decide) (by decide) ?_
                  refine own_iload X (pc' := 7) d2_5 rfl rfl ?_
                  refine own_iloadN X (pc' := 8) d2_7 rfl rfl ?_
                  refine own_iloadN X (pc' := 9) d2_8 rfl rfl ?_
                  refine own_iadd X (r := (5 : Int32)) (pc' := 10) d2_9 rfl (by decide) ?_
                  refine own_icmp_ge X (pct := 50) (pc' := 13) d2_10 rfl (by decide) (by decide) (fun hc => absurd hc (by decide)) (fun _ => ?_)
                  refine own_aloadN X (pc' := 14) d2_13 rfl rfl rfl ?_
                  refine own_iload X (pc' := 16) d2_14 rfl rfl ?_
                  refine own_baload X (v := c4) (pc' := 17) A rfl rfl d2_16 rfl ?_
                  refine own_bipush X (v := (48 : Int32)) (pc' := 19) d2_17 rfl (by decide) ?_
                  refine own_isub X (r := (c4 - (48 : Int32))) (pc' := 20) d2_19 rfl rfl ?_
                  refine own_istore X (pc' := 22) (Ls' := #[.val (.ref a), .val (.int (0 : Int32)), .val (.int (5 : Int32)), .val (.int (((((((((0 : Int32) * (10 : Int32)) + (c0 - (48 : Int32))) * (10 : Int32)) + (c1 - (48 : Int32))) * (10 : Int32)) + (c2 - (48 : Int32))) * (10 : Int32)) + (c3 - (48 : Int32)))), .val (.int (4 : Int32)), .val (.int (c4 - (48 : Int32)))]) d2_20 rfl rfl ?_
                  refine own_iload X (pc' := 24) d2_22 rfl rfl ?_
                  refine own_if_lt X (pct := 34) (pc' := 27) d2_24 rfl (by decide) (by decide) (fun hc24_9 => ?_) (fun hc24_9 => ?_)
                  · refine own_iconst X (v := (-1 : Int32)) (pc' := 35) d2_34 rfl (by decide) ?_
                    subst hΦ
                    exact own_retI X d2_35 (by decide) (by decide) (by rw [own_dc, if_neg hc24_1, if_pos hc31_2, own_dc, if_neg hc24_3, if_pos hc31_4, own_dc, if_neg hc24_5, if_pos hc31_6, own_dc, if_neg hc24_7, if_pos hc31_8, own_dc, if_pos hc24_9]) rfl
                  · refine own_iload X (pc' := 29) d2_27 rfl rfl ?_
                    refine own_bipush X (v := (9 : Int32)) (pc' := 31) d2_29 rfl (by decide) ?_
                    refine own_icmp_le X (pct := 36) (pc' := 34) d2_31 rfl (by decide) (by decide) (fun hc31_10 => ?_) (fun hc31_10 => ?_)
                    · refine own_iloadN X (pc' := 37) d2_36 rfl rfl ?_
                      refine own_bipush X (v := (10 : Int32)) (pc' := 39) d2_37 rfl (by decide) ?_
                      refine own_imul X (r := ((((((((((0 : Int32) * (10 : Int32)) + (c0 - (48 : Int32))) * (10 : Int32)) + (c1 - (48 : Int32))) * (10 : Int32)) + (c2 - (48 : Int32))) * (10 : Int32)) + (c3 - (48 : Int32))) * (10 : Int32))) (pc' := 40) d2_39 rfl rfl ?_
                      refine own_iload X (pc' := 42) d2_40 rfl rfl ?_
                      refine own_iadd X (r := (((((((((((0 : Int32) * (10 : Int32)) + (c0 - (48 : Int32))) * (10 : Int32)) + (c1 - (48 : Int32))) * (10 : Int32)) + (c2 - (48 : Int32))) * (10 : Int32)) + (c3 - (48 : Int32))) * (10 : Int32)) + (c4 - (48 : Int32)))) (pc' := 43) d2_42 rfl rfl ?_
                      refine own_istoreN X (pc' := 44) (Ls' := #[.val (.ref a), .val (.int (0 : Int32)), .val (.int (5 : Int32)), .val (.int (((((((((((0 : Int32) * (10 : Int32)) + (c0 - (48 : Int32))) * (10 : Int32)) + (c1 - (48 : Int32))) * (10 : Int32)) + (c2 - (48 : Int32))) * (10 : Int32)) + (c3 - (48 : Int32))) * (10 : Int32)) + (c4 - (48 : Int32)))), .val (.int (4 : Int32)), .val (.int (c4 - (48 : Int32)))]) d2_43 rfl rfl ?_
                      refine own_iinc X (pc' := 47) (Ls' := #[.val (.ref a), .val (.int (0 : Int32)), .val (.int (5 : Int32)), .val (.int (((((((((((0 : Int32) * (10 : Int32)) + (c0 - (48 : Int32))) * (10 : Int32)) + (c1 - (48 : Int32))) * (10 : Int32)) + (c2 - (48 : Int32))) * (10 : Int32)) + (c3 - (48 : Int32))) * (10 : Int32)) + (c4 - (48 : Int32)))), .val (.int (5 : Int32)), .val (.int (c4 - (48 : Int32)))]) (w := (5 : Int32)) d2_44 rfl rfl (by decide) rfl ?_
                      refine own_goto X (pc' := 5) d2_47 (by decide) (by decide) ?_
                      refine own_iload X (pc' := 7) d2_5 rfl rfl ?_
                      refine own_iloadN X (pc' := 8) d2_7 rfl rfl ?_
                      refine own_iloadN X (pc' := 9) d2_8 rfl rfl ?_
                      refine own_iadd X (r := (5 : Int32)) (pc' := 10) d2_9 rfl (by decide) ?_
                      refine own_icmp_ge X (pct := 50) (pc' := 13) d2_10 rfl (by decide) (by decide) (fun _ => ?_) (fun hc => absurd hc (by decide))
                      refine own_iloadN X (pc' := 51) d2_50 rfl rfl ?_
                      subst hΦ
                      exact own_retI X d2_51 (by decide) (by decide) (by rw [own_dc, if_neg hc24_1, if_pos hc31_2, own_dc, if_neg hc24_3, if_pos hc31_4, own_dc, if_neg hc24_5, if_pos hc31_6, own_dc, if_neg hc24_7, if_pos hc31_8, own_dc, if_neg hc24_9, if_pos hc31_10, own_dn]) rfl
                    · refine own_iconst X (v := (-1 : Int32)) (pc' := 35) d2_34 rfl (by decide) ?_
                      subst hΦ
                      exact own_retI X d2_35 (by decide) (by decide) (by rw [own_dc, if_neg hc24_1, if_pos hc31_2, own_dc, if_neg hc24_3, if_pos hc31_4, own_dc, if_neg hc24_5, if_pos hc31_6, own_dc, if_neg hc24_7, if_pos hc31_8, own_dc, if_neg hc24_9, if_neg (fun z => z hc31_10)]) rfl
                · refine own_iconst X (v := (-1 : Int32)) (pc' := 35) d2_34 rfl (by decide) ?_
                  subst hΦ
                  exact own_retI X d2_35 (by decide) (by decide) (by rw [own_dc, if_neg hc24_1, if_pos hc31_2, own_dc, if_neg hc24_3, if_pos hc31_4, own_dc, if_neg hc24_5, if_pos hc31_6, own_dc, if_neg hc24_7, if_neg (fun z => z hc31_8)]) rfl
            · refine own_iconst X (v := (-1 : Int32)) (pc' := 35) d2_34 rfl (by decide) ?_
              subst hΦ
              exact own_retI X d2_35 (by decide) (by decide) (by rw [own_dc, if_neg hc24_1, if_pos hc31_2, own_dc, if_neg hc24_3, if_pos hc31_4, own_dc, if_neg hc24_5, if_neg (fun z => z hc31_6)]) rfl
        · refine own_iconst X (v := (-1 : Int32)) (pc' := 35) d2_34 rfl (by decide) ?_
          subst hΦ
          exact own_retI X d2_35 (by decide) (by decide) (by rw [own_dc, if_neg hc24_1, if_pos hc31_2, own_dc, if_neg hc24_3, if_neg (fun z => z hc31_4)]) rfl
    · refine own_iconst X (v := (-1 : Int32)) (pc' := 35) d2_34 rfl (by decide) ?_
      subst hΦ
      exact own_retI X d2_35 (by decide) (by decide) (by rw [own_dc, if_neg hc24_1, if_neg (fun z => z hc31_2)]) rfl
theorem pd_0 : parseMethodDescriptor "(JII)B" = some ⟨[.long, .int, .int], some .byte⟩ := by decide +kernel
theorem pd_1 : parseMethodDescriptor "([BII)I" = some ⟨[(.array .byte), .int, .int], some .int⟩ := by decide +kernel
theorem pd_2 : parseMethodDescriptor "(IB)I" = some ⟨[.int, .byte], some .int⟩ := by decide +kernel
theorem pn_rm0 : plainFor (⟨"com/example/vegeu/vegeu/model/Iso2709DigitsPinLaw", "law", "(JIII)Z"⟩ : MethodName) = true := plainFor_of_name (by first | (simp [plainName, overriddenIn]; done) | decide +kernel)
theorem ef_rm0 (m : MethodId) (x0 : Int64) (x1 : Int32) (x2 : Int32) (x3 : Int32) : entryFrame m #[(.long x0), (.int x1), (.int x2), (.int x3)] maxLocals = mkF m 0 #[.val (.long x0), .second, .val (.int x1), .val (.int x2), .val (.int x3), .unset, .unset, .unset, .unset, .unset] [] := by first | (simp [entryFrame, mkF, argsToLocals, Value.category, maxLocals]; done) | rfl
set_option maxRecDepth 65536 in
set_option maxHeartbeats 4000000 in
theorem rm0 (l : Launch) (Z : State) (a0 : Array Value) (hw : ∀ d ∈ tables_1, d.before a0 Z = true) (n0 : Nat) (raw : Int64) (flags : Int32) (ff : Int32) (ll : Int32) (h0 : Heap) (hn0 : n0 ≤ h0.size) :
    own_Met l x code maxLocals ret room_1 Z n0 #[(.long raw), (.int flags), (.int ff), (.int ll)] h0 (some (.int 1)) (fun _ => True) := by
  refine own_met pn_rm0 hn0 ?_
  intro p e s m below meth c T X
  refine own_cast (ef_rm0 m raw flags ff ll) ?_
  change own_S Z n0 code x 10 ret p l e room_1 s m _ below meth c T 0 0 h0 at X
  generalize hΦ : own_Q n0 below s _ _ _ = Φ
  refine own_iconst X (v := (5 : Int32)) (pc' := 1) at_0 rfl (by decide) ?_
  refine own_newarr X (len := 5) (vs := [0, 0, 0, 0, 0]) (pc' := 3) (hw _ (List.mem_of_getElem? (i := 0) rfl)) rfl (by decide) (by decide) rfl (by decide) at_1 rfl (by decide) (by decide) ?_
  intro T1 h1 ad1 X1 ge_ad1 g_ad1 E1 A1
  refine own_astore X1 (pc' := 5) (Ls' := #[.val (.long raw), .second, .val (.int flags), .val (.int ff), .val (.int ll), .val (.ref ad1), .unset, .unset, .unset, .unset]) at_3 rfl rfl rfl ?_
  refine own_aload X1 (pc' := 7) at_5 rfl rfl rfl ?_
  refine own_iconst X1 (v := (0 : Int32)) (pc' := 8) at_7 rfl (by decide) ?_
  refine own_lloadN X1 (pc' := 9) at_8 rfl rfl ?_
  refine own_iloadN X1 (pc' := 10) at_9 rfl rfl ?_
  refine own_iconst X1 (v := (0 : Int32)) (pc' := 11) at_10 rfl (by decide) ?_
  refine own_callS X1 (W := 2) (argsL := [(.long raw), (.int flags), (.int (0 : Int32))]) (rest := [(.int (0 : Int32)), (.ref ad1)]) (S' := [(.int (own_mk raw flags (0 : Int32))), (.int (0 : Int32)), (.ref ad1)]) (pc' := 14) (rm1 l Z a0 hw n0 raw flags (0 : Int32) h1 X1.size) (hw _ (List.mem_of_getElem? (i := 1) rfl)) (hw _ (List.mem_of_getElem? (i := 2) rfl)) (hw _ (List.mem_of_getElem? (i := 3) rfl)) (hw _ (List.mem_of_getElem? (i := 4) rfl)) (by decide) (by decide) (by decide) rfl rfl (by decide) (by decide) (lenOf pd_0 rfl) rfl (by first | decide | exact Nat.le_of_eq rfl) rfl at_11 rfl rfl ?_
  intro T2 h2 X2 qq2
  rw [show h2 = h1 from qq2] at X2
  refine own_bastore X2 (vs' := [(own_mk raw flags (0 : Int32)), (0 : Int32), (0 : Int32), (0 : Int32), (0 : Int32)]) (pc' := 15) A1 ge_ad1 rfl (own_mk_b _ _ _) rfl at_14 rfl ?_
  intro T3 h3 X3 A3 W3
  refine own_aload X3 (pc' := 17) at_15 rfl rfl rfl ?_
  refine own_iconst X3 (v := (1 : Int32)) (pc' := 18) at_17 rfl (by decide) ?_
  refine own_lloadN X3 (pc' := 19) at_18 rfl rfl ?_
  refine own_iloadN X3 (pc' := 20) at_19 rfl rfl ?_
  refine own_iconst X3 (v := (1 : Int32)) (pc' := 21) at_20 rfl (by decide) ?_
  refine own_callS X3 (W := 2) (argsL := [(.long raw), (.int flags), (.int (1 : Int32))]) (rest := [(.int (1 : Int32)), (.ref ad1)]) (S' := [(.int (own_mk raw flags (1 : Int32))), (.int (1 : Int32)), (.ref ad1)]) (pc' := 24) (rm1 l Z a0 hw n0 raw flags (1 : Int32) h3 X3.size) (hw _ (List.mem_of_getElem? (i := 1) rfl)) (hw _ (List.mem_of_getElem? (i := 2) rfl)) (hw _ (List.mem_of_getElem? (i := 3) rfl)) (hw _ (List.mem_of_getElem? (i := 4) rfl)) (by decide) (by decide) (by decide) rfl rfl (by decide) (by decide) (lenOf pd_0 rfl) rfl (by first | decide | exact Nat.le_of_eq rfl) rfl at_21 rfl rfl ?_
  intro T4 h4 X4 qq4
  rw [show h4 = h3 from qq4] at X4
  refine own_bastore X4 (vs' := [(own_mk raw flags (0 : Int32)), (own_mk raw flags (1 : Int32)), (0 : Int32), (0 : Int32), (0 : Int32)]) (pc' := 25) A3 ge_ad1 rfl (own_mk_b _ _ _) rfl at_24 rfl ?_
  intro T5 h5 X5 A5 W5
  refine own_aload X5 (pc' := 27) at_25 rfl rfl rfl ?_
  refine own_iconst X5 (v := (2 : Int32)) (pc' := 28) at_27 rfl (by decide) ?_
  refine own_lloadN X5 (pc' := 29) at_28 rfl rfl ?_
  refine own_iloadN X5 (pc' := 30) at_29 rfl rfl ?_
  refine own_iconst X5 (v := (2 : Int32)) (pc' := 31) at_30 rfl (by decide) ?_
  refine own_callS X5 (W := 2) (argsL := [(.long raw), (.int flags), (.int (2 : Int32))]) (rest := [(.int (2 : Int32)), (.ref ad1)]) (S' := [(.int (own_mk raw flags (2 : Int32))), (.int (2 : Int32)), (.ref ad1)]) (pc' := 34) (rm1 l Z a0 hw n0 raw flags (2 : Int32) h5 X5.size) (hw _ (List.mem_of_getElem? (i := 1) rfl)) (hw _ (List.mem_of_getElem? (i := 2) rfl)) (hw _ (List.mem_of_getElem? (i := 3) rfl)) (hw _ (List.mem_of_getElem? (i := 4) rfl)) (by decide) (by decide) (by decide) rfl rfl (by decide) (by decide) (lenOf pd_0 rfl) rfl (by first | decide | exact Nat.le_of_eq rfl) rfl at_31 rfl rfl ?_
  intro T6 h6 X6 qq6
  rw [show h6 = h5 from qq6] at X6
  refine own_bastore X6 (vs' := [(own_mk raw flags (0 : Int32)), (own_mk raw flags (1 : Int32)), (own_mk raw flags (2 : Int32)), (0 : Int32), (0 : Int32)]) (pc' := 35) A5 ge_ad1 rfl (own_mk_b _ _ _) rfl at_34 rfl ?_
  intro T7 h7 X7 A7 W7
  refine own_aload X7 (pc' := 37) at_35 rfl rfl rfl ?_
  refine own_iconst X7 (v := (3 : Int32)) (pc' := 38) at_37 rfl (by decide) ?_
  refine own_lloadN X7 (pc' := 39) at_38 rfl rfl ?_
  refine own_iloadN X7 (pc' := 40) at_39 rfl rfl ?_
  refine own_iconst X7 (v := (3 : Int32)) (pc' := 41) at_40 rfl (by decide) ?_
  refine own_callS X7 (W := 2) (argsL := [(.long raw), (.int flags), (.int (3 : Int32))]) (rest := [(.int (3 : Int32)), (.ref ad1)]) (S' := [(.int (own_mk raw flags (3 : Int32))), (.int (3 : Int32)), (.ref ad1)]) (pc' := 44) (rm1 l Z a0 hw n0 raw flags (3 : Int32) h7 X7.size) (hw _ (List.mem_of_getElem? (i := 1) rfl)) (hw _ (List.mem_of_getElem? (i := 2) rfl)) (hw _ (List.mem_of_getElem? (i := 3) rfl)) (hw _ (List.mem_of_getElem? (i := 4) rfl)) (by decide) (by decide) (by decide) rfl rfl (by decide) (by decide) (lenOf pd_0 rfl) rfl (by first | decide | exact Nat.le_of_eq rfl) rfl at_41 rfl rfl ?_
  intro T8 h8 X8 qq8
  rw [show h8 = h7 from qq8] at X8
  refine own_bastore X8 (vs' := [(own_mk raw flags (0 : Int32)), (own_mk raw flags (1 : Int32)), (own_mk raw flags (2 : Int32)), (own_mk raw flags (3 : Int32)), (0 : Int32)]) (pc' := 45) A7 ge_ad1 rfl (own_mk_b _ _ _) rfl at_44 rfl ?_
  intro T9 h9 X9 A9 W9
  refine own_aload X9 (pc' := 47) at_45 rfl rfl rfl ?_
  refine own_iconst X9 (v := (4 : Int32)) (pc' := 48) at_47 rfl (by decide) ?_
  refine own_lloadN X9 (pc' := 49) at_48 rfl rfl ?_
  refine own_iloadN X9 (pc' := 50) at_49 rfl rfl ?_
  refine own_iconst X9 (v := (4 : Int32)) (pc' := 51) at_50 rfl (by decide) ?_
  refine own_callS X9 (W := 2) (argsL := [(.long raw), (.int flags), (.int (4 : Int32))]) (rest := [(.int (4 : Int32)), (.ref ad1)]) (S' := [(.int (own_mk raw flags (4 : Int32))), (.int (4 : Int32)), (.ref ad1)]) (pc' := 54) (rm1 l Z a0 hw n0 raw flags (4 : Int32) h9 X9.size) (hw _ (List.mem_of_getElem? (i := 1) rfl)) (hw _ (List.mem_of_getElem? (i := 2) rfl)) (hw _ (List.mem_of_getElem? (i := 3) rfl)) (hw _ (List.mem_of_getElem? (i := 4) rfl)) (by decide) (by decide) (by decide) rfl rfl (by decide) (by decide) (lenOf pd_0 rfl) rfl (by first | decide | exact Nat.le_of_eq rfl) rfl at_51 rfl rfl ?_
  intro T10 h10 X10 qq10
  rw [show h10 = h9 from qq10] at X10
  refine own_bastore X10 (vs' := [(own_mk raw flags (0 : Int32)), (own_mk raw flags (1 : Int32)), (own_mk raw flags (2 : Int32)), (own_mk raw flags (3 : Int32)), (own_mk raw flags (4 : Int32))]) (pc' := 55) A9 ge_ad1 rfl (own_mk_b _ _ _) rfl at_54 rfl ?_
  intro T11 h11 X11 A11 W11
  refine own_iload X11 (pc' := 57) at_55 rfl rfl ?_
  refine own_ldc X11 (pc' := 59) (hw _ (List.mem_of_getElem? (i := 6) rfl)) at_57 rfl ?_
  refine own_iand X11 (r := (ll &&& (2147483647 : Int32))) (pc' := 60) at_59 rfl rfl ?_
  refine own_bipush X11 (v := (6 : Int32)) (pc' := 62) at_60 rfl (by decide) ?_
  refine own_irem X11 (r := ((ll &&& (2147483647 : Int32)) - ((ll &&& (2147483647 : Int32)) / (6 : Int32)) * (6 : Int32))) (pc' := 63) at_62 rfl (by decide) rfl ?_
  refine own_istore X11 (pc' := 65) (Ls' := #[.val (.long raw), .second, .val (.int flags), .val (.int ff), .val (.int ll), .val (.ref ad1), .val (.int ((ll &&& (2147483647 : Int32)) - ((ll &&& (2147483647 : Int32)) / (6 : Int32)) * (6 : Int32))), .unset, .unset, .unset]) at_63 rfl rfl ?_
  generalize e12 : ((ll &&& (2147483647 : Int32)) - ((ll &&& (2147483647 : Int32)) / (6 : Int32)) * (6 : Int32)) = v12
  rcases own_c6 (own_rem 6 (by decide) e12) with rfl | rfl | rfl | rfl | rfl | rfl
  · refine own_iloadN X11 (pc' := 66) at_65 rfl rfl ?_
    refine own_ldc X11 (pc' := 68) (hw _ (List.mem_of_getElem? (i := 6) rfl)) at_66 rfl ?_
    refine own_iand X11 (r := (ff &&& (2147483647 : Int32))) (pc' := 69) at_68 rfl rfl ?_
    refine own_bipush X11 (v := (6 : Int32)) (pc' := 71) at_69 rfl (by decide) ?_
    refine own_iload X11 (pc' := 73) at_71 rfl rfl ?_
    refine own_isub X11 (r := (6 : Int32)) (pc' := 74) at_73 rfl (by decide) ?_
    refine own_irem X11 (r := ((ff &&& (2147483647 : Int32)) - ((ff &&& (2147483647 : Int32)) / (6 : Int32)) * (6 : Int32))) (pc' := 75) at_74 rfl (by decide) rfl ?_
    refine own_istore X11 (pc' := 77) (Ls' := #[.val (.long raw), .second, .val (.int flags), .val (.int ff), .val (.int ll), .val (.ref ad1), .val (.int (0 : Int32)), .val (.int ((ff &&& (2147483647 : Int32)) - ((ff &&& (2147483647 : Int32)) / (6 : Int32)) * (6 : Int32))), .unset, .unset]) at_75 rfl rfl ?_
    generalize e13 : ((ff &&& (2147483647 : Int32)) - ((ff &&& (2147483647 : Int32)) / (6 : Int32)) * (6 : Int32)) = v13
    rcases own_c6 (own_rem 6 (by decide) e13) with rfl | rfl | rfl | rfl | rfl | rfl
    · refine own_iconst X11 (v := (0 : Int32)) (pc' := 78) at_77 rfl (by decide) ?_
      refine own_istore X11 (pc' := 80) (Ls' := #[.val (.long raw), .second, .val (.int flags), .val (.int ff), .val (.int ll), .val (.ref ad1), .val (.int (0 : Int32)), .val (.int (0 : Int32)), .val (.int (0 : Int32)), .unset]) at_78 rfl rfl ?_
      refine own_iload X11 (pc' := 82) at_80 rfl rfl ?_
      refine own_iconst X11 (v := (1 : Int32)) (pc' := 83) at_82 rfl (by decide) ?_
      refine own_icmp_lt X11 (pct := 98) (pc' := 86) at_83 rfl (by decide) (by decide) (fun _ => ?_) (fun hc => absurd hc (by decide))
      refine own_iload X11 (pc' := 100) at_98 rfl rfl ?_
      refine own_iconst X11 (v := (2 : Int32)) (pc' := 101) at_100 rfl (by decide) ?_
      refine own_icmp_lt X11 (pct := 118) (pc' := 104) at_101 rfl (by decide) (by decide) (fun _ => ?_) (fun hc => absurd hc (by decide))
      refine own_iload X11 (pc' := 120) at_118 rfl rfl ?_
      refine own_iconst X11 (v := (3 : Int32)) (pc' := 121) at_120 rfl (by decide) ?_
      refine own_icmp_lt X11 (pct := 138) (pc' := 124) at_121 rfl (by decide) (by decide) (fun _ => ?_) (fun hc => absurd hc (by decide))
      refine own_iload X11 (pc' := 140) at_138 rfl rfl ?_
      refine own_iconst X11 (v := (4 : Int32)) (pc' := 141) at_140 rfl (by decide) ?_
      refine own_icmp_lt X11 (pct := 158) (pc' := 144) at_141 rfl (by decide) (by decide) (fun _ => ?_) (fun hc => absurd hc (by decide))
      refine own_iload X11 (pc' := 160) at_158 rfl rfl ?_
      refine own_iconst X11 (v := (5 : Int32)) (pc' := 161) at_160 rfl (by decide) ?_
      refine own_icmp_lt X11 (pct := 178) (pc' := 164) at_161 rfl (by decide) (by decide) (fun _ => ?_) (fun hc => absurd hc (by decide))
      refine own_aload X11 (pc' := 180) at_178 rfl rfl rfl ?_
      refine own_iload X11 (pc' := 182) at_180 rfl rfl ?_
      refine own_iload X11 (pc' := 184) at_182 rfl rfl ?_
      refine own_callS X11 (W := 0) (argsL := [(.ref ad1), (.int (0 : Int32)), (.int (0 : Int32))]) (rest := []) (S' := [(.int (own_dig 0 []))]) (pc' := 187) (rm2_00 l Z a0 hw n0 ad1 h11 X11.size (own_mk raw flags (0 : Int32)) (own_mk raw flags (1 : Int32)) (own_mk raw flags (2 : Int32)) (own_mk raw flags (3 : Int32)) (own_mk raw flags (4 : Int32)) A11) (hw _ (List.mem_of_getElem? (i := 7) rfl)) (hw _ (List.mem_of_getElem? (i := 8) rfl)) (hw _ (List.mem_of_getElem? (i := 9) rfl)) (hw _ (List.mem_of_getElem? (i := 10) rfl)) (by decide) (by decide) (by decide) rfl rfl (by decide) (by decide) (lenOf pd_1 rfl) rfl (by first | decide | exact Nat.le_of_eq rfl) rfl at_184 rfl rfl ?_
      intro T14 h14 X14 qq14
      rw [show h14 = h11 from qq14] at X14
      refine own_istore X14 (pc' := 189) (Ls' := #[.val (.long raw), .second, .val (.int flags), .val (.int ff), .val (.int ll), .val (.ref ad1), .val (.int (0 : Int32)), .val (.int (0 : Int32)), .val (.int (0 : Int32)), .val (.int (own_dig 0 []))]) at_187 rfl rfl ?_
      refine own_iload X14 (pc' := 191) at_189 rfl rfl ?_
      refine own_iload X14 (pc' := 193) at_191 rfl rfl ?_
      refine own_icmp_ne X14 (pct := 200) (pc' := 196) at_193 rfl (by decide) (by decide) (fun hc => absurd hc (fun q => q (own_e0 ))) (fun _ => ?_)
      refine own_iconst X14 (v := (1 : Int32)) (pc' := 197) at_196 rfl (by decide) ?_
      refine own_goto X14 (pc' := 201) at_197 (by decide) (by decide) ?_
      subst hΦ
      exact own_retZ X14 at_201 (by decide) (by decide) (by decide) rfl trivial
    · refine own_iconst X11 (v := (0 : Int32)) (pc' := 78) at_77 rfl (by decide) ?_
      refine own_istore X11 (pc' := 80) (Ls' := #[.val (.long raw), .second, .val (.int flags), .val (.int ff), .val (.int ll), .val (.ref ad1), .val (.int (0 : Int32)), .val (.int (1 : Int32)), .val (.int (0 : Int32)), .unset]) at_78 rfl rfl ?_
      refine own_iload X11 (pc' := 82) at_80 rfl rfl ?_
      refine own_iconst X11 (v := (1 : Int32)) (pc' := 83) at_82 rfl (by decide) ?_
      refine own_icmp_lt X11 (pct := 98) (pc' := 86) at_83 rfl (by decide) (by decide) (fun _ => ?_) (fun hc => absurd hc (by decide))
      refine own_iload X11 (pc' := 100) at_98 rfl rfl ?_
      refine own_iconst X11 (v := (2 : Int32)) (pc' := 101) at_100 rfl (by decide) ?_
      refine own_icmp_lt X11 (pct := 118) (pc' := 104) at_101 rfl (by decide) (by decide) (fun _ => ?_) (fun hc => absurd hc (by decide))
      refine own_iload X11 (pc' := 120) at_118 rfl rfl ?_
      refine own_iconst X11 (v := (3 : Int32)) (pc' := 121) at_120 rfl (by decide) ?_
      refine own_icmp_lt X11 (pct := 138) (pc' := 124) at_121 rfl (by decide) (by decide) (fun _ => ?_) (fun hc => absurd hc (by decide))
      refine own_iload X11 (pc' := 140) at_138 rfl rfl ?_
      refine own_iconst X11 (v := (4 : Int32)) (pc' := 141) at_140 rfl (by decide) ?_
      refine own_icmp_lt X11 (pct := 158) (pc' := 144) at_141 rfl (by decide) (by decide) (fun _ => ?_) (fun hc => absurd hc (by decide))
      refine own_iload X11 (pc' := 160) at_158 rfl rfl ?_
      refine own_iconst X11 (v := (5 : Int32)) (pc' := 161) at_160 rfl (by decide) ?_
      refine own_icmp_lt X11 (pct := 178) (pc' := 164) at_161 rfl (by decide) (by decide) (fun _ => ?_) (fun hc => absurd hc (by decide))
      refine own_aload X11 (pc' := 180) at_178 rfl rfl rfl ?_
      refine own_iload X11 (pc' := 182) at_180 rfl rfl ?_
      refine own_iload X11 (pc' := 184) at_182 rfl rfl ?_
      refine own_callS X11 (W := 0) (argsL := [(.ref ad1), (.int (1 : Int32)), (.int (0 : Int32))]) (rest := []) (S' := [(.int (own_dig 0 []))]) (pc' := 187) (rm2_10 l Z a0 hw n0 ad1 h11 X11.size (own_mk raw flags (0 : Int32)) (own_mk raw flags (1 : Int32)) (own_mk raw flags (2 : Int32)) (own_mk raw flags (3 : Int32)) (own_mk raw flags (4 : Int32)) A11) (hw _ (List.mem_of_getElem? (i := 7) rfl)) (hw _ (List.mem_of_getElem? (i := 8) rfl)) (hw _ (List.mem_of_getElem? (i := 9) rfl)) (hw _ (List.mem_of_getElem? (i := 10) rfl)) (by decide) (by decide) (by decide) rfl rfl (by decide) (by decide) (lenOf pd_1 rfl) rfl (by first | decide | exact Nat.le_of_eq rfl) rfl at_184 rfl rfl ?_
      intro T15 h15 X15 qq15
      rw [show h15 = h11 from qq15] at X15
      refine own_istore X15 (pc' := 189) (Ls' := #[.val (.long raw), .second, .val (.int flags), .val (.int ff), .val (.int ll), .val (.ref ad1), .val (.int (0 : Int32)), .val (.int (1 : Int32)), .val (.int (0 : Int32)), .val (.int (own_dig 0 []))]) at_187 rfl rfl ?_
      refine own_iload X15 (pc' := 191) at_189 rfl rfl ?_
      refine own_iload X15 (pc' := 193) at_191 rfl rfl ?_
      refine own_icmp_ne X15 (pct := 200) (pc' := 196) at_193 rfl (by decide) (by decide) (fun hc => absurd hc (fun q => q (own_e0 ))) (fun _ => ?_)
      refine own_iconst X15 (v := (1 : Int32)) (pc' := 197) at_196 rfl (by decide) ?_
      refine own_goto X15 (pc' := 201) at_197 (by decide) (by decide) ?_
      subst hΦ
      exact own_retZ X15 at_201 (by decide) (by decide) (by decide) rfl trivial
    · refine own_iconst X11 (v := (0 : Int32)) (pc' := 78) at_77 rfl (by decide) ?_
      refine own_istore X11 (pc' := 80) (Ls' := #[.val (.long raw), .second, .val (.int flags), .val (.int ff), .val (.int ll), .val (.ref ad1), .val (.int (0 : Int32)), .val (.int (2 : Int32)), .val (.int (0 : Int32)), .unset]) at_78 rfl rfl ?_
      refine own_iload X11 (pc' := 82) at_80 rfl rfl ?_
      refine own_iconst X11 (v := (1 : Int32)) (pc' := 83) at_82 rfl (by decide) ?_
      refine own_icmp_lt X11 (pct := 98) (pc' := 86) at_83 rfl (by decide) (by decide) (fun _ => ?_) (fun hc => absurd hc (by decide))
      refine own_iload X11 (pc' := 100) at_98 rfl rfl ?_
      refine own_iconst X11 (v := (2 : Int32)) (pc' := 101) at_100 rfl (by decide) ?_
      refine own_icmp_lt X11 (pct := 118) (pc' := 104) at_101 rfl (by decide) (by decide) (fun _ => ?_) (fun hc => absurd hc (by decide))
      refine own_iload X11 (pc' := 120) at_118 rfl rfl ?_
      refine own_iconst X11 (v := (3 : Int32)) (pc' := 121) at_120 rfl (by decide) ?_
      refine own_icmp_lt X11 (pct := 138) (pc' := 124) at_121 rfl (by decide) (by decide) (fun _ => ?_) (fun hc => absurd hc (by decide))
      refine own_iload X11 (pc' := 140) at_138 rfl rfl ?_
      refine own_iconst X11 (v := (4 : Int32)) (pc' := 141) at_140 rfl (by decide) ?_
      refine own_icmp_lt X11 (pct := 158) (pc' := 144) at_141 rfl (by decide) (by decide) (fun _ => ?_) (fun hc => absurd hc (by decide))
      refine own_iload X11 (pc' := 160) at_158 rfl rfl ?_
      refine own_iconst X11 (v := (5 : Int32)) (pc' := 161) at_160 rfl (by decide) ?_
      refine own_icmp_lt X11 (pct := 178) (pc' := 164) at_161 rfl (by decide) (by decide) (fun _ => ?_) (fun hc => absurd hc (by decide))
      refine own_aload X11 (pc' := 180) at_178 rfl rfl rfl ?_
      refine own_iload X11 (pc' := 182) at_180 rfl rfl ?_
      refine own_iload X11 (pc' := 184) at_182 rfl rfl ?_
      refine own_callS X11 (W := 0) (argsL := [(.ref ad1), (.int (2 : Int32)), (.int (0 : Int32))]) (rest := []) (S' := [(.int (own_dig 0 []))]) (pc' := 187) (rm2_20 l Z a0 hw n0 ad1 h11 X11.size (own_mk raw flags (0 : Int32)) (own_mk raw flags (1 : Int32)) (own_mk raw flags (2 : Int32)) (own_mk raw flags (3 : Int32)) (own_mk raw flags (4 : Int32)) A11) (hw _ (List.mem_of_getElem? (i := 7) rfl)) (hw _ (List.mem_of_getElem? (i := 8) rfl)) (hw _ (List.mem_of_getElem? (i := 9) rfl)) (hw _ (List.mem_of_getElem? (i := 10) rfl)) (by decide) (by decide) (by decide) rfl rfl (by decide) (by decide) (lenOf pd_1 rfl) rfl (by first | decide | exact Nat.le_of_eq rfl) rfl at_184 rfl rfl ?_
      intro T16 h16 X16 qq16
      rw [show h16 = h11 from qq16] at X16
      refine own_istore X16 (pc' := 189) (Ls' := #[.val (.long raw), .second, .val (.int flags), .val (.int ff), .val (.int ll), .val (.ref ad1), .val (.int (0 : Int32)), .val (.int (2 : Int32)), .val (.int (0 : Int32)), .val (.int (own_dig 0 []))]) at_187 rfl rfl ?_
      refine own_iload X16 (pc' := 191) at_189 rfl rfl ?_
      refine own_iload X16 (pc' := 193) at_191 rfl rfl ?_
      refine own_icmp_ne X16 (pct := 200) (pc' := 196) at_193 rfl (by decide) (by decide) (fun hc => absurd hc (fun q => q (own_e0 ))) (fun _ => ?_)
      refine own_iconst X16 (v := (1 : Int32)) (pc' := 197) at_196 rfl (by decide) ?_
      refine own_goto X16 (pc' := 201) at_197 (by decide) (by decide) ?_
      subst hΦ
      exact own_retZ X16 at_201 (by decide) (by decide) (by decide) rfl trivial
    · refine own_iconst X11 (v := (0 : Int32)) (pc' := 78) at_77 rfl (by decide) ?_
      refine own_istore X11 (pc' := 80) (Ls' := #[.val (.long raw), .second, .val (.int flags), .val (.int ff), .val (.int ll), .val (.ref ad1), .val (.int (0 : Int32)), .val (.int (3 : Int32)), .val (.int (0 : Int32)), .unset]) at_78 rfl rfl ?_
      refine own_iload X11 (pc' := 82) at_80 rfl rfl ?_
      refine own_iconst X11 (v := (1 : Int32)) (pc' := 83) at_82 rfl (by decide) ?_
      refine own_icmp_lt X11 (pct := 98) (pc' := 86) at_83 rfl (by decide) (by decide) (fun _ => ?_) (fun hc => absurd hc (by decide))
      refine own_iload X11 (pc' := 100) at_98 rfl rfl ?_
      refine own_iconst X11 (v := (2 : Int32)) (pc' := 101) at_100 rfl (by decide) ?_
      refine own_icmp_lt X11 (pct := 118) (pc' := 104) at_101 rfl (by decide) (by decide) (fun _ => ?_) (fun hc => absurd hc (by decide))
      refine own_iload X11 (pc' := 120) at_118 rfl rfl ?_
      refine own_iconst X11 (v := (3 : Int32)) (pc' := 121) at_120 rfl (by decide) ?_
      refine own_icmp_lt X11 (pct := 138) (pc' := 124) at_121 rfl (by decide) (by decide) (fun _ => ?_) (fun hc => absurd hc (by decide))
      refine own_iload X11 (pc' := 140) at_138 rfl rfl ?_
      refine own_iconst X11 (v := (4 : Int32)) (pc' := 141) at_140 rfl (by decide) ?_
      refine own_icmp_lt X11 (pct := 158) (pc' := 144) at_141 rfl (by decide) (by decide) (fun _ => ?_) (fun hc => absurd hc (by decide))
      refine own_iload X11 (pc' := 160) at_158 rfl rfl ?_
      refine own_iconst X11 (v := (5 : Int32)) (pc' := 161) at_160 rfl (by decide) ?_
      refine own_icmp_lt X11 (pct := 178) (pc' := 164) at_161 rfl (by decide) (by decide) (fun _ => ?_) (fun hc => absurd hc (by decide))
      refine own_aload X11 (pc' := 180) at_178 rfl rfl rfl ?_
      refine own_iload X11 (pc' := 182) at_180 rfl rfl ?_
      refine own_iload X11 (pc' := 184) at_182 rfl rfl ?_
      refine own_callS X11 (W := 0) (argsL := [(.ref ad1), (.int (3 : Int32)), (.int (0 : Int32))]) (rest := []) (S' := [(.int (own_dig 0 []))]) (pc' := 187) (rm2_30 l Z a0 hw n0 ad1 h11 X11.size (own_mk raw flags (0 : Int32)) (own_mk raw flags (1 : Int32)) (own_mk raw flags (2 : Int32)) (own_mk raw flags (3 : Int32)) (own_mk raw flags (4 : Int32)) A11) (hw _ (List.mem_of_getElem? (i := 7) rfl)) (hw _ (List.mem_of_getElem? (i := 8) rfl)) (hw _ (List.mem_of_getElem? (i := 9) rfl)) (hw _ (List.mem_of_getElem? (i := 10) rfl)) (by decide) (by decide) (by decide) rfl rfl (by decide) (by decide) (lenOf pd_1 rfl) rfl (by first | decide | exact Nat.le_of_eq rfl) rfl at_184 rfl rfl ?_
      intro T17 h17 X17 qq17
      rw [show h17 = h11 from qq17] at X17
      refine own_istore X17 (pc' := 189) (Ls' := #[.val (.long raw), .second, .val (.int flags), .val (.int ff), .val (.int ll), .val (.ref ad1), .val (.int (0 : Int32)), .val (.int (3 : Int32)), .val (.int (0 : Int32)), .val (.int (own_dig 0 []))]) at_187 rfl rfl ?_
      refine own_iload X17 (pc' := 191) at_189 rfl rfl ?_
      refine own_iload X17 (pc' := 193) at_191 rfl rfl ?_
      refine own_icmp_ne X17 (pct := 200) (pc' := 196) at_193 rfl (by decide) (by decide) (fun hc => absurd hc (fun q => q (own_e0 ))) (fun _ => ?_)
      refine own_iconst X17 (v := (1 : Int32)) (pc' := 197) at_196 rfl (by decide) ?_
      refine own_goto X17 (pc' := 201) at_197 (by decide) (by decide) ?_
      subst hΦ
      exact own_retZ X17 at_201 (by decide) (by decide) (by decide) rfl trivial
    · refine own_iconst X11 (v := (0 : Int32)) (pc' := 78) at_77 rfl (by decide) ?_
      refine own_istore X11 (pc' := 80) (Ls' := #[.val (.long raw), .second, .val (.int flags), .val (.int ff), .val (.int ll), .val (.ref ad1), .val (.int (0 : Int32)), .val (.int (4 : Int32)), .val (.int (0 : Int32)), .unset]) at_78 rfl rfl ?_
      refine own_iload X11 (pc' := 82) at_80 rfl rfl ?_
      refine own_iconst X11 (v := (1 : Int32)) (pc' := 83) at_82 rfl (by decide) ?_
      refine own_icmp_lt X11 (pct := 98) (pc' := 86) at_83 rfl (by decide) (by decide) (fun _ => ?_) (fun hc => absurd hc (by decide))
      refine own_iload X11 (pc' := 100) at_98 rfl rfl ?_
      refine own_iconst X11 (v := (2 : Int32)) (pc' := 101) at_100 rfl (by decide) ?_
      refine own_icmp_lt X11 (pct := 118) (pc' := 104) at_101 rfl (by decide) (by decide) (fun _ => ?_) (fun hc => absurd hc (by decide))
      refine own_iload X11 (pc' := 120) at_118 rfl rfl ?_
      refine own_iconst X11 (v := (3 : Int32)) (pc' := 121) at_120 rfl (by decide) ?_
      refine own_icmp_lt X11 (pct := 138) (pc' := 124) at_121 rfl (by decide) (by decide) (fun _ => ?_) (fun hc => absurd hc (by decide))
      refine own_iload X11 (pc' := 140) at_138 rfl rfl ?_
      refine own_iconst X11 (v := (4 : Int32)) (pc' := 141) at_140 rfl (by decide) ?_
      refine own_icmp_lt X11 (pct := 158) (pc' := 144) at_141 rfl (by decide) (by decide) (fun _ => ?_) (fun hc => absurd hc (by decide))
      refine own_iload X11 (pc' := 160) at_158 rfl rfl ?_
      refine own_iconst X11 (v := (5 : Int32)) (pc' := 161) at_160 rfl (by decide) ?_
      refine own_icmp_lt X11 (pct := 178) (pc' := 164) at_161 rfl (by decide) (by decide) (fun _ => ?_) (fun hc => absurd hc (by decide))
      refine own_aload X11 (pc' := 180) at_178 rfl rfl rfl ?_
      refine own_iload X11 (pc' := 182) at_180 rfl rfl ?_
      refine own_iload X11 (pc' := 184) at_182 rfl rfl ?_
      refine own_callS X11 (W := 0) (argsL := [(.ref ad1), (.int (4 : Int32)), (.int (0 : Int32))]) (rest := []) (S' := [(.int (own_dig 0 []))]) (pc' := 187) (rm2_40 l Z a0 hw n0 ad1 h11 X11.size (own_mk raw flags (0 : Int32)) (own_mk raw flags (1 : Int32)) (own_mk raw flags (2 : Int32)) (own_mk raw flags (3 : Int32)) (own_mk raw flags (4 : Int32)) A11) (hw _ (List.mem_of_getElem? (i := 7) rfl)) (hw _ (List.mem_of_getElem? (i := 8) rfl)) (hw _ (List.mem_of_getElem? (i := 9) rfl)) (hw _ (List.mem_of_getElem? (i := 10) rfl)) (by decide) (by decide) (by decide) rfl rfl (by decide) (by decide) (lenOf pd_1 rfl) rfl (by first | decide | exact Nat.le_of_eq rfl) rfl at_184 rfl rfl ?_
      intro T18 h18 X18 qq18
      rw [show h18 = h11 from qq18] at X18
      refine own_istore X18 (pc' := 189) (Ls' := #[.val (.long raw), .second, .val (.int flags), .val (.int ff), .val (.int ll), .val (.ref ad1), .val (.int (0 : Int32)), .val (.int (4 : Int32)), .val (.int (0 : Int32)), .val (.int (own_dig 0 []))]) at_187 rfl rfl ?_
      refine own_iload X18 (pc' := 191) at_189 rfl rfl ?_
      refine own_iload X18 (pc' := 193) at_191 rfl rfl ?_
      refine own_icmp_ne X18 (pct := 200) (pc' := 196) at_193 rfl (by decide) (by decide) (fun hc => absurd hc (fun q => q (own_e0 ))) (fun _ => ?_)
      refine own_iconst X18 (v := (1 : Int32)) (pc' := 197) at_196 rfl (by decide) ?_
      refine own_goto X18 (pc' := 201) at_197 (by decide) (by decide) ?_
      subst hΦ
      exact own_retZ X18 at_201 (by decide) (by decide) (by decide) rfl trivial
    · refine own_iconst X11 (v := (0 : Int32)) (pc' := 78) at_77 rfl (by decide) ?_
      refine own_istore X11 (pc' := 80) (Ls' := #[.val (.long raw), .second, .val (.int flags), .val (.int ff), .val (.int ll), .val (.ref ad1), .val (.int (0 : Int32)), .val (.int (5 : Int32)), .val (.int (0 : Int32)), .unset]) at_78 rfl rfl ?_
      refine own_iload X11 (pc' := 82) at_80 rfl rfl ?_
      refine own_iconst X11 (v := (1 : Int32)) (pc' := 83) at_82 rfl (by decide) ?_
      refine own_icmp_lt X11 (pct := 98) (pc' := 86) at_83 rfl (by decide) (by decide) (fun _ => ?_) (fun hc => absurd hc (by decide))
      refine own_iload X11 (pc' := 100) at_98 rfl rfl ?_
      refine own_iconst X11 (v := (2 : Int32)) (pc' := 101) at_100 rfl (by decide) ?_
      refine own_icmp_lt X11 (pct := 118) (pc' := 104) at_101 rfl (by decide) (by decide) (fun _ => ?_) (fun hc => absurd hc (by decide))
      refine own_iload X11 (pc' := 120) at_118 rfl rfl ?_
      refine own_iconst X11 (v := (3 : Int32)) (pc' := 121) at_120 rfl (by decide) ?_
      refine own_icmp_lt X11 (pct := 138) (pc' := 124) at_121 rfl (by decide) (by decide) (fun _ => ?_) (fun hc => absurd hc (by decide))
      refine own_iload X11 (pc' := 140) at_138 rfl rfl ?_
      refine own_iconst X11 (v := (4 : Int32)) (pc' := 141) at_140 rfl (by decide) ?_
      refine own_icmp_lt X11 (pct := 158) (pc' := 144) at_141 rfl (by decide) (by decide) (fun _ => ?_) (fun hc => absurd hc (by decide))
      refine own_iload X11 (pc' := 160) at_158 rfl rfl ?_
      refine own_iconst X11 (v := (5 : Int32)) (pc' := 161) at_160 rfl (by decide) ?_
      refine own_icmp_lt X11 (pct := 178) (pc' := 164) at_161 rfl (by decide) (by decide) (fun _ => ?_) (fun hc => absurd hc (by decide))
      refine own_aload X11 (pc' := 180) at_178 rfl rfl rfl ?_
      refine own_iload X11 (pc' := 182) at_180 rfl rfl ?_
      refine own_iload X11 (pc' := 184) at_182 rfl rfl ?_
      refine own_callS X11 (W := 0) (argsL := [(.ref ad1), (.int (5 : Int32)), (.int (0 : Int32))]) (rest := []) (S' := [(.int (own_dig 0 []))]) (pc' := 187) (rm2_50 l Z a0 hw n0 ad1 h11 X11.size (own_mk raw flags (0 : Int32)) (own_mk raw flags (1 : Int32)) (own_mk raw flags (2 : Int32)) (own_mk raw flags (3 : Int32)) (own_mk raw flags (4 : Int32)) A11) (hw _ (List.mem_of_getElem? (i := 7) rfl)) (hw _ (List.mem_of_getElem? (i := 8) rfl)) (hw _ (List.mem_of_getElem? (i := 9) rfl)) (hw _ (List.mem_of_getElem? (i := 10) rfl)) (by decide) (by decide) (by decide) rfl rfl (by decide) (by decide) (lenOf pd_1 rfl) rfl (by first | decide | exact Nat.le_of_eq rfl) rfl at_184 rfl rfl ?_
      intro T19 h19 X19 qq19
      rw [show h19 = h11 from qq19] at X19
      refine own_istore X19 (pc' := 189) (Ls' := #[.val (.long raw), .second, .val (.int flags), .val (.int ff), .val (.int ll), .val (.ref ad1), .val (.int (0 : Int32)), .val (.int (5 : Int32)), .val (.int (0 : Int32)), .val (.int (own_dig 0 []))]) at_187 rfl rfl ?_
      refine own_iload X19 (pc' := 191) at_189 rfl rfl ?_
      refine own_iload X19 (pc' := 193) at_191 rfl rfl ?_
      refine own_icmp_ne X19 (pct := 200) (pc' := 196) at_193 rfl (by decide) (by decide) (fun hc => absurd hc (fun q => q (own_e0 ))) (fun _ => ?_)
      refine own_iconst X19 (v := (1 : Int32)) (pc' := 197) at_196 rfl (by decide) ?_
      refine own_goto X19 (pc' := 201) at_197 (by decide) (by decide) ?_
      subst hΦ
      exact own_retZ X19 at_201 (by decide) (by decide) (by decide) rfl trivial
  · refine own_iloadN X11 (pc' := 66) at_65 rfl rfl ?_
    refine own_ldc X11 (pc' := 68) (hw _ (List.mem_of_getElem? (i := 6) rfl)) at_66 rfl ?_
    refine own_iand X11 (r := (ff &&& (2147483647 : Int32))) (pc' := 69) at_68 rfl rfl ?_
    refine own_bipush X11 (v := (6 : Int32)) (pc' := 71) at_69 rfl (by decide) ?_
    refine own_iload X11 (pc' := 73) at_71 rfl rfl ?_
    refine own_isub X11 (r := (5 : Int32)) (pc' := 74) at_73 rfl (by decide) ?_
    refine own_irem X11 (r := ((ff &&& (2147483647 : Int32)) - ((ff &&& (2147483647 : Int32)) / (5 : Int32)) * (5 : Int32))) (pc' := 75) at_74 rfl (by decide) rfl ?_
    refine own_istore X11 (pc' := 77) (Ls' := #[.val (.long raw), .second, .val (.int flags), .val (.int ff), .val (.int ll), .val (.ref ad1), .val (.int (1 : Int32)), .val (.int ((ff &&& (2147483647 : Int32)) - ((ff &&& (2147483647 : Int32)) / (5 : Int32)) * (5 : Int32))), .unset, .unset]) at_75 rfl rfl ?_
    generalize e20 : ((ff &&& (2147483647 : Int32)) - ((ff &&& (2147483647 : Int32)) / (5 : Int32)) * (5 : Int32)) = v20
    rcases own_c5 (own_rem 5 (by decide) e20) with rfl | rfl | rfl | rfl | rfl
    · refine own_iconst X11 (v := (0 : Int32)) (pc' := 78) at_77 rfl (by decide) ?_
      refine own_istore X11 (pc' := 80) (Ls' := #[.val (.long raw), .second, .val (.int flags), .val (.int ff), .val (.int ll), .val (.ref ad1), .val (.int (1 : Int32)), .val (.int (0 : Int32)), .val (.int (0 : Int32)), .unset]) at_78 rfl rfl ?_
      refine own_iload X11 (pc' := 82) at_80 rfl rfl ?_
      refine own_iconst X11 (v := (1 : Int32)) (pc' := 83) at_82 rfl (by decide) ?_
      refine own_icmp_lt X11 (pct := 98) (pc' := 86) at_83 rfl (by decide) (by decide) (fun hc => absurd hc (by decide)) (fun _ => ?_)
      refine own_iload X11 (pc' := 88) at_86 rfl rfl ?_
      refine own_aload X11 (pc' := 90) at_88 rfl rfl rfl ?_
      refine own_iload X11 (pc' := 92) at_90 rfl rfl ?_
      refine own_baload X11 (v := (own_mk raw flags (0 : Int32))) (pc' := 93) A11 rfl rfl at_92 rfl ?_
      refine own_callS X11 (W := 0) (argsL := [(.int (0 : Int32)), (.int (own_mk raw flags (0 : Int32)))]) (rest := []) (S' := [(.int (own_step (0 : Int32) (own_mk raw flags (0 : Int32))))]) (pc' := 96) (rm3 l Z a0 hw n0 (0 : Int32) (own_mk raw flags (0 : Int32)) h11 X11.size) (hw _ (List.mem_of_getElem? (i := 11) rfl)) (hw _ (List.mem_of_getElem? (i := 12) rfl)) (hw _ (List.mem_of_getElem? (i := 3) rfl)) (hw _ (List.mem_of_getElem? (i := 13) rfl)) (by decide) (by decide) (by decide) rfl rfl (by decide) (by decide) (lenOf pd_2 rfl) rfl (by first | decide | exact Nat.le_of_eq rfl) rfl at_93 rfl rfl ?_
      intro T21 h21 X21 qq21
      rw [show h21 = h11 from qq21] at X21
      refine own_istore X21 (pc' := 98) (Ls' := #[.val (.long raw), .second, .val (.int flags), .val (.int ff), .val (.int ll), .val (.ref ad1), .val (.int (1 : Int32)), .val (.int (0 : Int32)), .val (.int (own_step (0 : Int32) (own_mk raw flags (0 : Int32)))), .unset]) at_96 rfl rfl ?_
      refine own_iload X21 (pc' := 100) at_98 rfl rfl ?_
      refine own_iconst X21 (v := (2 : Int32)) (pc' := 101) at_100 rfl (by decide) ?_
      refine own_icmp_lt X21 (pct := 118) (pc' := 104) at_101 rfl (by decide) (by decide) (fun _ => ?_) (fun hc => absurd hc (by decide))
      refine own_iload X21 (pc' := 120) at_118 rfl rfl ?_
      refine own_iconst X21 (v := (3 : Int32)) (pc' := 121) at_120 rfl (by decide) ?_
      refine own_icmp_lt X21 (pct := 138) (pc' := 124) at_121 rfl (by decide) (by decide) (fun _ => ?_) (fun hc => absurd hc (by decide))
      refine own_iload X21 (pc' := 140) at_138 rfl rfl ?_
      refine own_iconst X21 (v := (4 : Int32)) (pc' := 141) at_140 rfl (by decide) ?_
      refine own_icmp_lt X21 (pct := 158) (pc' := 144) at_141 rfl (by decide) (by decide) (fun _ => ?_) (fun hc => absurd hc (by decide))
      refine own_iload X21 (pc' := 160) at_158 rfl rfl ?_
      refine own_iconst X21 (v := (5 : Int32)) (pc' := 161) at_160 rfl (by decide) ?_
      refine own_icmp_lt X21 (pct := 178) (pc' := 164) at_161 rfl (by decide) (by decide) (fun _ => ?_) (fun hc => absurd hc (by decide))
      refine own_aload X21 (pc' := 180) at_178 rfl rfl rfl ?_
      refine own_iload X21 (pc' := 182) at_180 rfl rfl ?_
      refine own_iload X21 (pc' := 184) at_182 rfl rfl ?_
      refine own_callS X21 (W := 0) (argsL := [(.ref ad1), (.int (0 : Int32)), (.int (1 : Int32))]) (rest := []) (S' := [(.int (own_dig 0 [(own_mk raw flags (0 : Int32))]))]) (pc' := 187) (rm2_01 l Z a0 hw n0 ad1 h11 X21.size (own_mk raw flags (0 : Int32)) (own_mk raw flags (1 : Int32)) (own_mk raw flags (2 : Int32)) (own_mk raw flags (3 : Int32)) (own_mk raw flags (4 : Int32)) A11) (hw _ (List.mem_of_getElem? (i := 7) rfl)) (hw _ (List.mem_of_getElem? (i := 8) rfl)) (hw _ (List.mem_of_getElem? (i := 9) rfl)) (hw _ (List.mem_of_getElem? (i := 10) rfl)) (by decide) (by decide) (by decide) rfl rfl (by decide) (by decide) (lenOf pd_1 rfl) rfl (by first | decide | exact Nat.le_of_eq rfl) rfl at_184 rfl rfl ?_
      intro T22 h22 X22 qq22
      rw [show h22 = h11 from qq22] at X22
      refine own_istore X22 (pc' := 189) (Ls' := #[.val (.long raw), .second, .val (.int flags), .val (.int ff), .val (.int ll), .val (.ref ad1), .val (.int (1 : Int32)), .val (.int (0 : Int32)), .val (.int (own_step (0 : Int32) (own_mk raw flags (0 : Int32)))), .val (.int (own_dig 0 [(own_mk raw flags (0 : Int32))]))]) at_187 rfl rfl ?_
      refine own_iload X22 (pc' := 191) at_189 rfl rfl ?_
      refine own_iload X22 (pc' := 193) at_191 rfl rfl ?_
      refine own_icmp_ne X22 (pct := 200) (pc' := 196) at_193 rfl (by decide) (by decide) (fun hc => absurd hc (fun q => q (own_e1 (own_mk_rg _ _ _)))) (fun _ => ?_)
      refine own_iconst X22 (v := (1 : Int32)) (pc' := 197) at_196 rfl (by decide) ?_
      refine own_goto X22 (pc' := 201) at_197 (by decide) (by decide) ?_
      subst hΦ
      exact own_retZ X22 at_201 (by decide) (by decide) (by decide) rfl trivial
    · refine own_iconst X11 (v := (0 : Int32)) (pc' := 78) at_77 rfl (by decide) ?_
      refine own_istore X11 (pc' := 80) (Ls' := #[.val (.long raw), .second, .val (.int flags), .val (.int ff), .val (.int ll), .val (.ref ad1), .val (.int (1 : Int32)), .val (.int (1 : Int32)), .val (.int (0 : Int32)), .unset]) at_78 rfl rfl ?_
      refine own_iload X11 (pc' := 82) at_80 rfl rfl ?_
      refine own_iconst X11 (v := (1 : Int32)) (pc' := 83) at_82 rfl (by decide) ?_
      refine own_icmp_lt X11 (pct := 98) (pc' := 86) at_83 rfl (by decide) (by decide) (fun hc => absurd hc (by decide)) (fun _ => ?_)
      refine own_iload X11 (pc' := 88) at_86 rfl rfl ?_
      refine own_aload X11 (pc' := 90) at_88 rfl rfl rfl ?_
      refine own_iload X11 (pc' := 92) at_90 rfl rfl ?_
      refine own_baload X11 (v := (own_mk raw flags (1 : Int32))) (pc' := 93) A11 rfl rfl at_92 rfl ?_
      refine own_callS X11 (W := 0) (argsL := [(.int (0 : Int32)), (.int (own_mk raw flags (1 : Int32)))]) (rest := []) (S' := [(.int (own_step (0 : Int32) (own_mk raw flags (1 : Int32))))]) (pc' := 96) (rm3 l Z a0 hw n0 (0 : Int32) (own_mk raw flags (1 : Int32)) h11 X11.size) (hw _ (List.mem_of_getElem? (i := 11) rfl)) (hw _ (List.mem_of_getElem? (i := 12) rfl)) (hw _ (List.mem_of_getElem? (i := 3) rfl)) (hw _ (List.mem_of_getElem? (i := 13) rfl)) (by decide) (by decide) (by decide) rfl rfl (by decide) (by decide) (lenOf pd_2 rfl) rfl (by first | decide | exact Nat.le_of_eq rfl) rfl at_93 rfl rfl ?_
      intro T23 h23 X23 qq23
      rw [show h23 = h11 from qq23] at X23
      refine own_istore X23 (pc' := 98) (Ls' := #[.val (.long raw), .second, .val (.int flags), .val (.int ff), .val (.int ll), .val (.ref ad1), .val (.int (1 : Int32)), .val (.int (1 : Int32)), .val (.int (own_step (0 : Int32) (own_mk raw flags (1 : Int32)))), .unset]) at_96 rfl rfl ?_
      refine own_iload X23 (pc' := 100) at_98 rfl rfl ?_
      refine own_iconst X23 (v := (2 : Int32)) (pc' := 101) at_100 rfl (by decide) ?_
      refine own_icmp_lt X23 (pct := 118) (pc' := 104) at_101 rfl (by decide) (by decide) (fun _ => ?_) (fun hc => absurd hc (by decide))
      refine own_iload X23 (pc' := 120) at_118 rfl rfl ?_
      refine own_iconst X23 (v := (3 : Int32)) (pc' := 121) at_120 rfl (by decide) ?_
      refine own_icmp_lt X23 (pct := 138) (pc' := 124) at_121 rfl (by decide) (by decide) (fun _ => ?_) (fun hc => absurd hc (by decide))
      refine own_iload X23 (pc' := 140) at_138 rfl rfl ?_
      refine own_iconst X23 (v := (4 : Int32)) (pc' := 141) at_140 rfl (by decide) ?_
      refine own_icmp_lt X23 (pct := 158) (pc' := 144) at_141 rfl (by decide) (by decide) (fun _ => ?_) (fun hc => absurd hc (by decide))
      refine own_iload X23 (pc' := 160) at_158 rfl rfl ?_
      refine own_iconst X23 (v := (5 : Int32)) (pc' := 161) at_160 rfl (by decide) ?_
      refine own_icmp_lt X23 (pct := 178) (pc' := 164) at_161 rfl (by decide) (by decide) (fun _ => ?_) (fun hc => absurd hc (by decide))
      refine own_aload X23 (pc' := 180) at_178 rfl rfl rfl ?_
      refine own_iload X23 (pc' := 182) at_180 rfl rfl ?_
      refine own_iload X23 (pc' := 184) at_182 rfl rfl ?_
      refine own_callS X23 (W := 0) (argsL := [(.ref ad1), (.int (1 : Int32)), (.int (1 : Int32))]) (rest := []) (S' := [(.int (own_dig 0 [(own_mk raw flags (1 : Int32))]))]) (pc' := 187) (rm2_11 l Z a0 hw n0 ad1 h11 X23.size (own_mk raw flags (0 : Int32)) (own_mk raw flags (1 : Int32)) (own_mk raw flags (2 : Int32)) (own_mk raw flags (3 : Int32)) (own_mk raw flags (4 : Int32)) A11) (hw _ (List.mem_of_getElem? (i := 7) rfl)) (hw _ (List.mem_of_getElem? (i := 8) rfl)) (hw _ (List.mem_of_getElem? (i := 9) rfl)) (hw _ (List.mem_of_getElem? (i := 10) rfl)) (by decide) (by decide) (by decide) rfl rfl (by decide) (by decide) (lenOf pd_1 rfl) rfl (by first | decide | exact Nat.le_of_eq rfl) rfl at_184 rfl rfl ?_
      intro T24 h24 X24 qq24
      rw [show h24 = h11 from qq24] at X24
      refine own_istore X24 (pc' := 189) (Ls' := #[.val (.long raw), .second, .val (.int flags), .val (.int ff), .val (.int ll), .val (.ref ad1), .val (.int (1 : Int32)), .val (.int (1 : Int32)), .val (.int (own_step (0 : Int32) (own_mk raw flags (1 : Int32)))), .val (.int (own_dig 0 [(own_mk raw flags (1 : Int32))]))]) at_187 rfl rfl ?_
      refine own_iload X24 (pc' := 191) at_189 rfl rfl ?_
      refine own_iload X24 (pc' := 193) at_191 rfl rfl ?_
      refine own_icmp_ne X24 (pct := 200) (pc' := 196) at_193 rfl (by decide) (by decide) (fun hc => absurd hc (fun q => q (own_e1 (own_mk_rg _ _ _)))) (fun _ => ?_)
      refine own_iconst X24 (v := (1 : Int32)) (pc' := 197) at_196 rfl (by decide) ?_
      refine own_goto X24 (pc' := 201) at_197 (by decide) (by decide) ?_
      subst hΦ
      exact own_retZ X24 at_201 (by decide) (by decide) (by decide) rfl trivial
    · refine own_iconst X11 (v := (0 : Int32)) (pc' := 78) at_77 rfl (by decide) ?_
      refine own_istore X11 (pc' := 80) (Ls' := #[.val (.long raw), .second, .val (.int flags), .val (.int ff), .val (.int ll), .val (.ref ad1), .val (.int (1 : Int32)), .val (.int (2 : Int32)), .val (.int (0 : Int32)), .unset]) at_78 rfl rfl ?_
      refine own_iload X11 (pc' := 82) at_80 rfl rfl ?_
      refine own_iconst X11 (v := (1 : Int32)) (pc' := 83) at_82 rfl (by decide) ?_
      refine own_icmp_lt X11 (pct := 98) (pc' := 86) at_83 rfl (by decide) (by decide) (fun hc => absurd hc (by decide)) (fun _ => ?_)
      refine own_iload X11 (pc' := 88) at_86 rfl rfl ?_
      refine own_aload X11 (pc' := 90) at_88 rfl rfl rfl ?_
      refine own_iload X11 (pc' := 92) at_90 rfl rfl ?_
      refine own_baload X11 (v := (own_mk raw flags (2 : Int32))) (pc' := 93) A11 rfl rfl at_92 rfl ?_
      refine own_callS X11 (W := 0) (argsL := [(.int (0 : Int32)), (.int (own_mk raw flags (2 : Int32)))]) (rest := []) (S' := [(.int (own_step (0 : Int32) (own_mk raw flags (2 : Int32))))]) (pc' := 96) (rm3 l Z a0 hw n0 (0 : Int32) (own_mk raw flags (2 : Int32)) h11 X11.size) (hw _ (List.mem_of_getElem? (i := 11) rfl)) (hw _ (List.mem_of_getElem? (i := 12) rfl)) (hw _ (List.mem_of_getElem? (i := 3) rfl)) (hw _ (List.mem_of_getElem? (i := 13) rfl)) (by decide) (by decide) (by decide) rfl rfl (by decide) (by decide) (lenOf pd_2 rfl) rfl (by first | decide | exact Nat.le_of_eq rfl) rfl at_93 rfl rfl ?_
      intro T25 h25 X25 qq25
      rw [show h25 = h11 from qq25] at X25
      refine own_istore X25 (pc' := 98) (Ls' := #[.val (.long raw), .second, .val (.int flags), .val (.int ff), .val (.int ll), .val (.ref ad1), .val (.int (1 : Int32)), .val (.int (2 : Int32)), .val (.int (own_step (0 : Int32) (own_mk raw flags (2 : Int32)))), .unset]) at_96 rfl rfl ?_
      refine own_iload X25 (pc' := 100) at_98 rfl rfl ?_
      refine own_iconst X25 (v := (2 : Int32)) (pc' := 101) at_100 rfl (by decide) ?_
      refine own_icmp_lt X25 (pct := 118) (pc' := 104) at_101 rfl (by decide) (by decide) (fun _ => ?_) (fun hc => absurd hc (by decide))
      refine own_iload X25 (pc' := 120) at_118 rfl rfl ?_
      refine own_iconst X25 (v := (3 : Int32)) (pc' := 121) at_120 rfl (by decide) ?_
      refine own_icmp_lt X25 (pct := 138) (pc' := 124) at_121 rfl (by decide) (by decide) (fun _ => ?_) (fun hc => absurd hc (by decide))
      refine own_iload X25 (pc' := 140) at_138 rfl rfl ?_
      refine own_iconst X25 (v := (4 : Int32)) (pc' := 141) at_140 rfl (by decide) ?_
      refine own_icmp_lt X25 (pct := 158) (pc' := 144) at_141 rfl (by decide) (by decide) (fun _ => ?_) (fun hc => absurd hc (by decide))
      refine own_iload X25 (pc' := 160) at_158 rfl rfl ?_
      refine own_iconst X25 (v := (5 : Int32)) (pc' := 161) at_160 rfl (by decide) ?_
      refine own_icmp_lt X25 (pct := 178) (pc' := 164) at_161 rfl (by decide) (by decide) (fun _ => ?_) (fun hc => absurd hc (by decide))
      refine own_aload X25 (pc' := 180) at_178 rfl rfl rfl ?_
      refine own_iload X25 (pc' := 182) at_180 rfl rfl ?_
      refine own_iload X25 (pc' := 184) at_182 rfl rfl ?_
      refine own_callS X25 (W := 0) (argsL := [(.ref ad1), (.int (2 : Int32)), (.int (1 : Int32))]) (rest := []) (S' := [(.int (own_dig 0 [(own_mk raw flags (2 : Int32))]))]) (pc' := 187) (rm2_21 l Z a0 hw n0 ad1 h11 X25.size (own_mk raw flags (0 : Int32)) (own_mk raw flags (1 : Int32)) (own_mk raw flags (2 : Int32)) (own_mk raw flags (3 : Int32)) (own_mk raw flags (4 : Int32)) A11) (hw _ (List.mem_of_getElem? (i := 7) rfl)) (hw _ (List.mem_of_getElem? (i := 8) rfl)) (hw _ (List.mem_of_getElem? (i := 9) rfl)) (hw _ (List.mem_of_getElem? (i := 10) rfl)) (by decide) (by decide) (by decide) rfl rfl (by decide) (by decide) (lenOf pd_1 rfl) rfl (by first | decide | exact Nat.le_of_eq rfl) rfl at_184 rfl rfl ?_
      intro T26 h26 X26 qq26
      rw [show h26 = h11 from qq26] at X26
      refine own_istore X26 (pc' := 189) (Ls' := #[.val (.long raw), .second, .val (.int flags), .val (.int ff), .val (.int ll), .val (.ref ad1), .val (.int (1 : Int32)), .val (.int (2 : Int32)), .val (.int (own_step (0 : Int32) (own_mk raw flags (2 : Int32)))), .val (.int (own_dig 0 [(own_mk raw flags (2 : Int32))]))]) at_187 rfl rfl ?_
      refine own_iload X26 (pc' := 191) at_189 rfl rfl ?_
      refine own_iload X26 (pc' := 193) at_191 rfl rfl ?_
      refine own_icmp_ne X26 (pct := 200) (pc' := 196) at_193 rfl (by decide) (by decide) (fun hc => absurd hc (fun q => q (own_e1 (own_mk_rg _ _ _)))) (fun _ => ?_)
      refine own_iconst X26 (v := (1 : Int32)) (pc' := 197) at_196 rfl (by decide) ?_
      refine own_goto X26 (pc' := 201) at_197 (by decide) (by decide) ?_
      subst hΦ
      exact own_retZ X26 at_201 (by decide) (by decide) (by decide) rfl trivial
    · refine own_iconst X11 (v := (0 : Int32)) (pc' := 78) at_77 rfl (by decide) ?_
      refine own_istore X11 (pc' := 80) (Ls' := #[.val (.long raw), .second, .val (.int flags), .val (.int ff), .val (.int ll), .val (.ref ad1), .val (.int (1 : Int32)), .val (.int (3 : Int32)), .val (.int (0 : Int32)), .unset]) at_78 rfl rfl ?_
      refine own_iload X11 (pc' := 82) at_80 rfl rfl ?_
      refine own_iconst X11 (v := (1 : Int32)) (pc' := 83) at_82 rfl (by decide) ?_
      refine own_icmp_lt X11 (pct := 98) (pc' := 86) at_83 rfl (by decide) (by decide) (fun hc => absurd hc (by decide)) (fun _ => ?_)
      refine own_iload X11 (pc' := 88) at_86 rfl rfl ?_
      refine own_aload X11 (pc' := 90) at_88 rfl rfl rfl ?_
      refine own_iload X11 (pc' := 92) at_90 rfl rfl ?_
      refine own_baload X11 (v := (own_mk raw flags (3 : Int32))) (pc' := 93) A11 rfl rfl at_92 rfl ?_
      refine own_callS X11 (W := 0) (argsL := [(.int (0 : Int32)), (.int (own_mk raw flags (3 : Int32)))]) (rest := []) (S' := [(.int (own_step (0 : Int32) (own_mk raw flags (3 : Int32))))]) (pc' := 96) (rm3 l Z a0 hw n0 (0 : Int32) (own_mk raw flags (3 : Int32)) h11 X11.size) (hw _ (List.mem_of_getElem? (i := 11) rfl)) (hw _ (List.mem_of_getElem? (i := 12) rfl)) (hw _ (List.mem_of_getElem? (i := 3) rfl)) (hw _ (List.mem_of_getElem? (i := 13) rfl)) (by decide) (by decide) (by decide) rfl rfl (by decide) (by decide) (lenOf pd_2 rfl) rfl (by first | decide | exact Nat.le_of_eq rfl) rfl at_93 rfl rfl ?_
      intro T27 h27 X27 qq27
      rw [show h27 = h11 from qq27] at X27
      refine own_istore X27 (pc' := 98) (Ls' := #[.val (.long raw), .second, .val (.int flags), .val (.int ff), .val (.int ll), .val (.ref ad1), .val (.int (1 : Int32)), .val (.int (3 : Int32)), .val (.int (own_step (0 : Int32) (own_mk raw flags (3 : Int32)))), .unset]) at_96 rfl rfl ?_
      refine own_iload X27 (pc' := 100) at_98 rfl rfl ?_
      refine own_iconst X27 (v := (2 : Int32)) (pc' := 101) at_100 rfl (by decide) ?_
      refine own_icmp_lt X27 (pct := 118) (pc' := 104) at_101 rfl (by decide) (by decide) (fun _ => ?_) (fun hc => absurd hc (by decide))
      refine own_iload X27 (pc' := 120) at_118 rfl rfl ?_
      refine own_iconst X27 (v := (3 : Int32)) (pc' := 121) at_120 rfl (by decide) ?_
      refine own_icmp_lt X27 (pct := 138) (pc' := 124) at_121 rfl (by decide) (by decide) (fun _ => ?_) (fun hc => absurd hc (by decide))
      refine own_iload X27 (pc' := 140) at_138 rfl rfl ?_
      refine own_iconst X27 (v := (4 : Int32)) (pc' := 141) at_140 rfl (by decide) ?_
      refine own_icmp_lt X27 (pct := 158) (pc' := 144) at_141 rfl (by decide) (by decide) (fun _ => ?_) (fun hc => absurd hc (by decide))
      refine own_iload X27 (pc' := 160) at_158 rfl rfl ?_
      refine own_iconst X27 (v := (5 : Int32)) (pc' := 161) at_160 rfl (by decide) ?_
      refine own_icmp_lt X27 (pct := 178) (pc' := 164) at_161 rfl (by decide) (by decide) (fun _ => ?_) (fun hc => absurd hc (by decide))
      refine own_aload X27 (pc' := 180) at_178 rfl rfl rfl ?_
      refine own_iload X27 (pc' := 182) at_180 rfl rfl ?_
      refine own_iload X27 (pc' := 184) at_182 rfl rfl ?_
      refine own_callS X27 (W := 0) (argsL := [(.ref ad1), (.int (3 : Int32)), (.int (1 : Int32))]) (rest := []) (S' := [(.int (own_dig 0 [(own_mk raw flags (3 : Int32))]))]) (pc' := 187) (rm2_31 l Z a0 hw n0 ad1 h11 X27.size (own_mk raw flags (0 : Int32)) (own_mk raw flags (1 : Int32)) (own_mk raw flags (2 : Int32)) (own_mk raw flags (3 : Int32)) (own_mk raw flags (4 : Int32)) A11) (hw _ (List.mem_of_getElem? (i := 7) rfl)) (hw _ (List.mem_of_getElem? (i := 8) rfl)) (hw _ (List.mem_of_getElem? (i := 9) rfl)) (hw _ (List.mem_of_getElem? (i := 10) rfl)) (by decide) (by decide) (by decide) rfl rfl (by decide) (by decide) (lenOf pd_1 rfl) rfl (by first | decide | exact Nat.le_of_eq rfl) rfl at_184 rfl rfl ?_
      intro T28 h28 X28 qq28
      rw [show h28 = h11 from qq28] at X28
      refine own_istore X28 (pc' := 189) (Ls' := #[.val (.long raw), .second, .val (.int flags), .val (.int ff), .val (.int ll), .val (.ref ad1), .val (.int (1 : Int32)), .val (.int (3 : Int32)), .val (.int (own_step (0 : Int32) (own_mk raw flags (3 : Int32)))), .val (.int (own_dig 0 [(own_mk raw flags (3 : Int32))]))]) at_187 rfl rfl ?_
      refine own_iload X28 (pc' := 191) at_189 rfl rfl ?_
      refine own_iload X28 (pc' := 193) at_191 rfl rfl ?_
      refine own_icmp_ne X28 (pct := 200) (pc' := 196) at_193 rfl (by decide) (by decide) (fun hc => absurd hc (fun q => q (own_e1 (own_mk_rg _ _ _)))) (fun _ => ?_)
      refine own_iconst X28 (v := (1 : Int32)) (pc' := 197) at_196 rfl (by decide) ?_
      refine own_goto X28 (pc' := 201) at_197 (by decide) (by decide) ?_
      subst hΦ
      exact own_retZ X28 at_201 (by decide) (by decide) (by decide) rfl trivial
    · refine own_iconst X11 (v := (0 : Int32)) (pc' := 78) at_77 rfl (by decide) ?_
      refine own_istore X11 (pc' := 80) (Ls' := #[.val (.long raw), .second, .val (.int flags), .val (.int ff), .val (.int ll), .val (.ref ad1), .val (.int (1 : Int32)), .val (.int (4 : Int32)), .val (.int (0 : Int32)), .unset]) at_78 rfl rfl ?_
      refine own_iload X11 (pc' := 82) at_80 rfl rfl ?_
      refine own_iconst X11 (v := (1 : Int32)) (pc' := 83) at_82 rfl (by decide) ?_
      refine own_icmp_lt X11 (pct := 98) (pc' := 86) at_83 rfl (by decide) (by decide) (fun hc => absurd hc (by decide)) (fun _ => ?_)
      refine own_iload X11 (pc' := 88) at_86 rfl rfl ?_
      refine own_aload X11 (pc' := 90) at_88 rfl rfl rfl ?_
      refine own_iload X11 (pc' := 92) at_90 rfl rfl ?_
      refine own_baload X11 (v := (own_mk raw flags (4 : Int32))) (pc' := 93) A11 rfl rfl at_92 rfl ?_
      refine own_callS X11 (W := 0) (argsL := [(.int (0 : Int32)), (.int (own_mk raw flags (4 : Int32)))]) (rest := []) (S' := [(.int (own_step (0 : Int32) (own_mk raw flags (4 : Int32))))]) (pc' := 96) (rm3 l Z a0 hw n0 (0 : Int32) (own_mk raw flags (4 : Int32)) h11 X11.size) (hw _ (List.mem_of_getElem? (i := 11) rfl)) (hw _ (List.mem_of_getElem? (i := 12) rfl)) (hw _ (List.mem_of_getElem? (i := 3) rfl)) (hw _ (List.mem_of_getElem? (i := 13) rfl)) (by decide) (by decide) (by decide) rfl rfl (by decide) (by decide) (lenOf pd_2 rfl) rfl (by first | decide | exact Nat.le_of_eq rfl) rfl at_93 rfl rfl ?_
      intro T29 h29 X29 qq29
      rw [show h29 = h11 from qq29] at X29
      refine own_istore X29 (pc' := 98) (Ls' := #[.val (.long raw), .second, .val (.int flags), .val (.int ff), .val (.int ll), .val (.ref ad1), .val (.int (1 : Int32)), .val (.int (4 : Int32)), .val (.int (own_step (0 : Int32) (own_mk raw flags (4 : Int32)))), .unset]) at_96 rfl rfl ?_
      refine own_iload X29 (pc' := 100) at_98 rfl rfl ?_
      refine own_iconst X29 (v := (2 : Int32)) (pc' := 101) at_100 rfl (by decide) ?_
      refine own_icmp_lt X29 (pct := 118) (pc' := 104) at_101 rfl (by decide) (by decide) (fun _ => ?_) (fun hc => absurd hc (by decide))
      refine own_iload X29 (pc' := 120) at_118 rfl rfl ?_
      refine own_iconst X29 (v := (3 : Int32)) (pc' := 121) at_120 rfl (by decide) ?_
      refine own_icmp_lt X29 (pct := 138) (pc' := 124) at_121 rfl (by decide) (by decide) (fun _ => ?_) (fun hc => absurd hc (by decide))
      refine own_iload X29 (pc' := 140) at_138 rfl rfl ?_
      refine own_iconst X29 (v := (4 : Int32)) (pc' := 141) at_140 rfl (by decide) ?_
      refine own_icmp_lt X29 (pct := 158) (pc' := 144) at_141 rfl (by decide) (by decide) (fun _ => ?_) (fun hc => absurd hc (by decide))
      refine own_iload X29 (pc' := 160) at_158 rfl rfl ?_
      refine own_iconst X29 (v := (5 : Int32)) (pc' := 161) at_160 rfl (by decide) ?_
      refine own_icmp_lt X29 (pct := 178) (pc' := 164) at_161 rfl (by decide) (by decide) (fun _ => ?_) (fun hc => absurd hc (by decide))
      refine own_aload X29 (pc' := 180) at_178 rfl rfl rfl ?_
      refine own_iload X29 (pc' := 182) at_180 rfl rfl ?_
      refine own_iload X29 (pc' := 184) at_182 rfl rfl ?_
      refine own_callS X29 (W := 0) (argsL := [(.ref ad1), (.int (4 : Int32)), (.int (1 : Int32))]) (rest := []) (S' := [(.int (own_dig 0 [(own_mk raw flags (4 : Int32))]))]) (pc' := 187) (rm2_41 l Z a0 hw n0 ad1 h11 X29.size (own_mk raw flags (0 : Int32)) (own_mk raw flags (1 : Int32)) (own_mk raw flags (2 : Int32)) (own_mk raw flags (3 : Int32)) (own_mk raw flags (4 : Int32)) A11) (hw _ (List.mem_of_getElem? (i := 7) rfl)) (hw _ (List.mem_of_getElem? (i := 8) rfl)) (hw _ (List.mem_of_getElem? (i := 9) rfl)) (hw _ (List.mem_of_getElem? (i := 10) rfl)) (by decide) (by decide) (by decide) rfl rfl (by decide) (by decide) (lenOf pd_1 rfl) rfl (by first | decide | exact Nat.le_of_eq rfl) rfl at_184 rfl rfl ?_
      intro T30 h30 X30 qq30
      rw [show h30 = h11 from qq30] at X30
      refine own_istore X30 (pc' := 189) (Ls' := #[.val (.long raw), .second, .val (.int flags), .val (.int ff), .val (.int ll), .val (.ref ad1), .val (.int (1 : Int32)), .val (.int (4 : Int32)), .val (.int (own_step (0 : Int32) (own_mk raw flags (4 : Int32)))), .val (.int (own_dig 0 [(own_mk raw flags (4 : Int32))]))]) at_187 rfl rfl ?_
      refine own_iload X30 (pc' := 191) at_189 rfl rfl ?_
      refine own_iload X30 (pc' := 193) at_191 rfl rfl ?_
      refine own_icmp_ne X30 (pct := 200) (pc' := 196) at_193 rfl (by decide) (by decide) (fun hc => absurd hc (fun q => q (own_e1 (own_mk_rg _ _ _)))) (fun _ => ?_)
      refine own_iconst X30 (v := (1 : Int32)) (pc' := 197) at_196 rfl (by decide) ?_
      refine own_goto X30 (pc' := 201) at_197 (by decide) (by decide) ?_
      subst hΦ
      exact own_retZ X30 at_201 (by decide) (by decide) (by decide) rfl trivial
  · refine own_iloadN X11 (pc' := 66) at_65 rfl rfl ?_
    refine own_ldc X11 (pc' := 68) (hw _ (List.mem_of_getElem? (i := 6) rfl)) at_66 rfl ?_
    refine own_iand X11 (r := (ff &&& (2147483647 : Int32))) (pc' := 69) at_68 rfl rfl ?_
    refine own_bipush X11 (v := (6 : Int32)) (pc' := 71) at_69 rfl (by decide) ?_
    refine own_iload X11 (pc' := 73) at_71 rfl rfl ?_
    refine own_isub X11 (r := (4 : Int32)) (pc' := 74) at_73 rfl (by decide) ?_
    refine own_irem X11 (r := ((ff &&& (2147483647 : Int32)) - ((ff &&& (2147483647 : Int32)) / (4 : Int32)) * (4 : Int32))) (pc' := 75) at_74 rfl (by decide) rfl ?_
    refine own_istore X11 (pc' := 77) (Ls' := #[.val (.long raw), .second, .val (.int flags), .val (.int ff), .val (.int ll), .val (.ref ad1), .val (.int (2 : Int32)), .val (.int ((ff &&& (2147483647 : Int32)) - ((ff &&& (2147483647 : Int32)) / (4 : Int32)) * (4 : Int32))), .unset, .unset]) at_75 rfl rfl ?_
    generalize e31 : ((ff &&& (2147483647 : Int32)) - ((ff &&& (2147483647 : Int32)) / (4 : Int32)) * (4 : Int32)) = v31
    rcases own_c4 (own_rem 4 (by decide) e31) with rfl | rfl | rfl | rfl
    · refine own_iconst X11 (v := (0 : Int32)) (pc' := 78) at_77 rfl (by decide) ?_
      refine own_istore X11 (pc' := 80) (Ls' := #[.val (.long raw), .second, .val (.int flags), .val (.int ff), .val (.int ll), .val (.ref ad1), .val (.int (2 : Int32)), .val (.int (0 : Int32)), .val (.int (0 : Int32)), .unset]) at_78 rfl rfl ?_
      refine own_iload X11 (pc' := 82) at_80 rfl rfl ?_
      refine own_iconst X11 (v := (1 : Int32)) (pc' := 83) at_82 rfl (by decide) ?_
      refine own_icmp_lt X11 (pct := 98) (pc' := 86) at_83 rfl (by decide) (by decide) (fun hc => absurd hc (by decide)) (fun _ => ?_)
      refine own_iload X11 (pc' := 88) at_86 rfl rfl ?_
      refine own_aload X11 (pc' := 90) at_88 rfl rfl rfl ?_
      refine own_iload X11 (pc' := 92) at_90 rfl rfl ?_
      refine own_baload X11 (v := (own_mk raw flags (0 : Int32))) (pc' := 93) A11 rfl rfl at_92 rfl ?_
      refine own_callS X11 (W := 0) (argsL := [(.int (0 : Int32)), (.int (own_mk raw flags (0 : Int32)))]) (rest := []) (S' := [(.int (own_step (0 : Int32) (own_mk raw flags (0 : Int32))))]) (pc' := 96) (rm3 l Z a0 hw n0 (0 : Int32) (own_mk raw flags (0 : Int32)) h11 X11.size) (hw _ (List.mem_of_getElem? (i := 11) rfl)) (hw _ (List.mem_of_getElem? (i := 12) rfl)) (hw _ (List.mem_of_getElem? (i := 3) rfl)) (hw _ (List.mem_of_getElem? (i := 13) rfl)) (by decide) (by decide) (by decide) rfl rfl (by decide) (by decide) (lenOf pd_2 rfl) rfl (by first | decide | exact Nat.le_of_eq rfl) rfl at_93 rfl rfl ?_
      intro T32 h32 X32 qq32
      rw [show h32 = h11 from qq32] at X32
      refine own_istore X32 (pc' := 98) (Ls' := #[.val (.long raw), .second, .val (.int flags), .val (.int ff), .val (.int ll), .val (.ref ad1), .val (.int (2 : Int32)), .val (.int (0 : Int32)), .val (.int (own_step (0 : Int32) (own_mk raw flags (0 : Int32)))), .unset]) at_96 rfl rfl ?_
      refine own_iload X32 (pc' := 100) at_98 rfl rfl ?_
      refine own_iconst X32 (v := (2 : Int32)) (pc' := 101) at_100 rfl (by decide) ?_
      refine own_icmp_lt X32 (pct := 118) (pc' := 104) at_101 rfl (by decide) (by decide) (fun hc => absurd hc (by decide)) (fun _ => ?_)
      refine own_iload X32 (pc' := 106) at_104 rfl rfl ?_
      refine own_aload X32 (pc' := 108) at_106 rfl rfl rfl ?_
      refine own_iload X32 (pc' := 110) at_108 rfl rfl ?_
      refine own_iconst X32 (v := (1 : Int32)) (pc' := 111) at_110 rfl (by decide) ?_
      refine own_iadd X32 (r := (1 : Int32)) (pc' := 112) at_111 rfl (by decide) ?_
      refine own_baload X32 (v := (own_mk raw flags (1 : Int32))) (pc' := 113) A11 rfl rfl at_112 rfl ?_
      refine own_callS X32 (W := 0) (argsL := [(.int (own_step (0 : Int32) (own_mk raw flags (0 : Int32)))), (.int (own_mk raw flags (1 : Int32)))]) (rest := []) (S' := [(.int (own_step (own_step (0 : Int32) (own_mk raw flags (0 : Int32))) (own_mk raw flags (1 : Int32))))]) (pc' := 116) (rm3 l Z a0 hw n0 (own_step (0 : Int32) (own_mk raw flags (0 : Int32))) (own_mk raw flags (1 : Int32)) h11 X32.size) (hw _ (List.mem_of_getElem? (i := 11) rfl)) (hw _ (List.mem_of_getElem? (i := 12) rfl)) (hw _ (List.mem_of_getElem? (i := 3) rfl)) (hw _ (List.mem_of_getElem? (i := 13) rfl)) (by decide) (by decide) (by decide) rfl rfl (by decide) (by decide) (lenOf pd_2 rfl) rfl (by first | decide | exact Nat.le_of_eq rfl) rfl at_113 rfl rfl ?_
      intro T33 h33 X33 qq33
      rw [show h33 = h11 from qq33] at X33
      refine own_istore X33 (pc' := 118) (Ls' := #[.val (.long raw), .second, .val (.int flags), .val (.int ff), .val (.int ll), .val (.ref ad1), .val (.int (2 : Int32)), .val (.int (0 : Int32)), .val (.int (own_step (own_step (0 : Int32) (own_mk raw flags (0 : Int32))) (own_mk raw flags (1 : Int32)))), .unset]) at_116 rfl rfl ?_
      refine own_iload X33 (pc' := 120) at_118 rfl rfl ?_
      refine own_iconst X33 (v := (3 : Int32)) (pc' := 121) at_120 rfl (by decide) ?_
      refine own_icmp_lt X33 (pct := 138) (pc' := 124) at_121 rfl (by decide) (by decide) (fun _ => ?_) (fun hc => absurd hc (by decide))
      refine own_iload X33 (pc' := 140) at_138 rfl rfl ?_
      refine own_iconst X33 (v := (4 : Int32)) (pc' := 141) at_140 rfl (by decide) ?_
      refine own_icmp_lt X33 (pct := 158) (pc' := 144) at_141 rfl (by decide) (by decide) (fun _ => ?_) (fun hc => absurd hc (by decide))
      refine own_iload X33 (pc' := 160) at_158 rfl rfl ?_
      refine own_iconst X33 (v := (5 : Int32)) (pc' := 161) at_160 rfl (by decide) ?_
      refine own_icmp_lt X33 (pct := 178) (pc' := 164) at_161 rfl (by decide) (by decide) (fun _ => ?_) (fun hc => absurd hc (by decide))
      refine own_aload X33 (pc' := 180) at_178 rfl rfl rfl ?_
      refine own_iload X33 (pc' := 182) at_180 rfl rfl ?_
      refine own_iload X33 (pc' := 184) at_182 rfl rfl ?_
      refine own_callS X33 (W := 0) (argsL := [(.ref ad1), (.int (0 : Int32)), (.int (2 : Int32))]) (rest := []) (S' := [(.int (own_dig 0 [(own_mk raw flags (0 : Int32)), (own_mk raw flags (1 : Int32))]))]) (pc' := 187) (rm2_02 l Z a0 hw n0 ad1 h11 X33.size (own_mk raw flags (0 : Int32)) (own_mk raw flags (1 : Int32)) (own_mk raw flags (2 : Int32)) (own_mk raw flags (3 : Int32)) (own_mk raw flags (4 : Int32)) A11) (hw _ (List.mem_of_getElem? (i := 7) rfl)) (hw _ (List.mem_of_getElem? (i := 8) rfl)) (hw _ (List.mem_of_getElem? (i := 9) rfl)) (hw _ (List.mem_of_getElem? (i := 10) rfl)) (by decide) (by decide) (by decide) rfl rfl (by decide) (by decide) (lenOf pd_1 rfl) rfl (by first | decide | exact Nat.le_of_eq rfl) rfl at_184 rfl rfl ?_
      intro T34 h34 X34 qq34
      rw [show h34 = h11 from qq34] at X34
      refine own_istore X34 (pc' := 189) (Ls' := #[.val (.long raw), .second, .val (.int flags), .val (.int ff), .val (.int ll), .val (.ref ad1), .val (.int (2 : Int32)), .val (.int (0 : Int32)), .val (.int (own_step (own_step (0 : Int32) (own_mk raw flags (0 : Int32))) (own_mk raw flags (1 : Int32)))), .val (.int (own_dig 0 [(own_mk raw flags (0 : Int32)), (own_mk raw flags (1 : Int32))]))]) at_187 rfl rfl ?_
      refine own_iload X34 (pc' := 191) at_189 rfl rfl ?_
      refine own_iload X34 (pc' := 193) at_191 rfl rfl ?_
      refine own_icmp_ne X34 (pct := 200) (pc' := 196) at_193 rfl (by decide) (by decide) (fun hc => absurd hc (fun q => q (own_e2 (own_mk_rg _ _ _) (own_mk_rg _ _ _)))) (fun _ => ?_)
      refine own_iconst X34 (v := (1 : Int32)) (pc' := 197) at_196 rfl (by decide) ?_
      refine own_goto X34 (pc' := 201) at_197 (by decide) (by decide) ?_
      subst hΦ
      exact own_retZ X34 at_201 (by decide) (by decide) (by decide) rfl trivial
    · refine own_iconst X11 (v := (0 : Int32)) (pc' := 78) at_77 rfl (by decide) ?_
      refine own_istore X11 (pc' := 80) (Ls' := #[.val (.long raw), .second, .val (.int flags), .val (.int ff), .val (.int ll), .val (.ref ad1), .val (.int (2 : Int32)), .val (.int (1 : Int32)), .val (.int (0 : Int32)), .unset]) at_78 rfl rfl ?_
      refine own_iload X11 (pc' := 82) at_80 rfl rfl ?_
      refine own_iconst X11 (v := (1 : Int32)) (pc' := 83) at_82 rfl (by decide) ?_
      refine own_icmp_lt X11 (pct := 98) (pc' := 86) at_83 rfl (by decide) (by decide) (fun hc => absurd hc (by decide)) (fun _ => ?_)
      refine own_iload X11 (pc' := 88) at_86 rfl rfl ?_
      refine own_aload X11 (pc' := 90) at_88 rfl rfl rfl ?_
      refine own_iload X11 (pc' := 92) at_90 rfl rfl ?_
      refine own_baload X11 (v := (own_mk raw flags (1 : Int32))) (pc' := 93) A11 rfl rfl at_92 rfl ?_
      refine own_callS X11 (W := 0) (argsL := [(.int (0 : Int32)), (.int (own_mk raw flags (1 : Int32)))]) (rest := []) (S' := [(.int (own_step (0 : Int32) (own_mk raw flags (1 : Int32))))]) (pc' := 96) (rm3 l Z a0 hw n0 (0 : Int32) (own_mk raw flags (1 : Int32)) h11 X11.size) (hw _ (List.mem_of_getElem? (i := 11) rfl)) (hw _ (List.mem_of_getElem? (i := 12) rfl)) (hw _ (List.mem_of_getElem? (i := 3) rfl)) (hw _ (List.mem_of_getElem? (i := 13) rfl)) (by decide) (by decide) (by decide) rfl rfl (by decide) (by decide) (lenOf pd_2 rfl) rfl (by first | decide | exact Nat.le_of_eq rfl) rfl at_93 rfl rfl ?_
      intro T35 h35 X35 qq35
      rw [show h35 = h11 from qq35] at X35
      refine own_istore X35 (pc' := 98) (Ls' := #[.val (.long raw), .second, .val (.int flags), .val (.int ff), .val (.int ll), .val (.ref ad1), .val (.int (2 : Int32)), .val (.int (1 : Int32)), .val (.int (own_step (0 : Int32) (own_mk raw flags (1 : Int32)))), .unset]) at_96 rfl rfl ?_
      refine own_iload X35 (pc' := 100) at_98 rfl rfl ?_
      refine own_iconst X35 (v := (2 : Int32)) (pc' := 101) at_100 rfl (by decide) ?_
      refine own_icmp_lt X35 (pct := 118) (pc' := 104) at_101 rfl (by decide) (by decide) (fun hc => absurd hc (by decide)) (fun _ => ?_)
      refine own_iload X35 (pc' := 106) at_104 rfl rfl ?_
      refine own_aload X35 (pc' := 108) at_106 rfl rfl rfl ?_
      refine own_iload X35 (pc' := 110) at_108 rfl rfl ?_
      refine own_iconst X35 (v := (1 : Int32)) (pc' := 111) at_110 rfl (by decide) ?_
      refine own_iadd X35 (r := (2 : Int32)) (pc' := 112) at_111 rfl (by decide) ?_
      refine own_baload X35 (v := (own_mk raw flags (2 : Int32))) (pc' := 113) A11 rfl rfl at_112 rfl ?_
      refine own_callS X35 (W := 0) (argsL := [(.int (own_step (0 : Int32) (own_mk raw flags (1 : Int32)))), (.int (own_mk raw flags (2 : Int32)))]) (rest := []) (S' := [(.int (own_step (own_step (0 : Int32) (own_mk raw flags (1 : Int32))) (own_mk raw flags (2 : Int32))))]) (pc' := 116) (rm3 l Z a0 hw n0 (own_step (0 : Int32) (own_mk raw flags (1 : Int32))) (own_mk raw flags (2 : Int32)) h11 X35.size) (hw _ (List.mem_of_getElem? (i := 11) rfl)) (hw _ (List.mem_of_getElem? (i := 12) rfl)) (hw _ (List.mem_of_getElem? (i := 3) rfl)) (hw _ (List.mem_of_getElem? (i := 13) rfl)) (by decide) (by decide) (by decide) rfl rfl (by decide) (by decide) (lenOf pd_2 rfl) rfl (by first | decide | exact Nat.le_of_eq rfl) rfl at_113 rfl rfl ?_
      intro T36 h36 X36 qq36
      rw [show h36 = h11 from qq36] at X36
      refine own_istore X36 (pc' := 118) (Ls' := #[.val (.long raw), .second, .val (.int flags), .val (.int ff), .val (.int ll), .val (.ref ad1), .val (.int (2 : Int32)), .val (.int (1 : Int32)), .val (.int (own_step (own_step (0 : Int32) (own_mk raw flags (1 : Int32))) (own_mk raw flags (2 : Int32)))), .unset]) at_116 rfl rfl ?_
      refine own_iload X36 (pc' := 120) at_118 rfl rfl ?_
      refine own_iconst X36 (v := (3 : Int32)) (pc' := 121) at_120 rfl (by decide) ?_
      refine own_icmp_lt X36 (pct := 138) (pc' := 124) at_121 rfl (by decide) (by decide) (fun _ => ?_) (fun hc => absurd hc (by decide))
      refine own_iload X36 (pc' := 140) at_138 rfl rfl ?_
      refine own_iconst X36 (v := (4 : Int32)) (pc' := 141) at_140 rfl (by decide) ?_
      refine own_icmp_lt X36 (pct := 158) (pc' := 144) at_141 rfl (by decide) (by decide) (fun _ => ?_) (fun hc => absurd hc (by decide))
      refine own_iload X36 (pc' := 160) at_158 rfl rfl ?_
      refine own_iconst X36 (v := (5 : Int32)) (pc' := 161) at_160 rfl (by decide) ?_
      refine own_icmp_lt X36 (pct := 178) (pc' := 164) at_161 rfl (by decide) (by decide) (fun _ => ?_) (fun hc => absurd hc (by decide))
      refine own_aload X36 (pc' := 180) at_178 rfl rfl rfl ?_
      refine own_iload X36 (pc' := 182) at_180 rfl rfl ?_
      refine own_iload X36 (pc' := 184) at_182 rfl rfl ?_
      refine own_callS X36 (W := 0) (argsL := [(.ref ad1), (.int (1 : Int32)), (.int (2 : Int32))]) (rest := []) (S' := [(.int (own_dig 0 [(own_mk raw flags (1 : Int32)), (own_mk raw flags (2 : Int32))]))]) (pc' := 187) (rm2_12 l Z a0 hw n0 ad1 h11 X36.size (own_mk raw flags (0 : Int32)) (own_mk raw flags (1 : Int32)) (own_mk raw flags (2 : Int32)) (own_mk raw flags (3 : Int32)) (own_mk raw flags (4 : Int32)) A11) (hw _ (List.mem_of_getElem? (i := 7) rfl)) (hw _ (List.mem_of_getElem? (i := 8) rfl)) (hw _ (List.mem_of_getElem? (i := 9) rfl)) (hw _ (List.mem_of_getElem? (i := 10) rfl)) (by decide) (by decide) (by decide) rfl rfl (by decide) (by decide) (lenOf pd_1 rfl) rfl (by first | decide | exact Nat.le_of_eq rfl) rfl at_184 rfl rfl ?_
      intro T37 h37 X37 qq37
      rw [show h37 = h11 from qq37] at X37
      refine own_istore X37 (pc' := 189) (Ls' := #[.val (.long raw), .second, .val (.int flags), .val (.int ff), .val (.int ll), .val (.ref ad1), .val (.int (2 : Int32)), .val (.int (1 : Int32)), .val (.int (own_step (own_step (0 : Int32) (own_mk raw flags (1 : Int32))) (own_mk raw flags (2 : Int32)))), .val (.int (own_dig 0 [(own_mk raw flags (1 : Int32)), (own_mk raw flags (2 : Int32))]))]) at_187 rfl rfl ?_
      refine own_iload X37 (pc' := 191) at_189 rfl rfl ?_
      refine own_iload X37 (pc' := 193) at_191 rfl rfl ?_
      refine own_icmp_ne X37 (pct := 200) (pc' := 196) at_193 rfl (by decide) (by decide) (fun hc => absurd hc (fun q => q (own_e2 (own_mk_rg _ _ _) (own_mk_rg _ _ _)))) (fun _ => ?_)
      refine own_iconst X37 (v := (1 : Int32)) (pc' := 197) at_196 rfl (by decide) ?_
      refine own_goto X37 (pc' := 201) at_197 (by decide) (by decide) ?_
      subst hΦ
      exact own_retZ X37 at_201 (by decide) (by decide) (by decide) rfl trivial
    · refine own_iconst X11 (v := (0 : Int32)) (pc' := 78) at_77 rfl (by decide) ?_
      refine own_istore X11 (pc' := 80) (Ls' := #[.val (.long raw), .second, .val (.int flags), .val (.int ff), .val (.int ll), .val (.ref ad1), .val (.int (2 : Int32)), .val (.int (2 : Int32)), .val (.int (0 : Int32)), .unset]) at_78 rfl rfl ?_
      refine own_iload X11 (pc' := 82) at_80 rfl rfl ?_
      refine own_iconst X11 (v := (1 : Int32)) (pc' := 83) at_82 rfl (by decide) ?_
      refine own_icmp_lt X11 (pct := 98) (pc' := 86) at_83 rfl (by decide) (by decide) (fun hc => absurd hc (by decide)) (fun _ => ?_)
      refine own_iload X11 (pc' := 88) at_86 rfl rfl ?_
      refine own_aload X11 (pc' := 90) at_88 rfl rfl rfl ?_
      refine own_iload X11 (pc' := 92) at_90 rfl rfl ?_
      refine own_baload X11 (v := (own_mk raw flags (2 : Int32))) (pc' := 93) A11 rfl rfl at_92 rfl ?_
      refine own_callS X11 (W := 0) (argsL := [(.int (0 : Int32)), (.int (own_mk raw flags (2 : Int32)))]) (rest := []) (S' := [(.int (own_step (0 : Int32) (own_mk raw flags (2 : Int32))))]) (pc' := 96) (rm3 l Z a0 hw n0 (0 : Int32) (own_mk raw flags (2 : Int32)) h11 X11.size) (hw _ (List.mem_of_getElem? (i := 11) rfl)) (hw _ (List.mem_of_getElem? (i := 12) rfl)) (hw _ (List.mem_of_getElem? (i := 3) rfl)) (hw _ (List.mem_of_getElem? (i := 13) rfl)) (by decide) (by decide) (by decide) rfl rfl (by decide) (by decide) (lenOf pd_2 rfl) rfl (by first | decide | exact Nat.le_of_eq rfl) rfl at_93 rfl rfl ?_
      intro T38 h38 X38 qq38
      rw [show h38 = h11 from qq38] at X38
      refine own_istore X38 (pc' := 98) (Ls' := #[.val (.long raw), .second, .val (.int flags), .val (.int ff), .val (.int ll), .val (.ref ad1), .val (.int (2 : Int32)), .val (.int (2 : Int32)), .val (.int (own_step (0 : Int32) (own_mk raw flags (2 : Int32)))), .unset]) at_96 rfl rfl ?_
      refine own_iload X38 (pc' := 100) at_98 rfl rfl ?_
      refine own_iconst X38 (v := (2 : Int32)) (pc' := 101) at_100 rfl (by decide) ?_
      refine own_icmp_lt X38 (pct := 118) (pc' := 104) at_101 rfl (by decide) (by decide) (fun hc => absurd hc (by decide)) (fun _ => ?_)
      refine own_iload X38 (pc' := 106) at_104 rfl rfl ?_
      refine own_aload X38 (pc' := 108) at_106 rfl rfl rfl ?_
      refine own_iload X38 (pc' := 110) at_108 rfl rfl ?_
      refine own_iconst X38 (v := (1 : Int32)) (pc' := 111) at_110 rfl (by decide) ?_
      refine own_iadd X38 (r := (3 : Int32)) (pc' := 112) at_111 rfl (by decide) ?_
      refine own_baload X38 (v := (own_mk raw flags (3 : Int32))) (pc' := 113) A11 rfl rfl at_112 rfl ?_
      refine own_callS X38 (W := 0) (argsL := [(.int (own_step (0 : Int32) (own_mk raw flags (2 : Int32)))), (.int (own_mk raw flags (3 : Int32)))]) (rest := []) (S' := [(.int (own_step (own_step (0 : Int32) (own_mk raw flags (2 : Int32))) (own_mk raw flags (3 : Int32))))]) (pc' := 116) (rm3 l Z a0 hw n0 (own_step (0 : Int32) (own_mk raw flags (2 : Int32))) (own_mk raw flags (3 : Int32)) h11 X38.size) (hw _ (List.mem_of_getElem? (i := 11) rfl)) (hw _ (List.mem_of_getElem? (i := 12) rfl)) (hw _ (List.mem_of_getElem? (i := 3) rfl)) (hw _ (List.mem_of_getElem? (i := 13) rfl)) (by decide) (by decide) (by decide) rfl rfl (by decide) (by decide) (lenOf pd_2 rfl) rfl (by first | decide | exact Nat.le_of_eq rfl) rfl at_113 rfl rfl ?_
      intro T39 h39 X39 qq39
      rw [show h39 = h11 from qq39] at X39
      refine own_istore X39 (pc' := 118) (Ls' := #[.val (.long raw), .second, .val (.int flags), .val (.int ff), .val (.int ll), .val (.ref ad1), .val (.int (2 : Int32)), .val (.int (2 : Int32)), .val (.int (own_step (own_step (0 : Int32) (own_mk raw flags (2 : Int32))) (own_mk raw flags (3 : Int32)))), .unset]) at_116 rfl rfl ?_
      refine own_iload X39 (pc' := 120) at_118 rfl rfl ?_
      refine own_iconst X39 (v := (3 : Int32)) (pc' := 121) at_120 rfl (by decide) ?_
      refine own_icmp_lt X39 (pct := 138) (pc' := 124) at_121 rfl (by decide) (by decide) (fun _ => ?_) (fun hc => absurd hc (by decide))
      refine own_iload X39 (pc' := 140) at_138 rfl rfl ?_
      refine own_iconst X39 (v := (4 : Int32)) (pc' := 141) at_140 rfl (by decide) ?_
      refine own_icmp_lt X39 (pct := 158) (pc' := 144) at_141 rfl (by decide) (by decide) (fun _ => ?_) (fun hc => absurd hc (by decide))
      refine own_iload X39 (pc' := 160) at_158 rfl rfl ?_
      refine own_iconst X39 (v := (5 : Int32)) (pc' := 161) at_160 rfl (by decide) ?_
      refine own_icmp_lt X39 (pct := 178) (pc' := 164) at_161 rfl (by decide) (by decide) (fun _ => ?_) (fun hc => absurd hc (by decide))
      refine own_aload X39 (pc' := 180) at_178 rfl rfl rfl ?_
      refine own_iload X39 (pc' := 182) at_180 rfl rfl ?_
      refine own_iload X39 (pc' := 184) at_182 rfl rfl ?_
      refine own_callS X39 (W := 0) (argsL := [(.ref ad1), (.int (2 : Int32)), (.int (2 : Int32))]) (rest := []) (S' := [(.int (own_dig 0 [(own_mk raw flags (2 : Int32)), (own_mk raw flags (3 : Int32))]))]) (pc' := 187) (rm2_22 l Z a0 hw n0 ad1 h11 X39.size (own_mk raw flags (0 : Int32)) (own_mk raw flags (1 : Int32)) (own_mk raw flags (2 : Int32)) (own_mk raw flags (3 : Int32)) (own_mk raw flags (4 : Int32)) A11) (hw _ (List.mem_of_getElem? (i := 7) rfl)) (hw _ (List.mem_of_getElem? (i := 8) rfl)) (hw _ (List.mem_of_getElem? (i := 9) rfl)) (hw _ (List.mem_of_getElem? (i := 10) rfl)) (by decide) (by decide) (by decide) rfl rfl (by decide) (by decide) (lenOf pd_1 rfl) rfl (by first | decide | exact Nat.le_of_eq rfl) rfl at_184 rfl rfl ?_
      intro T40 h40 X40 qq40
      rw [show h40 = h11 from qq40] at X40
      refine own_istore X40 (pc' := 189) (Ls' := #[.val (.long raw), .second, .val (.int flags), .val (.int ff), .val (.int ll), .val (.ref ad1), .val (.int (2 : Int32)), .val (.int (2 : Int32)), .val (.int (own_step (own_step (0 : Int32) (own_mk raw flags (2 : Int32))) (own_mk raw flags (3 : Int32)))), .val (.int (own_dig 0 [(own_mk raw flags (2 : Int32)), (own_mk raw flags (3 : Int32))]))]) at_187 rfl rfl ?_
      refine own_iload X40 (pc' := 191) at_189 rfl rfl ?_
      refine own_iload X40 (pc' := 193) at_191 rfl rfl ?_
      refine own_icmp_ne X40 (pct := 200) (pc' := 196) at_193 rfl (by decide) (by decide) (fun hc => absurd hc (fun q => q (own_e2 (own_mk_rg _ _ _) (own_mk_rg _ _ _)))) (fun _ => ?_)
      refine own_iconst X40 (v := (1 : Int32)) (pc' := 197) at_196 rfl (by decide) ?_
      refine own_goto X40 (pc' := 201) at_197 (by decide) (by decide) ?_
      subst hΦ
      exact own_retZ X40 at_201 (by decide) (by decide) (by decide) rfl trivial
    · refine own_iconst X11 (v := (0 : Int32)) (pc' := 78) at_77 rfl (by decide) ?_
      refine own_istore X11 (pc' := 80) (Ls' := #[.val (.long raw), .second, .val (.int flags), .val (.int ff), .val (.int ll), .val (.ref ad1), .val (.int (2 : Int32)), .val (.int (3 : Int32)), .val (.int (0 : Int32)), .unset]) at_78 rfl rfl ?_
      refine own_iload X11 (pc' := 82) at_80 rfl rfl ?_
      refine own_iconst X11 (v := (1 : Int32)) (pc' := 83) at_82 rfl (by decide) ?_
      refine own_icmp_lt X11 (pct := 98) (pc' := 86) at_83 rfl (by decide) (by decide) (fun hc => absurd hc (by decide)) (fun _ => ?_)
      refine own_iload X11 (pc' := 88) at_86 rfl rfl ?_
      refine own_aload X11 (pc' := 90) at_88 rfl rfl rfl ?_
      refine own_iload X11 (pc' := 92) at_90 rfl rfl ?_
      refine own_baload X11 (v := (own_mk raw flags (3 : Int32))) (pc' := 93) A11 rfl rfl at_92 rfl ?_
      refine own_callS X11 (W := 0) (argsL := [(.int (0 : Int32)), (.int (own_mk raw flags (3 : Int32)))]) (rest := []) (S' := [(.int (own_step (0 : Int32) (own_mk raw flags (3 : Int32))))]) (pc' := 96) (rm3 l Z a0 hw n0 (0 : Int32) (own_mk raw flags (3 : Int32)) h11 X11.size) (hw _ (List.mem_of_getElem? (i := 11) rfl)) (hw _ (List.mem_of_getElem? (i := 12) rfl)) (hw _ (List.mem_of_getElem? (i := 3) rfl)) (hw _ (List.mem_of_getElem? (i := 13) rfl)) (by decide) (by decide) (by decide) rfl rfl (by decide) (by decide) (lenOf pd_2 rfl) rfl (by first | decide | exact Nat.le_of_eq rfl) rfl at_93 rfl rfl ?_
      intro T41 h41 X41 qq41
      rw [show h41 = h11 from qq41] at X41
      refine own_istore X41 (pc' := 98) (Ls' := #[.val (.long raw), .second, .val (.int flags), .val (.int ff), .val (.int ll), .val (.ref ad1), .val (.int (2 : Int32)), .val (.int (3 : Int32)), .val (.int (own_step (0 : Int32) (own_mk raw flags (3 : Int32)))), .unset]) at_96 rfl rfl ?_
      refine own_iload X41 (pc' := 100) at_98 rfl rfl ?_
      refine own_iconst X41 (v := (2 : Int32)) (pc' := 101) at_100 rfl (by decide) ?_
      refine own_icmp_lt X41 (pct := 118) (pc' := 104) at_101 rfl (by decide) (by decide) (fun hc => absurd hc (by decide)) (fun _ => ?_)
      refine own_iload X41 (pc' := 106) at_104 rfl rfl ?_
      refine own_aload X41 (pc' := 108) at_106 rfl rfl rfl ?_
      refine own_iload X41 (pc' := 110) at_108 rfl rfl ?_
      refine own_iconst X41 (v := (1 : Int32)) (pc' := 111) at_110 rfl (by decide) ?_
      refine own_iadd X41 (r := (4 : Int32)) (pc' := 112) at_111 rfl (by decide) ?_
      refine own_baload X41 (v := (own_mk raw flags (4 : Int32))) (pc' := 113) A11 rfl rfl at_112 rfl ?_
      refine own_callS X41 (W := 0) (argsL := [(.int (own_step (0 : Int32) (own_mk raw flags (3 : Int32)))), (.int (own_mk raw flags (4 : Int32)))]) (rest := []) (S' := [(.int (own_step (own_step (0 : Int32) (own_mk raw flags (3 : Int32))) (own_mk raw flags (4 : Int32))))]) (pc' := 116) (rm3 l Z a0 hw n0 (own_step (0 : Int32) (own_mk raw flags (3 : Int32))) (own_mk raw flags (4 : Int32)) h11 X41.size) (hw _ (List.mem_of_getElem? (i := 11) rfl)) (hw _ (List.mem_of_getElem? (i := 12) rfl)) (hw _ (List.mem_of_getElem? (i := 3) rfl)) (hw _ (List.mem_of_getElem? (i := 13) rfl)) (by decide) (by decide) (by decide) rfl rfl (by decide) (by decide) (lenOf pd_2 rfl) rfl (by first | decide | exact Nat.le_of_eq rfl) rfl at_113 rfl rfl ?_
      intro T42 h42 X42 qq42
      rw [show h42 = h11 from qq42] at X42
      refine own_istore X42 (pc' := 118) (Ls' := #[.val (.long raw), .second, .val (.int flags), .val (.int ff), .val (.int ll), .val (.ref ad1), .val (.int (2 : Int32)), .val (.int (3 : Int32)), .val (.int (own_step (own_step (0 : Int32) (own_mk raw flags (3 : Int32))) (own_mk raw flags (4 : Int32)))), .unset]) at_116 rfl rfl ?_
      refine own_iload X42 (pc' := 120) at_118 rfl rfl ?_
      refine own_iconst X42 (v := (3 : Int32)) (pc' := 121) at_120 rfl (by decide) ?_
      refine own_icmp_lt X42 (pct := 138) (pc' := 124) at_121 rfl (by decide) (by decide) (fun _ => ?_) (fun hc => absurd hc (by decide))
      refine own_iload X42 (pc' := 140) at_138 rfl rfl ?_
      refine own_iconst X42 (v := (4 : Int32)) (pc' := 141) at_140 rfl (by decide) ?_
      refine own_icmp_lt X42 (pct := 158) (pc' := 144) at_141 rfl (by decide) (by decide) (fun _ => ?_) (fun hc => absurd hc (by decide))
      refine own_iload X42 (pc' := 160) at_158 rfl rfl ?_
      refine own_iconst X42 (v := (5 : Int32)) (pc' := 161) at_160 rfl (by decide) ?_
      refine own_icmp_lt X42 (pct := 178) (pc' := 164) at_161 rfl (by decide) (by decide) (fun _ => ?_) (fun hc => absurd hc (by decide))
      refine own_aload X42 (pc' := 180) at_178 rfl rfl rfl ?_
      refine own_iload X42 (pc' := 182) at_180 rfl rfl ?_
      refine own_iload X42 (pc' := 184) at_182 rfl rfl ?_
      refine own_callS X42 (W := 0) (argsL := [(.ref ad1), (.int (3 : Int32)), (.int (2 : Int32))]) (rest := []) (S' := [(.int (own_dig 0 [(own_mk raw flags (3 : Int32)), (own_mk raw flags (4 : Int32))]))]) (pc' := 187) (rm2_32 l Z a0 hw n0 ad1 h11 X42.size (own_mk raw flags (0 : Int32)) (own_mk raw flags (1 : Int32)) (own_mk raw flags (2 : Int32)) (own_mk raw flags (3 : Int32)) (own_mk raw flags (4 : Int32)) A11) (hw _ (List.mem_of_getElem? (i := 7) rfl)) (hw _ (List.mem_of_getElem? (i := 8) rfl)) (hw _ (List.mem_of_getElem? (i := 9) rfl)) (hw _ (List.mem_of_getElem? (i := 10) rfl)) (by decide) (by decide) (by decide) rfl rfl (by decide) (by decide) (lenOf pd_1 rfl) rfl (by first | decide | exact Nat.le_of_eq rfl) rfl at_184 rfl rfl ?_
      intro T43 h43 X43 qq43
      rw [show h43 = h11 from qq43] at X43
      refine own_istore X43 (pc' := 189) (Ls' := #[.val (.long raw), .second, .val (.int flags), .val (.int ff), .val (.int ll), .val (.ref ad1), .val (.int (2 : Int32)), .val (.int (3 : Int32)), .val (.int (own_step (own_step (0 : Int32) (own_mk raw flags (3 : Int32))) (own_mk raw flags (4 : Int32)))), .val (.int (own_dig 0 [(own_mk raw flags (3 : Int32)), (own_mk raw flags (4 : Int32))]))]) at_187 rfl rfl ?_
      refine own_iload X43 (pc' := 191) at_189 rfl rfl ?_
      refine own_iload X43 (pc' := 193) at_191 rfl rfl ?_
      refine own_icmp_ne X43 (pct := 200) (pc' := 196) at_193 rfl (by decide) (by decide) (fun hc => absurd hc (fun q => q (own_e2 (own_mk_rg _ _ _) (own_mk_rg _ _ _)))) (fun _ => ?_)
      refine own_iconst X43 (v := (1 : Int32)) (pc' := 197) at_196 rfl (by decide) ?_
      refine own_goto X43 (pc' := 201) at_197 (by decide) (by decide) ?_
      subst hΦ
      exact own_retZ X43 at_201 (by decide) (by decide) (by decide) rfl trivial
  · refine own_iloadN X11 (pc' := 66) at_65 rfl rfl ?_
    refine own_ldc X11 (pc' := 68) (hw _ (List.mem_of_getElem? (i := 6) rfl)) at_66 rfl ?_
    refine own_iand X11 (r := (ff &&& (2147483647 : Int32))) (pc' := 69) at_68 rfl rfl ?_
    refine own_bipush X11 (v := (6 : Int32)) (pc' := 71) at_69 rfl (by decide) ?_
    refine own_iload X11 (pc' := 73) at_71 rfl rfl ?_
    refine own_isub X11 (r := (3 : Int32)) (pc' := 74) at_73 rfl (by decide) ?_
    refine own_irem X11 (r := ((ff &&& (2147483647 : Int32)) - ((ff &&& (2147483647 : Int32)) / (3 : Int32)) * (3 : Int32))) (pc' := 75) at_74 rfl (by decide) rfl ?_
    refine own_istore X11 (pc' := 77) (Ls' := #[.val (.long raw), .second, .val (.int flags), .val (.int ff), .val (.int ll), .val (.ref ad1), .val (.int (3 : Int32)), .val (.int ((ff &&& (2147483647 : Int32)) - ((ff &&& (2147483647 : Int32)) / (3 : Int32)) * (3 : Int32))), .unset, .unset]) at_75 rfl rfl ?_
    generalize e44 : ((ff &&& (2147483647 : Int32)) - ((ff &&& (2147483647 : Int32)) / (3 : Int32)) * (3 : Int32)) = v44
    rcases own_c3 (own_rem 3 (by decide) e44) with rfl | rfl | rfl
    · refine own_iconst X11 (v := (0 : Int32)) (pc' := 78) at_77 rfl (by decide) ?_
      refine own_istore X11 (pc' := 80) (Ls' := #[.val (.long raw), .second, .val (.int flags), .val (.int ff), .val (.int ll), .val (.ref ad1), .val (.int (3 : Int32)), .val (.int (0 : Int32)), .val (.int (0 : Int32)), .unset]) at_78 rfl rfl ?_
      refine own_iload X11 (pc' := 82) at_80 rfl rfl ?_
      refine own_iconst X11 (v := (1 : Int32)) (pc' := 83) at_82 rfl (by decide) ?_
      refine own_icmp_lt X11 (pct := 98) (pc' := 86) at_83 rfl (by decide) (by decide) (fun hc => absurd hc (by decide)) (fun _ => ?_)
      refine own_iload X11 (pc' := 88) at_86 rfl rfl ?_
      refine own_aload X11 (pc' := 90) at_88 rfl rfl rfl ?_
      refine own_iload X11 (pc' := 92) at_90 rfl rfl ?_
      refine own_baload X11 (v := (own_mk raw flags (0 : Int32))) (pc' := 93) A11 rfl rfl at_92 rfl ?_
      refine own_callS X11 (W := 0) (argsL := [(.int (0 : Int32)), (.int (own_mk raw flags (0 : Int32)))]) (rest := []) (S' := [(.int (own_step (0 : Int32) (own_mk raw flags (0 : Int32))))]) (pc' := 96) (rm3 l Z a0 hw n0 (0 : Int32) (own_mk raw flags (0 : Int32)) h11 X11.size) (hw _ (List.mem_of_getElem? (i := 11) rfl)) (hw _ (List.mem_of_getElem? (i := 12) rfl)) (hw _ (List.mem_of_getElem? (i := 3) rfl)) (hw _ (List.mem_of_getElem? (i := 13) rfl)) (by decide) (by decide) (by decide) rfl rfl (by decide) (by decide) (lenOf pd_2 rfl) rfl (by first | decide | exact Nat.le_of_eq rfl) rfl at_93 rfl rfl ?_
      intro T45 h45 X45 qq45
      rw [show h45 = h11 from qq45] at X45
      refine own_istore X45 (pc' := 98) (Ls' := #[.val (.long raw), .second, .val (.int flags), .val (.int ff), .val (.int ll), .val (.ref ad1), .val (.int (3 : Int32)), .val (.int (0 : Int32)), .val (.int (own_step (0 : Int32) (own_mk raw flags (0 : Int32)))), .unset]) at_96 rfl rfl ?_
      refine own_iload X45 (pc' := 100) at_98 rfl rfl ?_
      refine own_iconst X45 (v := (2 : Int32)) (pc' := 101) at_100 rfl (by decide) ?_
      refine own_icmp_lt X45 (pct := 118) (pc' := 104) at_101 rfl (by decide) (by decide) (fun hc => absurd hc (by decide)) (fun _ => ?_)
      refine own_iload X45 (pc' := 106) at_104 rfl rfl ?_
      refine own_aload X45 (pc' := 108) at_106 rfl rfl rfl ?_
      refine own_iload X45 (pc' := 110) at_108 rfl rfl ?_
      refine own_iconst X45 (v := (1 : Int32)) (pc' := 111) at_110 rfl (by decide) ?_
      refine own_iadd X45 (r := (1 : Int32)) (pc' := 112) at_111 rfl (by decide) ?_
      refine own_baload X45 (v := (own_mk raw flags (1 : Int32))) (pc' := 113) A11 rfl rfl at_112 rfl ?_
      refine own_callS X45 (W := 0) (argsL := [(.int (own_step (0 : Int32) (own_mk raw flags (0 : Int32)))), (.int (own_mk raw flags (1 : Int32)))]) (rest := []) (S' := [(.int (own_step (own_step (0 : Int32) (own_mk raw flags (0 : Int32))) (own_mk raw flags (1 : Int32))))]) (pc' := 116) (rm3 l Z a0 hw n0 (own_step (0 : Int32) (own_mk raw flags (0 : Int32))) (own_mk raw flags (1 : Int32)) h11 X45.size) (hw _ (List.mem_of_getElem? (i := 11) rfl)) (hw _ (List.mem_of_getElem? (i := 12) rfl)) (hw _ (List.mem_of_getElem? (i := 3) rfl)) (hw _ (List.mem_of_getElem? (i := 13) rfl)) (by decide) (by decide) (by decide) rfl rfl (by decide) (by decide) (lenOf pd_2 rfl) rfl (by first | decide | exact Nat.le_of_eq rfl) rfl at_113 rfl rfl ?_
      intro T46 h46 X46 qq46
      rw [show h46 = h11 from qq46] at X46
      refine own_istore X46 (pc' := 118) (Ls' := #[.val (.long raw), .second, .val (.int flags), .val (.int ff), .val (.int ll), .val (.ref ad1), .val (.int (3 : Int32)), .val (.int (0 : Int32)), .val (.int (own_step (own_step (0 : Int32) (own_mk raw flags (0 : Int32))) (own_mk raw flags (1 : Int32)))), .unset]) at_116 rfl rfl ?_
      refine own_iload X46 (pc' := 120) at_118 rfl rfl ?_
      refine own_iconst X46 (v := (3 : Int32)) (pc' := 121) at_120 rfl (by decide) ?_
      refine own_icmp_lt X46 (pct := 138) (pc' := 124) at_121 rfl (by decide) (by decide) (fun hc => absurd hc (by decide)) (fun _ => ?_)
      refine own_iload X46 (pc' := 126) at_124 rfl rfl ?_
      refine own_aload X46 (pc' := 128) at_126 rfl rfl rfl ?_
      refine own_iload X46 (pc' := 130) at_128 rfl rfl ?_
      refine own_iconst X46 (v := (2 : Int32)) (pc' := 131) at_130 rfl (by decide) ?_
      refine own_iadd X46 (r := (2 : Int32)) (pc' := 132) at_131 rfl (by decide) ?_
      refine own_baload X46 (v := (own_mk raw flags (2 : Int32))) (pc' := 133) A11 rfl rfl at_132 rfl ?_
      refine own_callS X46 (W := 0) (argsL := [(.int (own_step (own_step (0 : Int32) (own_mk raw flags (0 : Int32))) (own_mk raw flags (1 : Int32)))), (.int (own_mk raw flags (2 : Int32)))]) (rest := []) (S' := [(.int (own_step (own_step (own_step (0 : Int32) (own_mk raw flags (0 : Int32))) (own_mk raw flags (1 : Int32))) (own_mk raw flags (2 : Int32))))]) (pc' := 136) (rm3 l Z a0 hw n0 (own_step (own_step (0 : Int32) (own_mk raw flags (0 : Int32))) (own_mk raw flags (1 : Int32))) (own_mk raw flags (2 : Int32)) h11 X46.size) (hw _ (List.mem_of_getElem? (i := 11) rfl)) (hw _ (List.mem_of_getElem? (i := 12) rfl)) (hw _ (List.mem_of_getElem? (i := 3) rfl)) (hw _ (List.mem_of_getElem? (i := 13) rfl)) (by decide) (by decide) (by decide) rfl rfl (by decide) (by decide) (lenOf pd_2 rfl) rfl (by first | decide | exact Nat.le_of_eq rfl) rfl at_133 rfl rfl ?_
      intro T47 h47 X47 qq47
      rw [show h47 = h11 from qq47] at X47
      refine own_istore X47 (pc' := 138) (Ls' := #[.val (.long raw), .second, .val (.int flags), .val (.int ff), .val (.int ll), .val (.ref ad1), .val (.int (3 : Int32)), .val (.int (0 : Int32)), .val (.int (own_step (own_step (own_step (0 : Int32) (own_mk raw flags (0 : Int32))) (own_mk raw flags (1 : Int32))) (own_mk raw flags (2 : Int32)))), .unset]) at_136 rfl rfl ?_
      refine own_iload X47 (pc' := 140) at_138 rfl rfl ?_
      refine own_iconst X47 (v := (4 : Int32)) (pc' := 141) at_140 rfl (by decide) ?_
      refine own_icmp_lt X47 (pct := 158) (pc' := 144) at_141 rfl (by decide) (by decide) (fun _ => ?_) (fun hc => absurd hc (by decide))
      refine own_iload X47 (pc' := 160) at_158 rfl rfl ?_
      refine own_iconst X47 (v := (5 : Int32)) (pc' := 161) at_160 rfl (by decide) ?_
      refine own_icmp_lt X47 (pct := 178) (pc' := 164) at_161 rfl (by decide) (by decide) (fun _ => ?_) (fun hc => absurd hc (by decide))
      refine own_aload X47 (pc' := 180) at_178 rfl rfl rfl ?_
      refine own_iload X47 (pc' := 182) at_180 rfl rfl ?_
      refine own_iload X47 (pc' := 184) at_182 rfl rfl ?_
      refine own_callS X47 (W := 0) (argsL := [(.ref ad1), (.int (0 : Int32)), (.int (3 : Int32))]) (rest := []) (S' := [(.int (own_dig 0 [(own_mk raw flags (0 : Int32)), (own_mk raw flags (1 : Int32)), (own_mk raw flags (2 : Int32))]))]) (pc' := 187) (rm2_03 l Z a0 hw n0 ad1 h11 X47.size (own_mk raw flags (0 : Int32)) (own_mk raw flags (1 : Int32)) (own_mk raw flags (2 : Int32)) (own_mk raw flags (3 : Int32)) (own_mk raw flags (4 : Int32)) A11) (hw _ (List.mem_of_getElem? (i := 7) rfl)) (hw _ (List.mem_of_getElem? (i := 8) rfl)) (hw _ (List.mem_of_getElem? (i := 9) rfl)) (hw _ (List.mem_of_getElem? (i := 10) rfl)) (by decide) (by decide) (by decide) rfl rfl (by decide) (by decide) (lenOf pd_1 rfl) rfl (by first | decide | exact Nat.le_of_eq rfl) rfl at_184 rfl rfl ?_
      intro T48 h48 X48 qq48
      rw [show h48 = h11 from qq48] at X48
      refine own_istore X48 (pc' := 189) (Ls' := #[.val (.long raw), .second, .val (.int flags), .val (.int ff), .val (.int ll), .val (.ref ad1), .val (.int (3 : Int32)), .val (.int (0 : Int32)), .val (.int (own_step (own_step (own_step (0 : Int32) (own_mk raw flags (0 : Int32))) (own_mk raw flags (1 : Int32))) (own_mk raw flags (2 : Int32)))), .val (.int (own_dig 0 [(own_mk raw flags (0 : Int32)), (own_mk raw flags (1 : Int32)), (own_mk raw flags (2 : Int32))]))]) at_187 rfl rfl ?_
      refine own_iload X48 (pc' := 191) at_189 rfl rfl ?_
      refine own_iload X48 (pc' := 193) at_191 rfl rfl ?_
      refine own_icmp_ne X48 (pct := 200) (pc' := 196) at_193 rfl (by decide) (by decide) (fun hc => absurd hc (fun q => q (own_e3 (own_mk_rg _ _ _) (own_mk_rg _ _ _) (own_mk_rg _ _ _)))) (fun _ => ?_)
      refine own_iconst X48 (v := (1 : Int32)) (pc' := 197) at_196 rfl (by decide) ?_
      refine own_goto X48 (pc' := 201) at_197 (by decide) (by decide) ?_
      subst hΦ
      exact own_retZ X48 at_201 (by decide) (by decide) (by decide) rfl trivial
    · refine own_iconst X11 (v := (0 : Int32)) (pc' := 78) at_77 rfl (by decide) ?_
      refine own_istore X11 (pc' := 80) (Ls' := #[.val (.long raw), .second, .val (.int flags), .val (.int ff), .val (.int ll), .val (.ref ad1), .val (.int (3 : Int32)), .val (.int (1 : Int32)), .val (.int (0 : Int32)), .unset]) at_78 rfl rfl ?_
      refine own_iload X11 (pc' := 82) at_80 rfl rfl ?_
      refine own_iconst X11 (v := (1 : Int32)) (pc' := 83) at_82 rfl (by decide) ?_
      refine own_icmp_lt X11 (pct := 98) (pc' := 86) at_83 rfl (by decide) (by decide) (fun hc => absurd hc (by decide)) (fun _ => ?_)
      refine own_iload X11 (pc' := 88) at_86 rfl rfl ?_
      refine own_aload X11 (pc' := 90) at_88 rfl rfl rfl ?_
      refine own_iload X11 (pc' := 92) at_90 rfl rfl ?_
      refine own_baload X11 (v := (own_mk raw flags (1 : Int32))) (pc' := 93) A11 rfl rfl at_92 rfl ?_
      refine own_callS X11 (W := 0) (argsL := [(.int (0 : Int32)), (.int (own_mk raw flags (1 : Int32)))]) (rest := []) (S' := [(.int (own_step (0 : Int32) (own_mk raw flags (1 : Int32))))]) (pc' := 96) (rm3 l Z a0 hw n0 (0 : Int32) (own_mk raw flags (1 : Int32)) h11 X11.size) (hw _ (List.mem_of_getElem? (i := 11) rfl)) (hw _ (List.mem_of_getElem? (i := 12) rfl)) (hw _ (List.mem_of_getElem? (i := 3) rfl)) (hw _ (List.mem_of_getElem? (i := 13) rfl)) (by decide) (by decide) (by decide) rfl rfl (by decide) (by decide) (lenOf pd_2 rfl) rfl (by first | decide | exact Nat.le_of_eq rfl) rfl at_93 rfl rfl ?_
      intro T49 h49 X49 qq49
      rw [show h49 = h11 from qq49] at X49
      refine own_istore X49 (pc' := 98) (Ls' := #[.val (.long raw), .second, .val (.int flags), .val (.int ff), .val (.int ll), .val (.ref ad1), .val (.int (3 : Int32)), .val (.int (1 : Int32)), .val (.int (own_step (0 : Int32) (own_mk raw flags (1 : Int32)))), .unset]) at_96 rfl rfl ?_
      refine own_iload X49 (pc' := 100) at_98 rfl rfl ?_
      refine own_iconst X49 (v := (2 : Int32)) (pc' := 101) at_100 rfl (by decide) ?_
      refine own_icmp_lt X49 (pct := 118) (pc' := 104) at_101 rfl (by decide) (by decide) (fun hc => absurd hc (by decide)) (fun _ => ?_)
      refine own_iload X49 (pc' := 106) at_104 rfl rfl ?_
      refine own_aload X49 (pc' := 108) at_106 rfl rfl rfl ?_
      refine own_iload X49 (pc' := 110) at_108 rfl rfl ?_
      refine own_iconst X49 (v := (1 : Int32)) (pc' := 111) at_110 rfl (by decide) ?_
      refine own_iadd X49 (r := (2 : Int32)) (pc' := 112) at_111 rfl (by decide) ?_
      refine own_baload X49 (v := (own_mk raw flags (2 : Int32))) (pc' := 113) A11 rfl rfl at_112 rfl ?_
      refine own_callS X49 (W := 0) (argsL := [(.int (own_step (0 : Int32) (own_mk raw flags (1 : Int32)))), (.int (own_mk raw flags (2 : Int32)))]) (rest := []) (S' := [(.int (own_step (own_step (0 : Int32) (own_mk raw flags (1 : Int32))) (own_mk raw flags (2 : Int32))))]) (pc' := 116) (rm3 l Z a0 hw n0 (own_step (0 : Int32) (own_mk raw flags (1 : Int32))) (own_mk raw flags (2 : Int32)) h11 X49.size) (hw _ (List.mem_of_getElem? (i := 11) rfl)) (hw _ (List.mem_of_getElem? (i := 12) rfl)) (hw _ (List.mem_of_getElem? (i := 3) rfl)) (hw _ (List.mem_of_getElem? (i := 13) rfl)) (by decide) (by decide) (by decide) rfl rfl (by decide) (by decide) (lenOf pd_2 rfl) rfl (by first | decide | exact Nat.le_of_eq rfl) rfl at_113 rfl rfl ?_
      intro T50 h50 X50 qq50
      rw [show h50 = h11 from qq50] at X50
      refine own_istore X50 (pc' := 118) (Ls' := #[.val (.long raw), .second, .val (.int flags), .val (.int ff), .val (.int ll), .val (.ref ad1), .val (.int (3 : Int32)), .val (.int (1 : Int32)), .val (.int (own_step (own_step (0 : Int32) (own_mk raw flags (1 : Int32))) (own_mk raw flags (2 : Int32)))), .unset]) at_116 rfl rfl ?_
      refine own_iload X50 (pc' := 120) at_118 rfl rfl ?_
      refine own_iconst X50 (v := (3 : Int32)) (pc' := 121) at_120 rfl (by decide) ?_
      refine own_icmp_lt X50 (pct := 138) (pc' := 124) at_121 rfl (by decide) (by decide) (fun hc => absurd hc (by decide)) (fun _ => ?_)
      refine own_iload X50 (pc' := 126) at_124 rfl rfl ?_
      refine own_aload X50 (pc' := 128) at_126 rfl rfl rfl ?_
      refine own_iload X50 (pc' := 130) at_128 rfl rfl ?_
      refine own_iconst X50 (v := (2 : Int32)) (pc' := 131) at_130 rfl (by decide) ?_
      refine own_iadd X50 (r := (3 : Int32)) (pc' := 132) at_131 rfl (by decide) ?_
      refine own_baload X50 (v := (own_mk raw flags (3 : Int32))) (pc' := 133) A11 rfl rfl at_132 rfl ?_
      refine own_callS X50 (W := 0) (argsL := [(.int (own_step (own_step (0 : Int32) (own_mk raw flags (1 : Int32))) (own_mk raw flags (2 : Int32)))), (.int (own_mk raw flags (3 : Int32)))]) (rest := []) (S' := [(.int (own_step (own_step (own_step (0 : Int32) (own_mk raw flags (1 : Int32))) (own_mk raw flags (2 : Int32))) (own_mk raw flags (3 : Int32))))]) (pc' := 136) (rm3 l Z a0 hw n0 (own_step (own_step (0 : Int32) (own_mk raw flags (1 : Int32))) (own_mk raw flags (2 : Int32))) (own_mk raw flags (3 : Int32)) h11 X50.size) (hw _ (List.mem_of_getElem? (i := 11) rfl)) (hw _ (List.mem_of_getElem? (i := 12) rfl)) (hw _ (List.mem_of_getElem? (i := 3) rfl)) (hw _ (List.mem_of_getElem? (i := 13) rfl)) (by decide) (by decide) (by decide) rfl rfl (by decide) (by decide) (lenOf pd_2 rfl) rfl (by first | decide | exact Nat.le_of_eq rfl) rfl at_133 rfl rfl ?_
      intro T51 h51 X51 qq51
      rw [show h51 = h11 from qq51] at X51
      refine own_istore X51 (pc' := 138) (Ls' := #[.val (.long raw), .second, .val (.int flags), .val (.int ff), .val (.int ll), .val (.ref ad1), .val (.int (3 : Int32)), .val (.int (1 : Int32)), .val (.int (own_step (own_step (own_step (0 : Int32) (own_mk raw flags (1 : Int32))) (own_mk raw flags (2 : Int32))) (own_mk raw flags (3 : Int32)))), .unset]) at_136 rfl rfl ?_
      refine own_iload X51 (pc' := 140) at_138 rfl rfl ?_
      refine own_iconst X51 (v := (4 : Int32)) (pc' := 141) at_140 rfl (by decide) ?_
      refine own_icmp_lt X51 (pct := 158) (pc' := 144) at_141 rfl (by decide) (by decide) (fun _ => ?_) (fun hc => absurd hc (by decide))
      refine own_iload X51 (pc' := 160) at_158 rfl rfl ?_
      refine own_iconst X51 (v := (5 : Int32)) (pc' := 161) at_160 rfl (by decide) ?_
      refine own_icmp_lt X51 (pct := 178) (pc' := 164) at_161 rfl (by decide) (by decide) (fun _ => ?_) (fun hc => absurd hc (by decide))
      refine own_aload X51 (pc' := 180) at_178 rfl rfl rfl ?_
      refine own_iload X51 (pc' := 182) at_180 rfl rfl ?_
      refine own_iload X51 (pc' := 184) at_182 rfl rfl ?_
      refine own_callS X51 (W := 0) (argsL := [(.ref ad1), (.int (1 : Int32)), (.int (3 : Int32))]) (rest := []) (S' := [(.int (own_dig 0 [(own_mk raw flags (1 : Int32)), (own_mk raw flags (2 : Int32)), (own_mk raw flags (3 : Int32))]))]) (pc' := 187) (rm2_13 l Z a0 hw n0 ad1 h11 X51.size (own_mk raw flags (0 : Int32)) (own_mk raw flags (1 : Int32)) (own_mk raw flags (2 : Int32)) (own_mk raw flags (3 : Int32)) (own_mk raw flags (4 : Int32)) A11) (hw _ (List.mem_of_getElem? (i := 7) rfl)) (hw _ (List.mem_of_getElem? (i := 8) rfl)) (hw _ (List.mem_of_getElem? (i := 9) rfl)) (hw _ (List.mem_of_getElem? (i := 10) rfl)) (by decide) (by decide) (by decide) rfl rfl (by decide) (by decide) (lenOf pd_1 rfl) rfl (by first | decide | exact Nat.le_of_eq rfl) rfl at_184 rfl rfl ?_
      intro T52 h52 X52 qq52
      rw [show h52 = h11 from qq52] at X52
      refine own_istore X52 (pc' := 189) (Ls' := #[.val (.long raw), .second, .val (.int flags), .val (.int ff), .val (.int ll), .val (.ref ad1), .val (.int (3 : Int32)), .val (.int (1 : Int32)), .val (.int (own_step (own_step (own_step (0 : Int32) (own_mk raw flags (1 : Int32))) (own_mk raw flags (2 : Int32))) (own_mk raw flags (3 : Int32)))), .val (.int (own_dig 0 [(own_mk raw flags (1 : Int32)), (own_mk raw flags (2 : Int32)), (own_mk raw flags (3 : Int32))]))]) at_187 rfl rfl ?_
      refine own_iload X52 (pc' := 191) at_189 rfl rfl ?_
      refine own_iload X52 (pc' := 193) at_191 rfl rfl ?_
      refine own_icmp_ne X52 (pct := 200) (pc' := 196) at_193 rfl (by decide) (by decide) (fun hc => absurd hc (fun q => q (own_e3 (own_mk_rg _ _ _) (own_mk_rg _ _ _) (own_mk_rg _ _ _)))) (fun _ => ?_)
      refine own_iconst X52 (v := (1 : Int32)) (pc' := 197) at_196 rfl (by decide) ?_
      refine own_goto X52 (pc' := 201) at_197 (by decide) (by decide) ?_
      subst hΦ
      exact own_retZ X52 at_201 (by decide) (by decide) (by decide) rfl trivial
    · refine own_iconst X11 (v := (0 : Int32)) (pc' := 78) at_77 rfl (by decide) ?_
      refine own_istore X11 (pc' := 80) (Ls' := #[.val (.long raw), .second, .val (.int flags), .val (.int ff), .val (.int ll), .val (.ref ad1), .val (.int (3 : Int32)), .val (.int (2 : Int32)), .val (.int (0 : Int32)), .unset]) at_78 rfl rfl ?_
      refine own_iload X11 (pc' := 82) at_80 rfl rfl ?_
      refine own_iconst X11 (v := (1 : Int32)) (pc' := 83) at_82 rfl (by decide) ?_
      refine own_icmp_lt X11 (pct := 98) (pc' := 86) at_83 rfl (by decide) (by decide) (fun hc => absurd hc (by decide)) (fun _ => ?_)
      refine own_iload X11 (pc' := 88) at_86 rfl rfl ?_
      refine own_aload X11 (pc' := 90) at_88 rfl rfl rfl ?_
      refine own_iload X11 (pc' := 92) at_90 rfl rfl ?_
      refine own_baload X11 (v := (own_mk raw flags (2 : Int32))) (pc' := 93) A11 rfl rfl at_92 rfl ?_
      refine own_callS X11 (W := 0) (argsL := [(.int (0 : Int32)), (.int (own_mk raw flags (2 : Int32)))]) (rest := []) (S' := [(.int (own_step (0 : Int32) (own_mk raw flags (2 : Int32))))]) (pc' := 96) (rm3 l Z a0 hw n0 (0 : Int32) (own_mk raw flags (2 : Int32)) h11 X11.size) (hw _ (List.mem_of_getElem? (i := 11) rfl)) (hw _ (List.mem_of_getElem? (i := 12) rfl)) (hw _ (List.mem_of_getElem? (i := 3) rfl)) (hw _ (List.mem_of_getElem? (i := 13) rfl)) (by decide) (by decide) (by decide) rfl rfl (by decide) (by decide) (lenOf pd_2 rfl) rfl (by first | decide | exact Nat.le_of_eq rfl) rfl at_93 rfl rfl ?_
      intro T53 h53 X53 qq53
      rw [show h53 = h11 from qq53] at X53
      refine own_istore X53 (pc' := 98) (Ls' := #[.val (.long raw), .second, .val (.int flags), .val (.int ff), .val (.int ll), .val (.ref ad1), .val (.int (3 : Int32)), .val (.int (2 : Int32)), .val (.int (own_step (0 : Int32) (own_mk raw flags (2 : Int32)))), .unset]) at_96 rfl rfl ?_
      refine own_iload X53 (pc' := 100) at_98 rfl rfl ?_
      refine own_iconst X53 (v := (2 : Int32)) (pc' := 101) at_100 rfl (by decide) ?_
      refine own_icmp_lt X53 (pct := 118) (pc' := 104) at_101 rfl (by decide) (by decide) (fun hc => absurd hc (by decide)) (fun _ => ?_)
      refine own_iload X53 (pc' := 106) at_104 rfl rfl ?_
      refine own_aload X53 (pc' := 108) at_106 rfl rfl rfl ?_
      refine own_iload X53 (pc' := 110) at_108 rfl rfl ?_
      refine own_iconst X53 (v := (1 : Int32)) (pc' := 111) at_110 rfl (by decide) ?_
      refine own_iadd X53 (r := (3 : Int32)) (pc' := 112) at_111 rfl (by decide) ?_
      refine own_baload X53 (v := (own_mk raw flags (3 : Int32))) (pc' := 113) A11 rfl rfl at_112 rfl ?_
      refine own_callS X53 (W := 0) (argsL := [(.int (own_step (0 : Int32) (own_mk raw flags (2 : Int32)))), (.int (own_mk raw flags (3 : Int32)))]) (rest := []) (S' := [(.int (own_step (own_step (0 : Int32) (own_mk raw flags (2 : Int32))) (own_mk raw flags (3 : Int32))))]) (pc' := 116) (rm3 l Z a0 hw n0 (own_step (0 : Int32) (own_mk raw flags (2 : Int32))) (own_mk raw flags (3 : Int32)) h11 X53.size) (hw _ (List.mem_of_getElem? (i := 11) rfl)) (hw _ (List.mem_of_getElem? (i := 12) rfl)) (hw _ (List.mem_of_getElem? (i := 3) rfl)) (hw _ (List.mem_of_getElem? (i := 13) rfl)) (by decide) (by decide) (by decide) rfl rfl (by decide) (by decide) (lenOf pd_2 rfl) rfl (by first | decide | exact Nat.le_of_eq rfl) rfl at_113 rfl rfl ?_
      intro T54 h54 X54 qq54
      rw [show h54 = h11 from qq54] at X54
      refine own_istore X54 (pc' := 118) (Ls' := #[.val (.long raw), .second, .val (.int flags), .val (.int ff), .val (.int ll), .val (.ref ad1), .val (.int (3 : Int32)), .val (.int (2 : Int32)), .val (.int (own_step (own_step (0 : Int32) (own_mk raw flags (2 : Int32))) (own_mk raw flags (3 : Int32)))), .unset]) at_116 rfl rfl ?_
      refine own_iload X54 (pc' := 120) at_118 rfl rfl ?_
      refine own_iconst X54 (v := (3 : Int32)) (pc' := 121) at_120 rfl (by decide) ?_
      refine own_icmp_lt X54 (pct := 138) (pc' := 124) at_121 rfl (by decide) (by decide) (fun hc => absurd hc (by decide)) (fun _ => ?_)
      refine own_iload X54 (pc' := 126) at_124 rfl rfl ?_
      refine own_aload X54 (pc' := 128) at_126 rfl rfl rfl ?_
      refine own_iload X54 (pc' := 130) at_128 rfl rfl ?_
      refine own_iconst X54 (v := (2 : Int32)) (pc' := 131) at_130 rfl (by decide) ?_
      refine own_iadd X54 (r := (4 : Int32)) (pc' := 132) at_131 rfl (by decide) ?_
      refine own_baload X54 (v := (own_mk raw flags (4 : Int32))) (pc' := 133) A11 rfl rfl at_132 rfl ?_
      refine own_callS X54 (W := 0) (argsL := [(.int (own_step (own_step (0 : Int32) (own_mk raw flags (2 : Int32))) (own_mk raw flags (3 : Int32)))), (.int (own_mk raw flags (4 : Int32)))]) (rest := []) (S' := [(.int (own_step (own_step (own_step (0 : Int32) (own_mk raw flags (2 : Int32))) (own_mk raw flags (3 : Int32))) (own_mk raw flags (4 : Int32))))]) (pc' := 136) (rm3 l Z a0 hw n0 (own_step (own_step (0 : Int32) (own_mk raw flags (2 : Int32))) (own_mk raw flags (3 : Int32))) (own_mk raw flags (4 : Int32)) h11 X54.size) (hw _ (List.mem_of_getElem? (i := 11) rfl)) (hw _ (List.mem_of_getElem? (i := 12) rfl)) (hw _ (List.mem_of_getElem? (i := 3) rfl)) (hw _ (List.mem_of_getElem? (i := 13) rfl)) (by decide) (by decide) (by decide) rfl rfl (by decide) (by decide) (lenOf pd_2 rfl) rfl (by first | decide | exact Nat.le_of_eq rfl) rfl at_133 rfl rfl ?_
      intro T55 h55 X55 qq55
      rw [show h55 = h11 from qq55] at X55
      refine own_istore X55 (pc' := 138) (Ls' := #[.val (.long raw), .second, .val (.int flags), .val (.int ff), .val (.int ll), .val (.ref ad1), .val (.int (3 : Int32)), .val (.int (2 : Int32)), .val (.int (own_step (own_step (own_step (0 : Int32) (own_mk raw flags (2 : Int32))) (own_mk raw flags (3 : Int32))) (own_mk raw flags (4 : Int32)))), .unset]) at_136 rfl rfl ?_
      refine own_iload X55 (pc' := 140) at_138 rfl rfl ?_
      refine own_iconst X55 (v := (4 : Int32)) (pc' := 141) at_140 rfl (by decide) ?_
      refine own_icmp_lt X55 (pct := 158) (pc' := 144) at_141 rfl (by decide) (by decide) (fun _ => ?_) (fun hc => absurd hc (by decide))
      refine own_iload X55 (pc' := 160) at_158 rfl rfl ?_
      refine own_iconst X55 (v := (5 : Int32)) (pc' := 161) at_160 rfl (by decide) ?_
      refine own_icmp_lt X55 (pct := 178) (pc' := 164) at_161 rfl (by decide) (by decide) (fun _ => ?_) (fun hc => absurd hc (by decide))
      refine own_aload X55 (pc' := 180) at_178 rfl rfl rfl ?_
      refine own_iload X55 (pc' := 182) at_180 rfl rfl ?_
      refine own_iload X55 (pc' := 184) at_182 rfl rfl ?_
      refine own_callS X55 (W := 0) (argsL := [(.ref ad1), (.int (2 : Int32)), (.int (3 : Int32))]) (rest := []) (S' := [(.int (own_dig 0 [(own_mk raw flags (2 : Int32)), (own_mk raw flags (3 : Int32)), (own_mk raw flags (4 : Int32))]))]) (pc' := 187) (rm2_23 l Z a0 hw n0 ad1 h11 X55.size (own_mk raw flags (0 : Int32)) (own_mk raw flags (1 : Int32)) (own_mk raw flags (2 : Int32)) (own_mk raw flags (3 : Int32)) (own_mk raw flags (4 : Int32)) A11) (hw _ (List.mem_of_getElem? (i := 7) rfl)) (hw _ (List.mem_of_getElem? (i := 8) rfl)) (hw _ (List.mem_of_getElem? (i := 9) rfl)) (hw _ (List.mem_of_getElem? (i := 10) rfl)) (by decide) (by decide) (by decide) rfl rfl (by decide) (by decide) (lenOf pd_1 rfl) rfl (by first | decide | exact Nat.le_of_eq rfl) rfl at_184 rfl rfl ?_
      intro T56 h56 X56 qq56
      rw [show h56 = h11 from qq56] at X56
      refine own_istore X56 (pc' := 189) (Ls' := #[.val (.long raw), .second, .val (.int flags), .val (.int ff), .val (.int ll), .val (.ref ad1), .val (.int (3 : Int32)), .val (.int (2 : Int32)), .val (.int (own_step (own_step (own_step (0 : Int32) (own_mk raw flags (2 : Int32))) (own_mk raw flags (3 : Int32))) (own_mk raw flags (4 : Int32)))), .val (.int (own_dig 0 [(own_mk raw flags (2 : Int32)), (own_mk raw flags (3 : Int32)), (own_mk raw flags (4 : Int32))]))]) at_187 rfl rfl ?_
      refine own_iload X56 (pc' := 191) at_189 rfl rfl ?_
      refine own_iload X56 (pc' := 193) at_191 rfl rfl ?_
      refine own_icmp_ne X56 (pct := 200) (pc' := 196) at_193 rfl (by decide) (by decide) (fun hc => absurd hc (fun q => q (own_e3 (own_mk_rg _ _ _) (own_mk_rg _ _ _) (own_mk_rg _ _ _)))) (fun _ => ?_)
      refine own_iconst X56 (v := (1 : Int32)) (pc' := 197) at_196 rfl (by decide) ?_
      refine own_goto X56 (pc' := 201) at_197 (by decide) (by decide) ?_
      subst hΦ
      exact own_retZ X56 at_201 (by decide) (by decide) (by decide) rfl trivial
  · refine own_iloadN X11 (pc' := 66) at_65 rfl rfl ?_
    refine own_ldc X11 (pc' := 68) (hw _ (List.mem_of_getElem? (i := 6) rfl)) at_66 rfl ?_
    refine own_iand X11 (r := (ff &&& (2147483647 : Int32))) (pc' := 69) at_68 rfl rfl ?_
    refine own_bipush X11 (v := (6 : Int32)) (pc' := 71) at_69 rfl (by decide) ?_
    refine own_iload X11 (pc' := 73) at_71 rfl rfl ?_
    refine own_isub X11 (r := (2 : Int32)) (pc' := 74) at_73 rfl (by decide) ?_
    refine own_irem X11 (r := ((ff &&& (2147483647 : Int32)) - ((ff &&& (2147483647 : Int32)) / (2 : Int32)) * (2 : Int32))) (pc' := 75) at_74 rfl (by decide) rfl ?_
    refine own_istore X11 (pc' := 77) (Ls' := #[.val (.long raw), .second, .val (.int flags), .val (.int ff), .val (.int ll), .val (.ref ad1), .val (.int (4 : Int32)), .val (.int ((ff &&& (2147483647 : Int32)) - ((ff &&& (2147483647 : Int32)) / (2 : Int32)) * (2 : Int32))), .unset, .unset]) at_75 rfl rfl ?_
    generalize e57 : ((ff &&& (2147483647 : Int32)) - ((ff &&& (2147483647 : Int32)) / (2 : Int32)) * (2 : Int32)) = v57
    rcases own_c2 (own_rem 2 (by decide) e57) with rfl | rfl
    · refine own_iconst X11 (v := (0 : Int32)) (pc' := 78) at_77 rfl (by decide) ?_
      refine own_istore X11 (pc' := 80) (Ls' := #[.val (.long raw), .second, .val (.int flags), .val (.int ff), .val (.int ll), .val (.ref ad1), .val (.int (4 : Int32)), .val (.int (0 : Int32)), .val (.int (0 : Int32)), .unset]) at_78 rfl rfl ?_
      refine own_iload X11 (pc' := 82) at_80 rfl rfl ?_
      refine own_iconst X11 (v := (1 : Int32)) (pc' := 83) at_82 rfl (by decide) ?_
      refine own_icmp_lt X11 (pct := 98) (pc' := 86) at_83 rfl (by decide) (by decide) (fun hc => absurd hc (by decide)) (fun _ => ?_)
      refine own_iload X11 (pc' := 88) at_86 rfl rfl ?_
      refine own_aload X11 (pc' := 90) at_88 rfl rfl rfl ?_
      refine own_iload X11 (pc' := 92) at_90 rfl rfl ?_
      refine own_baload X11 (v := (own_mk raw flags (0 : Int32))) (pc' := 93) A11 rfl rfl at_92 rfl ?_
      refine own_callS X11 (W := 0) (argsL := [(.int (0 : Int32)), (.int (own_mk raw flags (0 : Int32)))]) (rest := []) (S' := [(.int (own_step (0 : Int32) (own_mk raw flags (0 : Int32))))]) (pc' := 96) (rm3 l Z a0 hw n0 (0 : Int32) (own_mk raw flags (0 : Int32)) h11 X11.size) (hw _ (List.mem_of_getElem? (i := 11) rfl)) (hw _ (List.mem_of_getElem? (i := 12) rfl)) (hw _ (List.mem_of_getElem? (i := 3) rfl)) (hw _ (List.mem_of_getElem? (i := 13) rfl)) (by decide) (by decide) (by decide) rfl rfl (by decide) (by decide) (lenOf pd_2 rfl) rfl (by first | decide | exact Nat.le_of_eq rfl) rfl at_93 rfl rfl ?_
      intro T58 h58 X58 qq58
      rw [show h58 = h11 from qq58] at X58
      refine own_istore X58 (pc' := 98) (Ls' := #[.val (.long raw), .second, .val (.int flags), .val (.int ff), .val (.int ll), .val (.ref ad1), .val (.int (4 : Int32)), .val (.int (0 : Int32)), .val (.int (own_step (0 : Int32) (own_mk raw flags (0 : Int32)))), .unset]) at_96 rfl rfl ?_
      refine own_iload X58 (pc' := 100) at_98 rfl rfl ?_
      refine own_iconst X58 (v := (2 : Int32)) (pc' := 101) at_100 rfl (by decide) ?_
      refine own_icmp_lt X58 (pct := 118) (pc' := 104) at_101 rfl (by decide) (by decide) (fun hc => absurd hc (by decide)) (fun _ => ?_)
      refine own_iload X58 (pc' := 106) at_104 rfl rfl ?_
      refine own_aload X58 (pc' := 108) at_106 rfl rfl rfl ?_
      refine own_iload X58 (pc' := 110) at_108 rfl rfl ?_
      refine own_iconst X58 (v := (1 : Int32)) (pc' := 111) at_110 rfl (by decide) ?_
      refine own_iadd X58 (r := (1 : Int32)) (pc' := 112) at_111 rfl (by decide) ?_
      refine own_baload X58 (v := (own_mk raw flags (1 : Int32))) (pc' := 113) A11 rfl rfl at_112 rfl ?_
      refine own_callS X58 (W := 0) (argsL := [(.int (own_step (0 : Int32) (own_mk raw flags (0 : Int32)))), (.int (own_mk raw flags (1 : Int32)))]) (rest := []) (S' := [(.int (own_step (own_step (0 : Int32) (own_mk raw flags (0 : Int32))) (own_mk raw flags (1 : Int32))))]) (pc' := 116) (rm3 l Z a0 hw n0 (own_step (0 : Int32) (own_mk raw flags (0 : Int32))) (own_mk raw flags (1 : Int32)) h11 X58.size) (hw _ (List.mem_of_getElem? (i := 11) rfl)) (hw _ (List.mem_of_getElem? (i := 12) rfl)) (hw _ (List.mem_of_getElem? (i := 3) rfl)) (hw _ (List.mem_of_getElem? (i := 13) rfl)) (by decide) (by decide) (by decide) rfl rfl (by decide) (by decide) (lenOf pd_2 rfl) rfl (by first | decide | exact Nat.le_of_eq rfl) rfl at_113 rfl rfl ?_
      intro T59 h59 X59 qq59
      rw [show h59 = h11 from qq59] at X59
      refine own_istore X59 (pc' := 118) (Ls' := #[.val (.long raw), .second, .val (.int flags), .val (.int ff), .val (.int ll), .val (.ref ad1), .val (.int (4 : Int32)), .val (.int (0 : Int32)), .val (.int (own_step (own_step (0 : Int32) (own_mk raw flags (0 : Int32))) (own_mk raw flags (1 : Int32)))), .unset]) at_116 rfl rfl ?_
      refine own_iload X59 (pc' := 120) at_118 rfl rfl ?_
      refine own_iconst X59 (v := (3 : Int32)) (pc' := 121) at_120 rfl (by decide) ?_
      refine own_icmp_lt X59 (pct := 138) (pc' := 124) at_121 rfl (by decide) (by decide) (fun hc => absurd hc (by decide)) (fun _ => ?_)
      refine own_iload X59 (pc' := 126) at_124 rfl rfl ?_
      refine own_aload X59 (pc' := 128) at_126 rfl rfl rfl ?_
      refine own_iload X59 (pc' := 130) at_128 rfl rfl ?_
      refine own_iconst X59 (v := (2 : Int32)) (pc' := 131) at_130 rfl (by decide) ?_
      refine own_iadd X59 (r := (2 : Int32)) (pc' := 132) at_131 rfl (by decide) ?_
      refine own_baload X59 (v := (own_mk raw flags (2 : Int32))) (pc' := 133) A11 rfl rfl at_132 rfl ?_
      refine own_callS X59 (W := 0) (argsL := [(.int (own_step (own_step (0 : Int32) (own_mk raw flags (0 : Int32))) (own_mk raw flags (1 : Int32)))), (.int (own_mk raw flags (2 : Int32)))]) (rest := []) (S' := [(.int (own_step (own_step (own_step (0 : Int32) (own_mk raw flags (0 : Int32))) (own_mk raw flags (1 : Int32))) (own_mk raw flags (2 : Int32))))]) (pc' := 136) (rm3 l Z a0 hw n0 (own_step (own_step (0 : Int32) (own_mk raw flags (0 : Int32))) (own_mk raw flags (1 : Int32))) (own_mk raw flags (2 : Int32)) h11 X59.size) (hw _ (List.mem_of_getElem? (i := 11) rfl)) (hw _ (List.mem_of_getElem? (i := 12) rfl)) (hw _ (List.mem_of_getElem? (i := 3) rfl)) (hw _ (List.mem_of_getElem? (i := 13) rfl)) (by decide) (by decide) (by decide) rfl rfl (by decide) (by decide) (lenOf pd_2 rfl) rfl (by first | decide | exact Nat.le_of_eq rfl) rfl at_133 rfl rfl ?_
      intro T60 h60 X60 qq60
      rw [show h60 = h11 from qq60] at X60
      refine own_istore X60 (pc' := 138) (Ls' := #[.val (.long raw), .second, .val (.int flags), .val (.int ff), .val (.int ll), .val (.ref ad1), .val (.int (4 : Int32)), .val (.int (0 : Int32)), .val (.int (own_step (own_step (own_step (0 : Int32) (own_mk raw flags (0 : Int32))) (own_mk raw flags (1 : Int32))) (own_mk raw flags (2 : Int32)))), .unset]) at_136 rfl rfl ?_
      refine own_iload X60 (pc' := 140) at_138 rfl rfl ?_
      refine own_iconst X60 (v := (4 : Int32)) (pc' := 141) at_140 rfl (by decide) ?_
      refine own_icmp_lt X60 (pct := 158) (pc' := 144) at_141 rfl (by decide) (by decide) (fun hc => absurd hc (by decide)) (fun _ => ?_)
      refine own_iload X60 (pc' := 146) at_144 rfl rfl ?_
      refine own_aload X60 (pc' := 148) at_146 rfl rfl rfl ?_
      refine own_iload X60 (pc' := 150) at_148 rfl rfl ?_
      refine own_iconst X60 (v := (3 : Int32)) (pc' := 151) at_150 rfl (by decide) ?_
      refine own_iadd X60 (r := (3 : Int32)) (pc' := 152) at_151 rfl (by decide) ?_
      refine own_baload X60 (v := (own_mk raw flags (3 : Int32))) (pc' := 153) A11 rfl rfl at_152 rfl ?_
      refine own_callS X60 (W := 0) (argsL := [(.int (own_step (own_step (own_step (0 : Int32) (own_mk raw flags (0 : Int32))) (own_mk raw flags (1 : Int32))) (own_mk raw flags (2 : Int32)))), (.int (own_mk raw flags (3 : Int32)))]) (rest := []) (S' := [(.int (own_step (own_step (own_step (own_step (0 : Int32) (own_mk raw flags (0 : Int32))) (own_mk raw flags (1 : Int32))) (own_mk raw flags (2 : Int32))) (own_mk raw flags (3 : Int32))))]) (pc' := 156) (rm3 l Z a0 hw n0 (own_step (own_step (own_step (0 : Int32) (own_mk raw flags (0 : Int32))) (own_mk raw flags (1 : Int32))) (own_mk raw flags (2 : Int32))) (own_mk raw flags (3 : Int32)) h11 X60.size) (hw _ (List.mem_of_getElem? (i := 11) rfl)) (hw _ (List.mem_of_getElem? (i := 12) rfl)) (hw _ (List.mem_of_getElem? (i := 3) rfl)) (hw _ (List.mem_of_getElem? (i := 13) rfl)) (by decide) (by decide) (by decide) rfl rfl (by decide) (by decide) (lenOf pd_2 rfl) rfl (by first | decide | exact Nat.le_of_eq rfl) rfl at_153 rfl rfl ?_
      intro T61 h61 X61 qq61
      rw [show h61 = h11 from qq61] at X61
      refine own_istore X61 (pc' := 158) (Ls' := #[.val (.long raw), .second, .val (.int flags), .val (.int ff), .val (.int ll), .val (.ref ad1), .val (.int (4 : Int32)), .val (.int (0 : Int32)), .val (.int (own_step (own_step (own_step (own_step (0 : Int32) (own_mk raw flags (0 : Int32))) (own_mk raw flags (1 : Int32))) (own_mk raw flags (2 : Int32))) (own_mk raw flags (3 : Int32)))), .unset]) at_156 rfl rfl ?_
      refine own_iload X61 (pc' := 160) at_158 rfl rfl ?_
      refine own_iconst X61 (v := (5 : Int32)) (pc' := 161) at_160 rfl (by decide) ?_
      refine own_icmp_lt X61 (pct := 178) (pc' := 164) at_161 rfl (by decide) (by decide) (fun _ => ?_) (fun hc => absurd hc (by decide))
      refine own_aload X61 (pc' := 180) at_178 rfl rfl rfl ?_
      refine own_iload X61 (pc' := 182) at_180 rfl rfl ?_
      refine own_iload X61 (pc' := 184) at_182 rfl rfl ?_
      refine own_callS X61 (W := 0) (argsL := [(.ref ad1), (.int (0 : Int32)), (.int (4 : Int32))]) (rest := []) (S' := [(.int (own_dig 0 [(own_mk raw flags (0 : Int32)), (own_mk raw flags (1 : Int32)), (own_mk raw flags (2 : Int32)), (own_mk raw flags (3 : Int32))]))]) (pc' := 187) (rm2_04 l Z a0 hw n0 ad1 h11 X61.size (own_mk raw flags (0 : Int32)) (own_mk raw flags (1 : Int32)) (own_mk raw flags (2 : Int32)) (own_mk raw flags (3 : Int32)) (own_mk raw flags (4 : Int32)) A11) (hw _ (List.mem_of_getElem? (i := 7) rfl)) (hw _ (List.mem_of_getElem? (i := 8) rfl)) (hw _ (List.mem_of_getElem? (i := 9) rfl)) (hw _ (List.mem_of_getElem? (i := 10) rfl)) (by decide) (by decide) (by decide) rfl rfl (by decide) (by decide) (lenOf pd_1 rfl) rfl (by first | decide | exact Nat.le_of_eq rfl) rfl at_184 rfl rfl ?_
      intro T62 h62 X62 qq62
      rw [show h62 = h11 from qq62] at X62
      refine own_istore X62 (pc' := 189) (Ls' := #[.val (.long raw), .second, .val (.int flags), .val (.int ff), .val (.int ll), .val (.ref ad1), .val (.int (4 : Int32)), .val (.int (0 : Int32)), .val (.int (own_step (own_step (own_step (own_step (0 : Int32) (own_mk raw flags (0 : Int32))) (own_mk raw flags (1 : Int32))) (own_mk raw flags (2 : Int32))) (own_mk raw flags (3 : Int32)))), .val (.int (own_dig 0 [(own_mk raw flags (0 : Int32)), (own_mk raw flags (1 : Int32)), (own_mk raw flags (2 : Int32)), (own_mk raw flags (3 : Int32))]))]) at_187 rfl rfl ?_
      refine own_iload X62 (pc' := 191) at_189 rfl rfl ?_
      refine own_iload X62 (pc' := 193) at_191 rfl rfl ?_
      refine own_icmp_ne X62 (pct := 200) (pc' := 196) at_193 rfl (by decide) (by decide) (fun hc => absurd hc (fun q => q (own_e4 (own_mk_rg _ _ _) (own_mk_rg _ _ _) (own_mk_rg _ _ _) (own_mk_rg _ _ _)))) (fun _ => ?_)
      refine own_iconst X62 (v := (1 : Int32)) (pc' := 197) at_196 rfl (by decide) ?_
      refine own_goto X62 (pc' := 201) at_197 (by decide) (by decide) ?_
      subst hΦ
      exact own_retZ X62 at_201 (by decide) (by decide) (by decide) rfl trivial
    · refine own_iconst X11 (v := (0 : Int32)) (pc' := 78) at_77 rfl (by decide) ?_
      refine own_istore X11 (pc' := 80) (Ls' := #[.val (.long raw), .second, .val (.int flags), .val (.int ff), .val (.int ll), .val (.ref ad1), .val (.int (4 : Int32)), .val (.int (1 : Int32)), .val (.int (0 : Int32)), .unset]) at_78 rfl rfl ?_
      refine own_iload X11 (pc' := 82) at_80 rfl rfl ?_
      refine own_iconst X11 (v := (1 : Int32)) (pc' := 83) at_82 rfl (by decide) ?_
      refine own_icmp_lt X11 (pct := 98) (pc' := 86) at_83 rfl (by decide) (by decide) (fun hc => absurd hc (by decide)) (fun _ => ?_)
      refine own_iload X11 (pc' := 88) at_86 rfl rfl ?_
      refine own_aload X11 (pc' := 90) at_88 rfl rfl rfl ?_
      refine own_iload X11 (pc' := 92) at_90 rfl rfl ?_
      refine own_baload X11 (v := (own_mk raw flags (1 : Int32))) (pc' := 93) A11 rfl rfl at_92 rfl ?_
      refine own_callS X11 (W := 0) (argsL := [(.int (0 : Int32)), (.int (own_mk raw flags (1 : Int32)))]) (rest := []) (S' := [(.int (own_step (0 : Int32) (own_mk raw flags (1 : Int32))))]) (pc' := 96) (rm3 l Z a0 hw n0 (0 : Int32) (own_mk raw flags (1 : Int32)) h11 X11.size) (hw _ (List.mem_of_getElem? (i := 11) rfl)) (hw _ (List.mem_of_getElem? (i := 12) rfl)) (hw _ (List.mem_of_getElem? (i := 3) rfl)) (hw _ (List.mem_of_getElem? (i := 13) rfl)) (by decide) (by decide) (by decide) rfl rfl (by decide) (by decide) (lenOf pd_2 rfl) rfl (by first | decide | exact Nat.le_of_eq rfl) rfl at_93 rfl rfl ?_
      intro T63 h63 X63 qq63
      rw [show h63 = h11 from qq63] at X63
      refine own_istore X63 (pc' := 98) (Ls' := #[.val (.long raw), .second, .val (.int flags), .val (.int ff), .val (.int ll), .val (.ref ad1), .val (.int (4 : Int32)), .val (.int (1 : Int32)), .val (.int (own_step (0 : Int32) (own_mk raw flags (1 : Int32)))), .unset]) at_96 rfl rfl ?_
      refine own_iload X63 (pc' := 100) at_98 rfl rfl ?_
      refine own_iconst X63 (v := (2 : Int32)) (pc' := 101) at_100 rfl (by decide) ?_
      refine own_icmp_lt X63 (pct := 118) (pc' := 104) at_101 rfl (by decide) (by decide) (fun hc => absurd hc (by decide)) (fun _ => ?_)
      refine own_iload X63 (pc' := 106) at_104 rfl rfl ?_
      refine own_aload X63 (pc' := 108) at_106 rfl rfl rfl ?_
      refine own_iload X63 (pc' := 110) at_108 rfl rfl ?_
      refine own_iconst X63 (v := (1 : Int32)) (pc' := 111) at_110 rfl (by decide) ?_
      refine own_iadd X63 (r := (2 : Int32)) (pc' := 112) at_111 rfl (by decide) ?_
      refine own_baload X63 (v := (own_mk raw flags (2 : Int32))) (pc' := 113) A11 rfl rfl at_112 rfl ?_
      refine own_callS X63 (W := 0) (argsL := [(.int (own_step (0 : Int32) (own_mk raw flags (1 : Int32)))), (.int (own_mk raw flags (2 : Int32)))]) (rest := []) (S' := [(.int (own_step (own_step (0 : Int32) (own_mk raw flags (1 : Int32))) (own_mk raw flags (2 : Int32))))]) (pc' := 116) (rm3 l Z a0 hw n0 (own_step (0 : Int32) (own_mk raw flags (1 : Int32))) (own_mk raw flags (2 : Int32)) h11 X63.size) (hw _ (List.mem_of_getElem? (i := 11) rfl)) (hw _ (List.mem_of_getElem? (i := 12) rfl)) (hw _ (List.mem_of_getElem? (i := 3) rfl)) (hw _ (List.mem_of_getElem? (i := 13) rfl)) (by decide) (by decide) (by decide) rfl rfl (by decide) (by decide) (lenOf pd_2 rfl) rfl (by first | decide | exact Nat.le_of_eq rfl) rfl at_113 rfl rfl ?_
      intro T64 h64 X64 qq64
      rw [show h64 = h11 from qq64] at X64
      refine own_istore X64 (pc' := 118) (Ls' := #[.val (.long raw), .second, .val (.int flags), .val (.int ff), .val (.int ll), .val (.ref ad1), .val (.int (4 : Int32)), .val (.int (1 : Int32)), .val (.int (own_step (own_step (0 : Int32) (own_mk raw flags (1 : Int32))) (own_mk raw flags (2 : Int32)))), .unset]) at_116 rfl rfl ?_
      refine own_iload X64 (pc' := 120) at_118 rfl rfl ?_
      refine own_iconst X64 (v := (3 : Int32)) (pc' := 121) at_120 rfl (by decide) ?_
      refine own_icmp_lt X64 (pct := 138) (pc' := 124) at_121 rfl (by decide) (by decide) (fun hc => absurd hc (by decide)) (fun _ => ?_)
      refine own_iload X64 (pc' := 126) at_124 rfl rfl ?_
      refine own_aload X64 (pc' := 128) at_126 rfl rfl rfl ?_
      refine own_iload X64 (pc' := 130) at_128 rfl rfl ?_
      refine own_iconst X64 (v := (2 : Int32)) (pc' := 131) at_130 rfl (by decide) ?_
      refine own_iadd X64 (r := (3 : Int32)) (pc' := 132) at_131 rfl (by decide) ?_
      refine own_baload X64 (v := (own_mk raw flags (3 : Int32))) (pc' := 133) A11 rfl rfl at_132 rfl ?_
      refine own_callS X64 (W := 0) (argsL := [(.int (own_step (own_step (0 : Int32) (own_mk raw flags (1 : Int32))) (own_mk raw flags (2 : Int32)))), (.int (own_mk raw flags (3 : Int32)))]) (rest := []) (S' := [(.int (own_step (own_step (own_step (0 : Int32) (own_mk raw flags (1 : Int32))) (own_mk raw flags (2 : Int32))) (own_mk raw flags (3 : Int32))))]) (pc' := 136) (rm3 l Z a0 hw n0 (own_step (own_step (0 : Int32) (own_mk raw flags (1 : Int32))) (own_mk raw flags (2 : Int32))) (own_mk raw flags (3 : Int32)) h11 X64.size) (hw _ (List.mem_of_getElem? (i := 11) rfl)) (hw _ (List.mem_of_getElem? (i := 12) rfl)) (hw _ (List.mem_of_getElem? (i := 3) rfl)) (hw _ (List.mem_of_getElem? (i := 13) rfl)) (by decide) (by decide) (by decide) rfl rfl (by decide) (by decide) (lenOf pd_2 rfl) rfl (by first | decide | exact Nat.le_of_eq rfl) rfl at_133 rfl rfl ?_
      intro T65 h65 X65 qq65
      rw [show h65 = h11 from qq65] at X65
      refine own_istore X65 (pc' := 138) (Ls' := #[.val (.long raw), .second, .val (.int flags), .val (.int ff), .val (.int ll), .val (.ref ad1), .val (.int (4 : Int32)), .val (.int (1 : Int32)), .val (.int (own_step (own_step (own_step (0 : Int32) (own_mk raw flags (1 : Int32))) (own_mk raw flags (2 : Int32))) (own_mk raw flags (3 : Int32)))), .unset]) at_136 rfl rfl ?_
      refine own_iload X65 (pc' := 140) at_138 rfl rfl ?_
      refine own_iconst X65 (v := (4 : Int32)) (pc' := 141) at_140 rfl (by decide) ?_
      refine own_icmp_lt X65 (pct := 158) (pc' := 144) at_141 rfl (by decide) (by decide) (fun hc => absurd hc (by decide)) (fun _ => ?_)
      refine own_iload X65 (pc' := 146) at_144 rfl rfl ?_
      refine own_aload X65 (pc' := 148) at_146 rfl rfl rfl ?_
      refine own_iload X65 (pc' := 150) at_148 rfl rfl ?_
      refine own_iconst X65 (v := (3 : Int32)) (pc' := 151) at_150 rfl (by decide) ?_
      refine own_iadd X65 (r := (4 : Int32)) (pc' := 152) at_151 rfl (by decide) ?_
      refine own_baload X65 (v := (own_mk raw flags (4 : Int32))) (pc' := 153) A11 rfl rfl at_152 rfl ?_
      refine own_callS X65 (W := 0) (argsL := [(.int (own_step (own_step (own_step (0 : Int32) (own_mk raw flags (1 : Int32))) (own_mk raw flags (2 : Int32))) (own_mk raw flags (3 : Int32)))), (.int (own_mk raw flags (4 : Int32)))]) (rest := []) (S' := [(.int (own_step (own_step (own_step (own_step (0 : Int32) (own_mk raw flags (1 : Int32))) (own_mk raw flags (2 : Int32))) (own_mk raw flags (3 : Int32))) (own_mk raw flags (4 : Int32))))]) (pc' := 156) (rm3 l Z a0 hw n0 (own_step (own_step (own_step (0 : Int32) (own_mk raw flags (1 : Int32))) (own_mk raw flags (2 : Int32))) (own_mk raw flags (3 : Int32))) (own_mk raw flags (4 : Int32)) h11 X65.size) (hw _ (List.mem_of_getElem? (i := 11) rfl)) (hw _ (List.mem_of_getElem? (i := 12) rfl)) (hw _ (List.mem_of_getElem? (i := 3) rfl)) (hw _ (List.mem_of_getElem? (i := 13) rfl)) (by decide) (by decide) (by decide) rfl rfl (by decide) (by decide) (lenOf pd_2 rfl) rfl (by first | decide | exact Nat.le_of_eq rfl) rfl at_153 rfl rfl ?_
      intro T66 h66 X66 qq66
      rw [show h66 = h11 from qq66] at X66
      refine own_istore X66 (pc' := 158) (Ls' := #[.val (.long raw), .second, .val (.int flags), .val (.int ff), .val (.int ll), .val (.ref ad1), .val (.int (4 : Int32)), .val (.int (1 : Int32)), .val (.int (own_step (own_step (own_step (own_step (0 : Int32) (own_mk raw flags (1 : Int32))) (own_mk raw flags (2 : Int32))) (own_mk raw flags (3 : Int32))) (own_mk raw flags (4 : Int32)))), .unset]) at_156 rfl rfl ?_
      refine own_iload X66 (pc' := 160) at_158 rfl rfl ?_
      refine own_iconst X66 (v := (5 : Int32)) (pc' := 161) at_160 rfl (by decide) ?_
      refine own_icmp_lt X66 (pct := 178) (pc' := 164) at_161 rfl (by decide) (by decide) (fun _ => ?_) (fun hc => absurd hc (by decide))
      refine own_aload X66 (pc' := 180) at_178 rfl rfl rfl ?_
      refine own_iload X66 (pc' := 182) at_180 rfl rfl ?_
      refine own_iload X66 (pc' := 184) at_182 rfl rfl ?_
      refine own_callS X66 (W := 0) (argsL := [(.ref ad1), (.int (1 : Int32)), (.int (4 : Int32))]) (rest := []) (S' := [(.int (own_dig 0 [(own_mk raw flags (1 : Int32)), (own_mk raw flags (2 : Int32)), (own_mk raw flags (3 : Int32)), (own_mk raw flags (4 : Int32))]))]) (pc' := 187) (rm2_14 l Z a0 hw n0 ad1 h11 X66.size (own_mk raw flags (0 : Int32)) (own_mk raw flags (1 : Int32)) (own_mk raw flags (2 : Int32)) (own_mk raw flags (3 : Int32)) (own_mk raw flags (4 : Int32)) A11) (hw _ (List.mem_of_getElem? (i := 7) rfl)) (hw _ (List.mem_of_getElem? (i := 8) rfl)) (hw _ (List.mem_of_getElem? (i := 9) rfl)) (hw _ (List.mem_of_getElem? (i := 10) rfl)) (by decide) (by decide) (by decide) rfl rfl (by decide) (by decide) (lenOf pd_1 rfl) rfl (by first | decide | exact Nat.le_of_eq rfl) rfl at_184 rfl rfl ?_
      intro T67 h67 X67 qq67
      rw [show h67 = h11 from qq67] at X67
      refine own_istore X67 (pc' := 189) (Ls' := #[.val (.long raw), .second, .val (.int flags), .val (.int ff), .val (.int ll), .val (.ref ad1), .val (.int (4 : Int32)), .val (.int (1 : Int32)), .val (.int (own_step (own_step (own_step (own_step (0 : Int32) (own_mk raw flags (1 : Int32))) (own_mk raw flags (2 : Int32))) (own_mk raw flags (3 : Int32))) (own_mk raw flags (4 : Int32)))), .val (.int (own_dig 0 [(own_mk raw flags (1 : Int32)), (own_mk raw flags (2 : Int32)), (own_mk raw flags (3 : Int32)), (own_mk raw flags (4 : Int32))]))]) at_187 rfl rfl ?_
      refine own_iload X67 (pc' := 191) at_189 rfl rfl ?_
      refine own_iload X67 (pc' := 193) at_191 rfl rfl ?_
      refine own_icmp_ne X67 (pct := 200) (pc' := 196) at_193 rfl (by decide) (by decide) (fun hc => absurd hc (fun q => q (own_e4 (own_mk_rg _ _ _) (own_mk_rg _ _ _) (own_mk_rg _ _ _) (own_mk_rg _ _ _)))) (fun _ => ?_)
      refine own_iconst X67 (v := (1 : Int32)) (pc' := 197) at_196 rfl (by decide) ?_
      refine own_goto X67 (pc' := 201) at_197 (by decide) (by decide) ?_
      subst hΦ
      exact own_retZ X67 at_201 (by decide) (by decide) (by decide) rfl trivial
  · refine own_iloadN X11 (pc' := 66) at_65 rfl rfl ?_
    refine own_ldc X11 (pc' := 68) (hw _ (List.mem_of_getElem? (i := 6) rfl)) at_66 rfl ?_
    refine own_iand X11 (r := (ff &&& (2147483647 : Int32))) (pc' := 69) at_68 rfl rfl ?_
    refine own_bipush X11 (v := (6 : Int32)) (pc' := 71) at_69 rfl (by decide) ?_
    refine own_iload X11 (pc' := 73) at_71 rfl rfl ?_
    refine own_isub X11 (r := (1 : Int32)) (pc' := 74) at_73 rfl (by decide) ?_
    refine own_irem X11 (r := ((ff &&& (2147483647 : Int32)) - ((ff &&& (2147483647 : Int32)) / (1 : Int32)) * (1 : Int32))) (pc' := 75) at_74 rfl (by decide) rfl ?_
    refine own_istore X11 (pc' := 77) (Ls' := #[.val (.long raw), .second, .val (.int flags), .val (.int ff), .val (.int ll), .val (.ref ad1), .val (.int (5 : Int32)), .val (.int ((ff &&& (2147483647 : Int32)) - ((ff &&& (2147483647 : Int32)) / (1 : Int32)) * (1 : Int32))), .unset, .unset]) at_75 rfl rfl ?_
    generalize e68 : ((ff &&& (2147483647 : Int32)) - ((ff &&& (2147483647 : Int32)) / (1 : Int32)) * (1 : Int32)) = v68
    rcases own_c1 (own_rem 1 (by decide) e68) with rfl
    · refine own_iconst X11 (v := (0 : Int32)) (pc' := 78) at_77 rfl (by decide) ?_
      refine own_istore X11 (pc' := 80) (Ls' := #[.val (.long raw), .second, .val (.int flags), .val (.int ff), .val (.int ll), .val (.ref ad1), .val (.int (5 : Int32)), .val (.int (0 : Int32)), .val (.int (0 : Int32)), .unset]) at_78 rfl rfl ?_
      refine own_iload X11 (pc' := 82) at_80 rfl rfl ?_
      refine own_iconst X11 (v := (1 : Int32)) (pc' := 83) at_82 rfl (by decide) ?_
      refine own_icmp_lt X11 (pct := 98) (pc' := 86) at_83 rfl (by decide) (by decide) (fun hc => absurd hc (by decide)) (fun _ => ?_)
      refine own_iload X11 (pc' := 88) at_86 rfl rfl ?_
      refine own_aload X11 (pc' := 90) at_88 rfl rfl rfl ?_
      refine own_iload X11 (pc' := 92) at_90 rfl rfl ?_
      refine own_baload X11 (v := (own_mk raw flags (0 : Int32))) (pc' := 93) A11 rfl rfl at_92 rfl ?_
      refine own_callS X11 (W := 0) (argsL := [(.int (0 : Int32)), (.int (own_mk raw flags (0 : Int32)))]) (rest := []) (S' := [(.int (own_step (0 : Int32) (own_mk raw flags (0 : Int32))))]) (pc' := 96) (rm3 l Z a0 hw n0 (0 : Int32) (own_mk raw flags (0 : Int32)) h11 X11.size) (hw _ (List.mem_of_getElem? (i := 11) rfl)) (hw _ (List.mem_of_getElem? (i := 12) rfl)) (hw _ (List.mem_of_getElem? (i := 3) rfl)) (hw _ (List.mem_of_getElem? (i := 13) rfl)) (by decide) (by decide) (by decide) rfl rfl (by decide) (by decide) (lenOf pd_2 rfl) rfl (by first | decide | exact Nat.le_of_eq rfl) rfl at_93 rfl rfl ?_
      intro T69 h69 X69 qq69
      rw [show h69 = h11 from qq69] at X69
      refine own_istore X69 (pc' := 98) (Ls' := #[.val (.long raw), .second, .val (.int flags), .val (.int ff), .val (.int ll), .val (.ref ad1), .val (.int (5 : Int32)), .val (.int (0 : Int32)), .val (.int (own_step (0 : Int32) (own_mk raw flags (0 : Int32)))), .unset]) at_96 rfl rfl ?_
      refine own_iload X69 (pc' := 100) at_98 rfl rfl ?_
      refine own_iconst X69 (v := (2 : Int32)) (pc' := 101) at_100 rfl (by decide) ?_
      refine own_icmp_lt X69 (pct := 118) (pc' := 104) at_101 rfl (by decide) (by decide) (fun hc => absurd hc (by decide)) (fun _ => ?_)
      refine own_iload X69 (pc' := 106) at_104 rfl rfl ?_
      refine own_aload X69 (pc' := 108) at_106 rfl rfl rfl ?_
      refine own_iload X69 (pc' := 110) at_108 rfl rfl ?_
      refine own_iconst X69 (v := (1 : Int32)) (pc' := 111) at_110 rfl (by decide) ?_
      refine own_iadd X69 (r := (1 : Int32)) (pc' := 112) at_111 rfl (by decide) ?_
      refine own_baload X69 (v := (own_mk raw flags (1 : Int32))) (pc' := 113) A11 rfl rfl at_112 rfl ?_
      refine own_callS X69 (W := 0) (argsL := [(.int (own_step (0 : Int32) (own_mk raw flags (0 : Int32)))), (.int (own_mk raw flags (1 : Int32)))]) (rest := []) (S' := [(.int (own_step (own_step (0 : Int32) (own_mk raw flags (0 : Int32))) (own_mk raw flags (1 : Int32))))]) (pc' := 116) (rm3 l Z a0 hw n0 (own_step (0 : Int32) (own_mk raw flags (0 : Int32))) (own_mk raw flags (1 : Int32)) h11 X69.size) (hw _ (List.mem_of_getElem? (i := 11) rfl)) (hw _ (List.mem_of_getElem? (i := 12) rfl)) (hw _ (List.mem_of_getElem? (i := 3) rfl)) (hw _ (List.mem_of_getElem? (i := 13) rfl)) (by decide) (by decide) (by decide) rfl rfl (by decide) (by decide) (lenOf pd_2 rfl) rfl (by first | decide | exact Nat.le_of_eq rfl) rfl at_113 rfl rfl ?_
      intro T70 h70 X70 qq70
      rw [show h70 = h11 from qq70] at X70
      refine own_istore X70 (pc' := 118) (Ls' := #[.val (.long raw), .second, .val (.int flags), .val (.int ff), .val (.int ll), .val (.ref ad1), .val (.int (5 : Int32)), .val (.int (0 : Int32)), .val (.int (own_step (own_step (0 : Int32) (own_mk raw flags (0 : Int32))) (own_mk raw flags (1 : Int32)))), .unset]) at_116 rfl rfl ?_
      refine own_iload X70 (pc' := 120) at_118 rfl rfl ?_
      refine own_iconst X70 (v := (3 : Int32)) (pc' := 121) at_120 rfl (by decide) ?_
      refine own_icmp_lt X70 (pct := 138) (pc' := 124) at_121 rfl (by decide) (by decide) (fun hc => absurd hc (by decide)) (fun _ => ?_)
      refine own_iload X70 (pc' := 126) at_124 rfl rfl ?_
      refine own_aload X70 (pc' := 128) at_126 rfl rfl rfl ?_
      refine own_iload X70 (pc' := 130) at_128 rfl rfl ?_
      refine own_iconst X70 (v := (2 : Int32)) (pc' := 131) at_130 rfl (by decide) ?_
      refine own_iadd X70 (r := (2 : Int32)) (pc' := 132) at_131 rfl (by decide) ?_
      refine own_baload X70 (v := (own_mk raw flags (2 : Int32))) (pc' := 133) A11 rfl rfl at_132 rfl ?_
      refine own_callS X70 (W := 0) (argsL := [(.int (own_step (own_step (0 : Int32) (own_mk raw flags (0 : Int32))) (own_mk raw flags (1 : Int32)))), (.int (own_mk raw flags (2 : Int32)))]) (rest := []) (S' := [(.int (own_step (own_step (own_step (0 : Int32) (own_mk raw flags (0 : Int32))) (own_mk raw flags (1 : Int32))) (own_mk raw flags (2 : Int32))))]) (pc' := 136) (rm3 l Z a0 hw n0 (own_step (own_step (0 : Int32) (own_mk raw flags (0 : Int32))) (own_mk raw flags (1 : Int32))) (own_mk raw flags (2 : Int32)) h11 X70.size) (hw _ (List.mem_of_getElem? (i := 11) rfl)) (hw _ (List.mem_of_getElem? (i := 12) rfl)) (hw _ (List.mem_of_getElem? (i := 3) rfl)) (hw _ (List.mem_of_getElem? (i := 13) rfl)) (by decide) (by decide) (by decide) rfl rfl (by decide) (by decide) (lenOf pd_2 rfl) rfl (by first | decide | exact Nat.le_of_eq rfl) rfl at_133 rfl rfl ?_
      intro T71 h71 X71 qq71
      rw [show h71 = h11 from qq71] at X71
      refine own_istore X71 (pc' := 138) (Ls' := #[.val (.long raw), .second, .val (.int flags), .val (.int ff), .val (.int ll), .val (.ref ad1), .val (.int (5 : Int32)), .val (.int (0 : Int32)), .val (.int (own_step (own_step (own_step (0 : Int32) (own_mk raw flags (0 : Int32))) (own_mk raw flags (1 : Int32))) (own_mk raw flags (2 : Int32)))), .unset]) at_136 rfl rfl ?_
      refine own_iload X71 (pc' := 140) at_138 rfl rfl ?_
      refine own_iconst X71 (v := (4 : Int32)) (pc' := 141) at_140 rfl (by decide) ?_
      refine own_icmp_lt X71 (pct := 158) (pc' := 144) at_141 rfl (by decide) (by decide) (fun hc => absurd hc (by decide)) (fun _ => ?_)
      refine own_iload X71 (pc' := 146) at_144 rfl rfl ?_
      refine own_aload X71 (pc' := 148) at_146 rfl rfl rfl ?_
      refine own_iload X71 (pc' := 150) at_148 rfl rfl ?_
      refine own_iconst X71 (v := (3 : Int32)) (pc' := 151) at_150 rfl (by decide) ?_
      refine own_iadd X71 (r := (3 : Int32)) (pc' := 152) at_151 rfl (by decide) ?_
      refine own_baload X71 (v := (own_mk raw flags (3 : Int32))) (pc' := 153) A11 rfl rfl at_152 rfl ?_
      refine own_callS X71 (W := 0) (argsL := [(.int (own_step (own_step (own_step (0 : Int32) (own_mk raw flags (0 : Int32))) (own_mk raw flags (1 : Int32))) (own_mk raw flags (2 : Int32)))), (.int (own_mk raw flags (3 : Int32)))]) (rest := []) (S' := [(.int (own_step (own_step (own_step (own_step (0 : Int32) (own_mk raw flags (0 : Int32))) (own_mk raw flags (1 : Int32))) (own_mk raw flags (2 : Int32))) (own_mk raw flags (3 : Int32))))]) (pc' := 156) (rm3 l Z a0 hw n0 (own_step (own_step (own_step (0 : Int32) (own_mk raw flags (0 : Int32))) (own_mk raw flags (1 : Int32))) (own_mk raw flags (2 : Int32))) (own_mk raw flags (3 : Int32)) h11 X71.size) (hw _ (List.mem_of_getElem? (i := 11) rfl)) (hw _ (List.mem_of_getElem? (i := 12) rfl)) (hw _ (List.mem_of_getElem? (i := 3) rfl)) (hw _ (List.mem_of_getElem? (i := 13) rfl)) (by decide) (by decide) (by decide) rfl rfl (by decide) (by decide) (lenOf pd_2 rfl) rfl (by first | decide | exact Nat.le_of_eq rfl) rfl at_153 rfl rfl ?_
      intro T72 h72 X72 qq72
      rw [show h72 = h11 from qq72] at X72
      refine own_istore X72 (pc' := 158) (Ls' := #[.val (.long raw), .second, .val (.int flags), .val (.int ff), .val (.int ll), .val (.ref ad1), .val (.int (5 : Int32)), .val (.int (0 : Int32)), .val (.int (own_step (own_step (own_step (own_step (0 : Int32) (own_mk raw flags (0 : Int32))) (own_mk raw flags (1 : Int32))) (own_mk raw flags (2 : Int32))) (own_mk raw flags (3 : Int32)))), .unset]) at_156 rfl rfl ?_
      refine own_iload X72 (pc' := 160) at_158 rfl rfl ?_
      refine own_iconst X72 (v := (5 : Int32)) (pc' := 161) at_160 rfl (by decide) ?_
      refine own_icmp_lt X72 (pct := 178) (pc' := 164) at_161 rfl (by decide) (by decide) (fun hc => absurd hc (by decide)) (fun _ => ?_)
      refine own_iload X72 (pc' := 166) at_164 rfl rfl ?_
      refine own_aload X72 (pc' := 168) at_166 rfl rfl rfl ?_
      refine own_iload X72 (pc' := 170) at_168 rfl rfl ?_
      refine own_iconst X72 (v := (4 : Int32)) (pc' := 171) at_170 rfl (by decide) ?_
      refine own_iadd X72 (r := (4 : Int32)) (pc' := 172) at_171 rfl (by decide) ?_
      refine own_baload X72 (v := (own_mk raw flags (4 : Int32))) (pc' := 173) A11 rfl rfl at_172 rfl ?_
      refine own_callS X72 (W := 0) (argsL := [(.int (own_step (own_step (own_step (own_step (0 : Int32) (own_mk raw flags (0 : Int32))) (own_mk raw flags (1 : Int32))) (own_mk raw flags (2 : Int32))) (own_mk raw flags (3 : Int32)))), (.int (own_mk raw flags (4 : Int32)))]) (rest := []) (S' := [(.int (own_step (own_step (own_step (own_step (own_step (0 : Int32) (own_mk raw flags (0 : Int32))) (own_mk raw flags (1 : Int32))) (own_mk raw flags (2 : Int32))) (own_mk raw flags (3 : Int32))) (own_mk raw flags (4 : Int32))))]) (pc' := 176) (rm3 l Z a0 hw n0 (own_step (own_step (own_step (own_step (0 : Int32) (own_mk raw flags (0 : Int32))) (own_mk raw flags (1 : Int32))) (own_mk raw flags (2 : Int32))) (own_mk raw flags (3 : Int32))) (own_mk raw flags (4 : Int32)) h11 X72.size) (hw _ (List.mem_of_getElem? (i := 11) rfl)) (hw _ (List.mem_of_getElem? (i := 12) rfl)) (hw _ (List.mem_of_getElem? (i := 3) rfl)) (hw _ (List.mem_of_getElem? (i := 13) rfl)) (by decide) (by decide) (by decide) rfl rfl (by decide) (by decide) (lenOf pd_2 rfl) rfl (by first | decide | exact Nat.le_of_eq rfl) rfl at_173 rfl rfl ?_
      intro T73 h73 X73 qq73
      rw [show h73 = h11 from qq73] at X73
      refine own_istore X73 (pc' := 178) (Ls' := #[.val (.long raw), .second, .val (.int flags), .val (.int ff), .val (.int ll), .val (.ref ad1), .val (.int (5 : Int32)), .val (.int (0 : Int32)), .val (.int (own_step (own_step (own_step (own_step (own_step (0 : Int32) (own_mk raw flags (0 : Int32))) (own_mk raw flags (1 : Int32))) (own_mk raw flags (2 : Int32))) (own_mk raw flags (3 : Int32))) (own_mk raw flags (4 : Int32)))), .unset]) at_176 rfl rfl ?_
      refine own_aload X73 (pc' := 180) at_178 rfl rfl rfl ?_
      refine own_iload X73 (pc' := 182) at_180 rfl rfl ?_
      refine own_iload X73 (pc' := 184) at_182 rfl rfl ?_
      refine own_callS X73 (W := 0) (argsL := [(.ref ad1), (.int (0 : Int32)), (.int (5 : Int32))]) (rest := []) (S' := [(.int (own_dig 0 [(own_mk raw flags (0 : Int32)), (own_mk raw flags (1 : Int32)), (own_mk raw flags (2 : Int32)), (own_mk raw flags (3 : Int32)), (own_mk raw flags (4 : Int32))]))]) (pc' := 187) (rm2_05 l Z a0 hw n0 ad1 h11 X73.size (own_mk raw flags (0 : Int32)) (own_mk raw flags (1 : Int32)) (own_mk raw flags (2 : Int32)) (own_mk raw flags (3 : Int32)) (own_mk raw flags (4 : Int32)) A11) (hw _ (List.mem_of_getElem? (i := 7) rfl)) (hw _ (List.mem_of_getElem? (i := 8) rfl)) (hw _ (List.mem_of_getElem? (i := 9) rfl)) (hw _ (List.mem_of_getElem? (i := 10) rfl)) (by decide) (by decide) (by decide) rfl rfl (by decide) (by decide) (lenOf pd_1 rfl) rfl (by first | decide | exact Nat.le_of_eq rfl) rfl at_184 rfl rfl ?_
      intro T74 h74 X74 qq74
      rw [show h74 = h11 from qq74] at X74
      refine own_istore X74 (pc' := 189) (Ls' := #[.val (.long raw), .second, .val (.int flags), .val (.int ff), .val (.int ll), .val (.ref ad1), .val (.int (5 : Int32)), .val (.int (0 : Int32)), .val (.int (own_step (own_step (own_step (own_step (own_step (0 : Int32) (own_mk raw flags (0 : Int32))) (own_mk raw flags (1 : Int32))) (own_mk raw flags (2 : Int32))) (own_mk raw flags (3 : Int32))) (own_mk raw flags (4 : Int32)))), .val (.int (own_dig 0 [(own_mk raw flags (0 : Int32)), (own_mk raw flags (1 : Int32)), (own_mk raw flags (2 : Int32)), (own_mk raw flags (3 : Int32)), (own_mk raw flags (4 : Int32))]))]) at_187 rfl rfl ?_
      refine own_iload X74 (pc' := 191) at_189 rfl rfl ?_
      refine own_iload X74 (pc' := 193) at_191 rfl rfl ?_
      refine own_icmp_ne X74 (pct := 200) (pc' := 196) at_193 rfl (by decide) (by decide) (fun hc => absurd hc (fun q => q (own_e5 (own_mk_rg _ _ _) (own_mk_rg _ _ _) (own_mk_rg _ _ _) (own_mk_rg _ _ _) (own_mk_rg _ _ _)))) (fun _ => ?_)
      refine own_iconst X74 (v := (1 : Int32)) (pc' := 197) at_196 rfl (by decide) ?_
      refine own_goto X74 (pc' := 201) at_197 (by decide) (by decide) ?_
      subst hΦ
      exact own_retZ X74 at_201 (by decide) (by decide) (by decide) rfl trivial
set_option maxRecDepth 65536 in
set_option maxHeartbeats 4000000 in
theorem comes_1 {Post : Tables → Env → Array Value → State → Outcome → State → Prop} (hpost : ∀ tb e args s v u, (limb_1_1.after args s (.returned v) u = true ∧ limb_1_2.after args s (.returned v) u = true ∧ True) → FrameEnd s (.returned v) u (Jvm.fieldLocs frame_1_writes args s ++ Jvm.arrayLocs frame_1_arrays args s ++ Jvm.staticLocs frame_1_statics s) 16 128 → Post tb e args s (.returned v) u) :
    ArmFor flags0 classFile x code maxLocals ret World_1 tables_1 room_1 Calls_1 rest_1 Pre_1 Post := by
  intro l hfl _ _ p e ha hc hk s m args below hf hA hF happ hP
  obtain ⟨hcalls, hrest, hpre⟩ := hP
  obtain ⟨-, -, -, hnamed, -, -, -, hat⟩ := (Spec.applies_iff hf).mp happ
  obtain ⟨hg, hn⟩ := and_e (Cond.before_iff.mp (show (Jvm.Cond.and given_1 narrow_1).before args s = true from hpre))
  obtain ⟨hcnt, r0⟩ := and_e hg
  obtain ⟨k0, r1⟩ := and_e r0
  obtain ⟨k1, r2⟩ := and_e r1
  obtain ⟨k2, r3⟩ := and_e r2
  obtain ⟨w0, w1, w2, w3, rfl⟩ : ∃ w0 w1 w2 w3 : Value, args = #[w0, w1, w2, w3] := by
    have hs : args.size = 4 := by simpa [Cond.value, given_1] using hcnt
    obtain ⟨L⟩ := args
    match L, hs with
    | [w0, w1, w2, w3], _ => exact ⟨w0, w1, w2, w3, rfl⟩
  have hw := fun d (hd : d ∈ tables_1) => atoms_spec (ws := Jvm.Cond.code x code maxLocals ret :: tables_1) hat d (List.mem_cons_of_mem _ hd)
  obtain ⟨i0, ei0⟩ := isL_v k0
  obtain rfl : w0 = (.long i0) := Option.some.inj ei0
  obtain ⟨i1, ei1⟩ := is_v k1
  obtain rfl : w1 = (.int i1) := Option.some.inj ei1
  obtain ⟨i2, ei2⟩ := is_v k2
  obtain rfl : w2 = (.int i2) := Option.some.inj ei2
  obtain ⟨i3, ei3⟩ := is_v r3
  obtain rfl : w3 = (.int i3) := Option.some.inj ei3
  obtain ⟨n, o, h1, h2, h3, _, L, rfl, ⟨⟨rfl, -⟩, N⟩, hq⟩ := rm0 l s _ hw s.heap.size i0 i1 i2 i3 s.heap (Nat.le_refl _) tables_1 p e ha hc hk s m _ below hf ((Spec.applies_iff_loose hf).mp happ).1 ⟨rfl, State.Warmed39.refl s, rfl⟩ trivial
  refine ⟨n, _, h1, h2, h3, hpost _ _ _ _ _ _ ⟨Cond.after_iff.mpr rfl, Cond.after_iff.mpr (eq_i res_at (Term.int_eval (1)) rfl), trivial⟩ ⟨hq.1, hq.2.1, (hq.2.2.sift fun y hy => Or.inr (N y hy)).mono (by decide) (by decide)⟩⟩
theorem main_1_1 : Claimed_1_1 := comes_1 fun _ _ _ _ _ _ h hF => ⟨h.1, hF⟩
theorem main_1_2 : Claimed_1_2 := comes_1 fun _ _ _ _ _ _ h hF => ⟨h.2.1, hF⟩
end Jvm.Pilot.@@N@@
namespace Jvm.Pilot.@@N@@
open Jvm Jvm.ClassFile Sem Op Lib Jvm.Free Jvm.Stand Jvm.Pilot.@@N@@.Jvm.D
/-! MADE BY PROGRAM (witnessworld.py) out of the Statement's table words and the real class files: 9 classes; the members and pool entries that the words name. The judged class is class 1, her method 3. -/
namespace start1
open Jvm.ClassFile
def u (s : String) : CpInfo := .utf8 (stringToUtf16 s)
/-- a pool by its gaps: so many unusable entries, then the entry; so many at the end -/
def gap : Nat → List CpInfo → List CpInfo
  | 0, r => r
  | n + 1, r => .unusable :: gap n r
def poolList (es : List (Nat × CpInfo)) (last : Nat) : List CpInfo := es.foldr (fun e r => gap e.1 (e.2 :: r)) (gap last [])
def pool (es : List (Nat × CpInfo)) (last : Nat) : Array CpInfo := ⟨poolList es last⟩
def fileOf (pool : Array CpInfo) (this : Nat) (attrs : Array Attribute := #[]) (ms : Array MethodInfo := #[]) (fl : Nat := 33) (sup : Nat := 0) (ifs : Array Nat := #[]) (fds : Array FieldInfo := #[]) : ClassFile where
  minorVersion := 0
  majorVersion := 65
  constantPool := pool
  accessFlags := fl
  thisClass := this
  superClass := sup
  interfaces := ifs
  fields := fds
  methods := ms
  attributes := attrs
def plain (name : String) (sup : Option ClassId) : Class where
  name := name
  kind := .ordinary
  loader := none
  accessFlags := 33
  super := sup
  interfaces := #[]
  cf := none
  fields := #[]
  methods := #[]
  instanceTypes := #[]
  staticTypes := #[]
  resolved := #[]
  callSites := []
  init := .initialized
  statics := none
  mirror := none

def pool0 : Array CpInfo := pool [(5, u "<init>"), (0, u "()V"), (1, .class_ 10), (1, u "java/lang/Object")] 113

def k0m0 : Method := { name := "<init>", desc := "()V", sig := { parameters := [], returnType := none }, accessFlags := 1, code := none }
/-- java/lang/Object -/
def k0 : Class := { plain "java/lang/Object" none with
  accessFlags := 33
  interfaces := #[]
  cf := some (fileOf pool0 8 #[] #[{ accessFlags := 1, nameIndex := 5, descriptorIndex := 6, attributes := #[] }] 33 0 #[] #[])
  fields := #[]
  methods := #[k0m0]
  instanceTypes := #[]
  staticTypes := #[]
  resolved := Array.replicate 124 none
  statics := none }

def pool1 : Array CpInfo := pool [(2, .class_ 4), (1, u "java/lang/Object"), (0, u "<init>"), (0, u "()V"), (0, .long 255), (1, .methodref 10 11), (0, .class_ 12), (0, .nameAndType 13 14), (0, u "com/example/vegeu/vegeu/model/Iso2709DigitsPinLaw"), (0, u "mk"), (0, u "(JII)B"), (0, .integer 2147483647), (0, .methodref 10 17), (0, .nameAndType 18 19), (0, u "step"), (0, u "(IB)I"), (0, .methodref 21 22), (0, .class_ 23), (0, .nameAndType 24 25), (0, u "com/example/vegeu/vegeu/model/Iso2709"), (0, u "digits"), (0, u "([BII)I"), (3, u "law"), (0, u "(JIII)Z")] 4

def k1m0 : Method := { name := "<init>", desc := "()V", sig := { parameters := [], returnType := none }, accessFlags := 2, code := none }
def k1c1 : Code := { maxStack := 4, maxLocals := 5, code := method_2_code, exceptionTable := #[], attributes := #[] }
def k1m1 : Method := { name := "mk", desc := "(JII)B", sig := { parameters := [.long, .int, .int], returnType := some .byte }, accessFlags := 10, code := some k1c1 }
def k1c2 : Code := { maxStack := 3, maxLocals := 2, code := method_3_code, exceptionTable := #[], attributes := #[] }
def k1m2 : Method := { name := "step", desc := "(IB)I", sig := { parameters := [.int, .byte], returnType := some .int }, accessFlags := 10, code := some k1c2 }
def k1c3 : Code := { maxStack := 6, maxLocals := 10, code := code, exceptionTable := #[], attributes := #[] }
def k1m3 : Method := { name := "law", desc := "(JIII)Z", sig := { parameters := [.long, .int, .int, .int], returnType := some .boolean }, accessFlags := 9, code := some k1c3 }
/-- com/example/vegeu/vegeu/model/Iso2709DigitsPinLaw -/
def k1 : Class := { plain "com/example/vegeu/vegeu/model/Iso2709DigitsPinLaw" (some 0) with
  accessFlags := 49
  interfaces := #[]
  cf := some (fileOf pool1 10 #[] #[{ accessFlags := 2, nameIndex := 5, descriptorIndex := 6, attributes := #[] }, { accessFlags := 10, nameIndex := 13, descriptorIndex := 14, attributes := #[] }, { accessFlags := 10, nameIndex := 18, descriptorIndex := 19, attributes := #[] }, { accessFlags := 9, nameIndex := 29, descriptorIndex := 30, attributes := #[] }] 49 2 #[] #[])
  fields := #[]
  methods := #[k1m0, k1m1, k1m2, k1m3]
  instanceTypes := #[]
  staticTypes := #[]
  resolved := Array.replicate 35 none
  statics := none }

def pool2 : Array CpInfo := pool [(1, .class_ 2), (0, u "com/example/vegeu/vegeu/model/Iso2709"), (1, .class_ 6), (1, u "java/lang/Object"), (0, u "<init>"), (0, u "()V"), (86, u "RECORD_TERMINATOR"), (0, u "B"), (2, u "FIELD_TERMINATOR"), (1, u "DELIMITER"), (1, u "LEADER_LENGTH"), (0, u "I"), (1, u "RECORD_LENGTH_DIGITS"), (1, u "INDICATOR_COUNT_AT"), (1, u "BASE_ADDRESS_AT"), (1, u "BASE_ADDRESS_DIGITS"), (0, u "ENTRY_MAP_AT"), (1, u "INDICATOR_COUNT"), (1, u "SUBFIELD_CODE_LENGTH"), (0, u "TAG_LENGTH"), (1, u "FIELD_LENGTH_DIGITS"), (1, u "FIELD_START_DIGITS"), (0, u "ENTRY_LENGTH"), (0, u "FIELD_LAYOUT"), (0, u "Ljava/lang/String;"), (2, u "ENTRY_MAP"), (2, u "MAX_RECORD_LENGTH"), (1, u "MAX_FIELD_LENGTH"), (1, u "RECORD_OVERHEAD"), (0, u "FIELD_OVERHEAD"), (6, u "digits"), (0, u "([BII)I")] 6

def k2m0 : Method := { name := "<init>", desc := "()V", sig := { parameters := [], returnType := none }, accessFlags := 2, code := none }
def k2c1 : Code := { maxStack := 3, maxLocals := 6, code := prog_52_method_5_code, exceptionTable := #[], attributes := #[] }
def k2m1 : Method := { name := "digits", desc := "([BII)I", sig := { parameters := [(.array .byte), .int, .int], returnType := some .int }, accessFlags := 8, code := some k2c1 }
/-- com/example/vegeu/vegeu/model/Iso2709 -/
def k2 : Class := { plain "com/example/vegeu/vegeu/model/Iso2709" (some 0) with
  accessFlags := 48
  interfaces := #[]
  cf := some (fileOf pool2 1 #[] #[{ accessFlags := 2, nameIndex := 7, descriptorIndex := 8, attributes := #[] }, { accessFlags := 8, nameIndex := 143, descriptorIndex := 144, attributes := #[] }] 48 4 #[] #[{ accessFlags := 24, nameIndex := 95, descriptorIndex := 96, attributes := #[] }, { accessFlags := 24, nameIndex := 99, descriptorIndex := 96, attributes := #[] }, { accessFlags := 24, nameIndex := 101, descriptorIndex := 96, attributes := #[] }, { accessFlags := 24, nameIndex := 103, descriptorIndex := 104, attributes := #[] }, { accessFlags := 24, nameIndex := 106, descriptorIndex := 104, attributes := #[] }, { accessFlags := 24, nameIndex := 108, descriptorIndex := 104, attributes := #[] }, { accessFlags := 24, nameIndex := 110, descriptorIndex := 104, attributes := #[] }, { accessFlags := 24, nameIndex := 112, descriptorIndex := 104, attributes := #[] }, { accessFlags := 24, nameIndex := 113, descriptorIndex := 104, attributes := #[] }, { accessFlags := 24, nameIndex := 115, descriptorIndex := 104, attributes := #[] }, { accessFlags := 24, nameIndex := 117, descriptorIndex := 104, attributes := #[] }, { accessFlags := 24, nameIndex := 118, descriptorIndex := 104, attributes := #[] }, { accessFlags := 24, nameIndex := 120, descriptorIndex := 104, attributes := #[] }, { accessFlags := 24, nameIndex := 122, descriptorIndex := 104, attributes := #[] }, { accessFlags := 24, nameIndex := 123, descriptorIndex := 104, attributes := #[] }, { accessFlags := 24, nameIndex := 124, descriptorIndex := 125, attributes := #[] }, { accessFlags := 24, nameIndex := 128, descriptorIndex := 125, attributes := #[] }, { accessFlags := 24, nameIndex := 131, descriptorIndex := 104, attributes := #[] }, { accessFlags := 24, nameIndex := 133, descriptorIndex := 104, attributes := #[] }, { accessFlags := 24, nameIndex := 135, descriptorIndex := 104, attributes := #[] }, { accessFlags := 24, nameIndex := 136, descriptorIndex := 104, attributes := #[] }])
  fields := #[{ name := "RECORD_TERMINATOR", type := .byte, accessFlags := 24, slot := 0, constantValue := 0 }, { name := "FIELD_TERMINATOR", type := .byte, accessFlags := 24, slot := 1, constantValue := 0 }, { name := "DELIMITER", type := .byte, accessFlags := 24, slot := 2, constantValue := 0 }, { name := "LEADER_LENGTH", type := .int, accessFlags := 24, slot := 3, constantValue := 0 }, { name := "RECORD_LENGTH_DIGITS", type := .int, accessFlags := 24, slot := 4, constantValue := 0 }, { name := "INDICATOR_COUNT_AT", type := .int, accessFlags := 24, slot := 5, constantValue := 0 }, { name := "BASE_ADDRESS_AT", type := .int, accessFlags := 24, slot := 6, constantValue := 0 }, { name := "BASE_ADDRESS_DIGITS", type := .int, accessFlags := 24, slot := 7, constantValue := 0 }, { name := "ENTRY_MAP_AT", type := .int, accessFlags := 24, slot := 8, constantValue := 0 }, { name := "INDICATOR_COUNT", type := .int, accessFlags := 24, slot := 9, constantValue := 0 }, { name := "SUBFIELD_CODE_LENGTH", type := .int, accessFlags := 24, slot := 10, constantValue := 0 }, { name := "TAG_LENGTH", type := .int, accessFlags := 24, slot := 11, constantValue := 0 }, { name := "FIELD_LENGTH_DIGITS", type := .int, accessFlags := 24, slot := 12, constantValue := 0 }, { name := "FIELD_START_DIGITS", type := .int, accessFlags := 24, slot := 13, constantValue := 0 }, { name := "ENTRY_LENGTH", type := .int, accessFlags := 24, slot := 14, constantValue := 0 }, { name := "FIELD_LAYOUT", type := (.object "java/lang/String"), accessFlags := 24, slot := 15, constantValue := 0 }, { name := "ENTRY_MAP", type := (.object "java/lang/String"), accessFlags := 24, slot := 16, constantValue := 0 }, { name := "MAX_RECORD_LENGTH", type := .int, accessFlags := 24, slot := 17, constantValue := 0 }, { name := "MAX_FIELD_LENGTH", type := .int, accessFlags := 24, slot := 18, constantValue := 0 }, { name := "RECORD_OVERHEAD", type := .int, accessFlags := 24, slot := 19, constantValue := 0 }, { name := "FIELD_OVERHEAD", type := .int, accessFlags := 24, slot := 20, constantValue := 0 }]
  methods := #[k2m0, k2m1]
  instanceTypes := #[]
  staticTypes := #[.byte, .byte, .byte, .int, .int, .int, .int, .int, .int, .int, .int, .int, .int, .int, .int, (.object "java/lang/String"), (.object "java/lang/String"), .int, .int, .int, .int]
  resolved := Array.replicate 151 none
  statics := none }

def pool3 : Array CpInfo := pool [(1, u "java/lang/Cloneable"), (0, .class_ 1), (0, u "java/lang/Object"), (0, .class_ 3)] 3

/-- java/lang/Cloneable -/
def k3 : Class := { plain "java/lang/Cloneable" (some 0) with
  accessFlags := 1537
  interfaces := #[]
  cf := some (fileOf pool3 2 #[] #[] 1537 4 #[] #[])
  fields := #[]
  methods := #[]
  instanceTypes := #[]
  staticTypes := #[]
  resolved := Array.replicate 8 none
  statics := none }

def pool4 : Array CpInfo := pool [(1, u "java/io/Serializable"), (0, .class_ 1), (0, u "java/lang/Object"), (0, .class_ 3)] 3

/-- java/io/Serializable -/
def k4 : Class := { plain "java/io/Serializable" (some 0) with
  accessFlags := 1537
  interfaces := #[]
  cf := some (fileOf pool4 2 #[] #[] 1537 4 #[] #[])
  fields := #[]
  methods := #[]
  instanceTypes := #[]
  staticTypes := #[]
  resolved := Array.replicate 8 none
  statics := none }

/-- the primitive byte -/
def k5 : Class := { plain "byte" none with kind := .primitive 'B', accessFlags := 0x411 }
/-- [B -/
def k6 : Class := { plain "[B" (some 0) with kind := .array 5 .byte, interfaces := #[3, 4], accessFlags := 1041 }

/-- the primitive int -/
def k7 : Class := { plain "int" none with kind := .primitive 'I', accessFlags := 0x411 }
/-- [I -/
def k8 : Class := { plain "[I" (some 0) with kind := .array 7 .int, interfaces := #[3, 4], accessFlags := 1041 }

def heap : Heap := #[]
def classes : Array Class := #[k0, k1, k2, k3, k4, k5, k6, k7, k8]
def interned : List (Array UInt16 × Addr) := []
def slotsUsed : Nat := 0
def theMethod : MethodId := ⟨1, 3⟩
def args0 : Array Value := #[.long 7, .int 1, .int 2, .int 3]
def aboutOver (below : List Frame) : State where
  vm := { classes := classes, interned := interned.toArray }
  heap := heap
  slotsUsed := slotsUsed
  threads := #[{ frames := .invoking theMethod args0 :: below }]
def below0 : List Frame := [.native { method := ⟨0, 0⟩, args := #[] }]
def about1 : State := aboutOver below0
def p0 : Program := .bare "" "" ""
def e0 : Env := launch0.env 0 0 0
theorem w_frames : about1.frames = Frame.invoking theMethod args0 :: below0 := rfl
set_option maxRecDepth 65536 in
theorem w_args : argsFit about1.vm theMethod args0 = true := by decide +kernel
set_option maxRecDepth 65536 in
theorem w_heap : heapFits about1 = true := by decide +kernel
set_option maxRecDepth 65536 in
theorem w_runnable : about1.curStatus? = some .runnable := by decide +kernel
set_option maxRecDepth 65536 in
theorem w_alone : about1.alone = true := by decide +kernel
set_option maxRecDepth 65536 in
theorem w_named : about1.methodNamed? x = some theMethod := by decide +kernel
set_option maxRecDepth 65536 in
theorem w_hears : about1.hears theMethod below0 = true := by decide +kernel
set_option maxRecDepth 65536 in
theorem w_ripe : about1.ripe theMethod args0 below0 = true := by decide +kernel
theorem w_running : about1.status = .running := rfl
set_option maxRecDepth 65536 in
theorem w_room : about1.hasRoom e0.platform room_1 = true :=
  launch0.hasRoom_least _ room_1 (by decide +kernel) (by decide +kernel) (by decide +kernel) (by decide +kernel) (by decide +kernel) (by decide +kernel)
theorem allAtoms_all (ts : List Jvm.Cond) (a : Array Jvm.Value) (st : Jvm.State) : (allAtoms ts).before a st = ts.all (fun c => c.before a st) := by
  induction ts with
  | nil => rfl
  | cons c t ih =>
    show (Jvm.Cond.and c (allAtoms t)).before a st = _
    rw [Jvm.Cond.before_and, ih, List.all_cons]
def words1 : List Jvm.Cond := Jvm.Cond.code x code maxLocals ret :: tables_1
/-- a 'code' word, met by the world's own term for the bytes: nothing is compared byte by byte -/
theorem code_word {y : MethodName} {bytes : ByteArray} {mx : Nat} {rt : Option FieldType} {a : Array Value} {s : State} {m : MethodId} {meth : Method} {c : Code} (h1 : s.methodNamed? y = some m) (h2 : s.vm.method? m = some meth) (h3 : meth.code = some c) (h4 : c.code = bytes)
    (h5 : (c.maxLocals == mx && c.exceptionTable.isEmpty && decide (c.maxStack ≤ mostOperands) && decide (meth.sig.returnType = rt) && !meth.locks && decide (parseMethodDescriptor y.desc = some meth.sig)) = true) : (Jvm.Cond.code y bytes mx rt).before a s = true := by
  simp only [Bool.and_eq_true, beq_iff_eq, Bool.not_eq_true', decide_eq_true_eq] at h5
  obtain ⟨⟨⟨⟨⟨g1, g2⟩, g3⟩, g4⟩, g5⟩, g6⟩ := h5
  simp [Cond.before, Cond.holds, Cond.value, h1, h2, h3, h4, g1, g2, g3, g4, g5, g6]
def isCode : Jvm.Cond → Bool
  | .code _ _ _ _ => true
  | _ => false
theorem all_split {L : List Jvm.Cond} {P : Jvm.Cond → Bool} (h1 : L.all (fun c => isCode c || P c) = true) (h2 : ∀ c ∈ L.filter isCode, P c = true) : L.all P = true := by
  refine List.all_eq_true.mpr fun c hc => ?_
  have h := List.all_eq_true.mp h1 c hc
  rcases Bool.eq_false_or_eq_true (isCode c) with hi | hi
  · exact h2 c (List.mem_filter.mpr ⟨hc, hi⟩)
  · simpa [hi] using h
set_option maxRecDepth 65536 in
theorem w_c0 : (Jvm.Cond.code x code maxLocals ret).before args0 about1 = true := code_word (m := ⟨1, 3⟩) (meth := k1m3) (c := k1c3) (by decide +kernel) rfl rfl rfl (by decide +kernel)
set_option maxRecDepth 65536 in
theorem w_c1 : (Jvm.Cond.code ({ cls := "com/example/vegeu/vegeu/model/Iso2709DigitsPinLaw", name := "mk", desc := "(JII)B" } : Jvm.MethodName) method_2_code (5 : Nat) (Option.some Jvm.ClassFile.FieldType.byte)).before args0 about1 = true := code_word (m := ⟨1, 1⟩) (meth := k1m1) (c := k1c1) (by decide +kernel) rfl rfl rfl (by decide +kernel)
set_option maxRecDepth 65536 in
theorem w_c2 : (Jvm.Cond.code ({ cls := "com/example/vegeu/vegeu/model/Iso2709", name := "digits", desc := "([BII)I" } : Jvm.MethodName) prog_52_method_5_code (6 : Nat) (Option.some Jvm.ClassFile.FieldType.int)).before args0 about1 = true := code_word (m := ⟨2, 1⟩) (meth := k2m1) (c := k2c1) (by decide +kernel) rfl rfl rfl (by decide +kernel)
set_option maxRecDepth 65536 in
theorem w_c3 : (Jvm.Cond.code ({ cls := "com/example/vegeu/vegeu/model/Iso2709DigitsPinLaw", name := "step", desc := "(IB)I" } : Jvm.MethodName) method_3_code (2 : Nat) (Option.some Jvm.ClassFile.FieldType.int)).before args0 about1 = true := code_word (m := ⟨1, 2⟩) (meth := k1m2) (c := k1c2) (by decide +kernel) rfl rfl rfl (by decide +kernel)
def codes1 : List Jvm.Cond := [Jvm.Cond.code x code maxLocals ret, Jvm.Cond.code ({ cls := "com/example/vegeu/vegeu/model/Iso2709DigitsPinLaw", name := "mk", desc := "(JII)B" } : Jvm.MethodName) method_2_code (5 : Nat) (Option.some Jvm.ClassFile.FieldType.byte), Jvm.Cond.code ({ cls := "com/example/vegeu/vegeu/model/Iso2709", name := "digits", desc := "([BII)I" } : Jvm.MethodName) prog_52_method_5_code (6 : Nat) (Option.some Jvm.ClassFile.FieldType.int), Jvm.Cond.code ({ cls := "com/example/vegeu/vegeu/model/Iso2709DigitsPinLaw", name := "step", desc := "(IB)I" } : Jvm.MethodName) method_3_code (2 : Nat) (Option.some Jvm.ClassFile.FieldType.int)]
set_option maxRecDepth 65536 in
theorem codes_eq : words1.filter isCode = codes1 := rfl
theorem w_codes : ∀ c ∈ words1.filter isCode, c.before args0 about1 = true := by
  rw [codes_eq]
  intro c hc
  simp only [codes1, List.mem_cons, List.not_mem_nil, or_false] at hc
  rcases hc with rfl | rfl | rfl | rfl
  · exact w_c0
  · exact w_c1
  · exact w_c2
  · exact w_c3
set_option maxRecDepth 65536 in
theorem w_t1 : words1.all (fun c => isCode c || c.before args0 about1) = true := by decide +kernel
theorem w_tables : (allAtoms (Jvm.Cond.code x code maxLocals ret :: tables_1)).before args0 about1 = true := by
  rw [allAtoms_all]
  show words1.all (fun c => c.before args0 about1) = true
  refine all_split ?_ w_codes
  rw [w_t1]
set_option maxRecDepth 65536 in
theorem w_case : (Jvm.Cond.and given_1 narrow_1).before args0 about1 = true := by decide +kernel
theorem w_applies : (headSpec (Jvm.Cond.code x code maxLocals ret :: tables_1) room_1).applies x e0.platform about1 = true :=
  (Spec.applies_iff w_frames).mpr ⟨w_running, w_runnable, w_alone, w_named, w_hears, w_ripe, w_room, w_tables⟩
theorem atStart : AtStart classFile x code maxLocals ret World_1 tables_1 room_1 Calls_1 rest_1 Pre_1 launch0 p0 e0 about1 theMethod args0 below0 :=
  ⟨lists_1, trivial, launch0.admits_env _ _ _, launch0.least_env, fairChoices_fair.cas, fairChoices_fair.clock, w_frames, w_args, w_heap, w_applies, trivial, trivial, w_case⟩
end start1
theorem witness_1 : WitnessClaimed_1 := ⟨start1.p0, start1.e0, start1.about1, start1.theMethod, start1.args0, start1.below0, start1.atStart⟩
end Jvm.Pilot.@@N@@
