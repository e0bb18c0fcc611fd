import JvmDerived
import JvmDerived.Pilot.@@N@@Statement
import JvmDerived.Pilot.@@N@@Code
set_option linter.unusedVariables false
set_option linter.unusedSimpArgs false
namespace Jvm.Pilot.@@N@@
open Jvm Jvm.ClassFile Sem Op Lib Jvm.Free Jvm.Stand Jvm.LawKit Jvm.RoadKit Bundle Jvm.Pilot.@@N@@.Jvm.D
section OwnKit
def own_G (p : Program) (e : Env) (below : List Frame) (Φ : State → Outcome → Prop) (T : State) (f : JFrame) : Prop := ∃ s₂ o, Steps p.tables e below (T.setTop f) s₂ ∧ Φ s₂ o
def own_S (Z : State) (n0 : Nat) (bytes : ByteArray) (y : MethodName) (ml : Nat) (ret : Option FieldType) (p : Program) (l : Launch) (e : Env) (R : Room) (s : State) (m : MethodId) (args : Array Value) (below : List Frame) (meth : Method) (c : Code) (T : State) (k sl : Nat) (h : Heap) : Prop :=
  (∃ locs, Stand p l e R s m args below meth c T locs k sl ∧ Fr n0 locs) ∧ T.heap = h ∧ n0 ≤ s.heap.size ∧ p.tables.exec = Jvm.exec ∧ Z.Warmed39 s.vm ∧ c.code = bytes ∧ c.maxLocals = ml ∧ s.vm.findClass y.cls = some m.cls ∧ meth.name = y.name ∧ meth.sig.returnType = ret ∧ meth.locks = false
def own_Q (n0 : Nat) (below : List Frame) (s : State) (R : Room) (w : Option Value) (Θ : Heap → Prop) : State → Outcome → Prop := fun s₂ o => s₂.status = .running ∧ Ended s₂ below o ∧ ∃ v L, o = .returned v ∧ ((v = w ∧ Θ s₂.heap) ∧ Fr n0 L) ∧ FrameEnd s o s₂ L R.cells R.slots
def own_Met (l : Launch) (y : MethodName) (bytes : ByteArray) (ml : Nat) (ret : Option FieldType) (rm : Room) (Z : State) (n0 : Nat) (as : Array Value) (h0 : Heap) (w : Option Value) (Θ : Heap → Prop) : Prop :=
  ∀ ws, MetFree l y (head1 (Jvm.Cond.code y bytes ml ret :: ws) rm) (fun a U => a = as ∧ Z.Warmed39 U.vm ∧ U.heap = h0) (fun _ _ _ _ _ => True) (fun _ U o U' => ∃ v L, o = .returned v ∧ ((v = w ∧ Θ U'.heap) ∧ Fr n0 L) ∧ FrameEnd U o U' L rm.cells rm.slots)
theorem own_met {l : Launch} {y : MethodName} {bytes : ByteArray} {ml : Nat} {ret : Option FieldType} {rm : Room} {Z : State} {n0 : Nat} {as : Array Value} {h0 : Heap} {w : Option Value} {Θ : Heap → Prop} (hp : plainFor y = true) (hn0 : n0 ≤ h0.size)
    (body : ∀ p e s m below meth c T, own_S Z n0 bytes y ml ret p l e rm s m as below meth c T 0 0 h0 → own_G p e below (own_Q n0 below s rm w Θ) T (entryFrame m as ml)) : own_Met l y bytes ml ret rm Z n0 as h0 w Θ := by
  intro ws
  refine MetFree.of_bodySF hp hisR ?_
  intro p e s m args below meth c s₁ Bd hml0 hP hK
  obtain ⟨rfl, hZ, hh⟩ := hP
  obtain ⟨s₂, o, st, h1, h2, h3⟩ := body p e s m below meth c s₁ ⟨⟨[], Stand.of_body Bd, Fr.nil n0⟩, by rw [← hh, Bd.state]; rfl, by rw [hh]; exact hn0, Bd.exec, hZ, Bd.bytes, hml0, findClass_of_methodNamed Bd.named, (name_of_methodNamed Bd.named Bd.method).1, Bd.returns, BodyLoose.notSynchronized Bd⟩
  exact ⟨s₂, o, st, h1, h2, h3⟩
variable {Z : State} {n0 : Nat} {bytes : ByteArray} {y : MethodName} {ml : Nat} {ret : Option FieldType} {p : Program} {l : Launch} {e : Env} {R : Room} {s : State} {m : MethodId} {args : Array Value} {below : List Frame} {meth : Method} {c : Code} {T : State} {k sl : Nat} {h : Heap} {Φ : State → Outcome → Prop} {pc pc' : Nat} {Ls Ls' : Array Slot} {S : List Value} {a0 : Array Value}
theorem own_cast {f f' : JFrame} (q : f = f') (K : own_G p e below Φ T f') : own_G p e below Φ T f := q ▸ K
theorem own_by {T T' : State} {f f' : JFrame} (K : own_G p e below Φ T' f') (st : ∀ t, Steps p.tables e below (T'.setTop f') t → Steps p.tables e below (T.setTop f) t) : own_G p e below Φ T f := by
  obtain ⟨s₂, o, q, r⟩ := K
  exact ⟨s₂, o, st _ q, r⟩
theorem own_S.size (X : own_S Z n0 bytes y ml ret p l e R s m args below meth c T k sl h) : n0 ≤ h.size := by
  obtain ⟨⟨locs, Y, N⟩, hh, hn, hx, hZ, hby, hml, hown, hnm, hret, hlk⟩ := X
  subst hh
  exact Nat.le_trans hn Y.same.2.1
theorem own_iadd (X : own_S Z n0 bytes y ml ret p l e R s m args below meth c T k sl h) {a b r : Int32} (hd : decode bytes pc = .ok (.iadd, 1)) (hpc : pc + 1 = pc') (hr : a + b = r) (K : own_G p e below Φ T (mkF m pc' Ls (.int r :: S))) : own_G p e below Φ T (mkF m pc Ls (.int b :: .int a :: S)) := by
  obtain ⟨⟨locs, Y, N⟩, hh, hn, hx, hZ, hby, hml, hown, hnm, hret, hlk⟩ := X
  subst hpc
  exact own_by K fun t kk => XS.iadd Y.here hx rfl (hb hby hd) rfl (hr ▸ kk)
theorem own_ladd (X : own_S Z n0 bytes y ml ret p l e R s m args below meth c T k sl h) {a b r : Int64} (hd : decode bytes pc = .ok (.ladd, 1)) (hpc : pc + 1 = pc') (hr : a + b = r) (K : own_G p e below Φ T (mkF m pc' Ls (.long r :: S))) : own_G p e below Φ T (mkF m pc Ls (.long b :: .long a :: S)) := by
  obtain ⟨⟨locs, Y, N⟩, hh, hn, hx, hZ, hby, hml, hown, hnm, hret, hlk⟩ := X
  subst hpc
  exact own_by K fun t kk => XS.ladd Y.here hx rfl (hb hby hd) rfl (hr ▸ kk)
theorem own_isub (X : own_S Z n0 bytes y ml ret p l e R s m args below meth c T k sl h) {a b r : Int32} (hd : decode bytes pc = .ok (.isub, 1)) (hpc : pc + 1 = pc') (hr : a - b = r) (K : own_G p e below Φ T (mkF m pc' Ls (.int r :: S))) : own_G p e below Φ T (mkF m pc Ls (.int b :: .int a :: S)) := by
  obtain ⟨⟨locs, Y, N⟩, hh, hn, hx, hZ, hby, hml, hown, hnm, hret, hlk⟩ := X
  subst hpc
  exact own_by K fun t kk => XS.isub Y.here hx rfl (hb hby hd) rfl (hr ▸ kk)
theorem own_lsub (X : own_S Z n0 bytes y ml ret p l e R s m args below meth c T k sl h) {a b r : Int64} (hd : decode bytes pc = .ok (.lsub, 1)) (hpc : pc + 1 = pc') (hr : a - b = r) (K : own_G p e below Φ T (mkF m pc' Ls (.long r :: S))) : own_G p e below Φ T (mkF m pc Ls (.long b :: .long a :: S)) := by
  obtain ⟨⟨locs, Y, N⟩, hh, hn, hx, hZ, hby, hml, hown, hnm, hret, hlk⟩ := X
  subst hpc
  exact own_by K fun t kk => XS.lsub Y.here hx rfl (hb hby hd) rfl (hr ▸ kk)
theorem own_imul (X : own_S Z n0 bytes y ml ret p l e R s m args below meth c T k sl h) {a b r : Int32} (hd : decode bytes pc = .ok (.imul, 1)) (hpc : pc + 1 = pc') (hr : a * b = r) (K : own_G p e below Φ T (mkF m pc' Ls (.int r :: S))) : own_G p e below Φ T (mkF m pc Ls (.int b :: .int a :: S)) := by
  obtain ⟨⟨locs, Y, N⟩, hh, hn, hx, hZ, hby, hml, hown, hnm, hret, hlk⟩ := X
  subst hpc
  exact own_by K fun t kk => XS.imul Y.here hx rfl (hb hby hd) rfl (hr ▸ kk)
theorem own_lmul (X : own_S Z n0 bytes y ml ret p l e R s m args below meth c T k sl h) {a b r : Int64} (hd : decode bytes pc = .ok (.lmul, 1)) (hpc : pc + 1 = pc') (hr : a * b = r) (K : own_G p e below Φ T (mkF m pc' Ls (.long r :: S))) : own_G p e below Φ T (mkF m pc Ls (.long b :: .long a :: S)) := by
  obtain ⟨⟨locs, Y, N⟩, hh, hn, hx, hZ, hby, hml, hown, hnm, hret, hlk⟩ := X
  subst hpc
  exact own_by K fun t kk => XS.lmul Y.here hx rfl (hb hby hd) rfl (hr ▸ kk)
theorem own_iand (X : own_S Z n0 bytes y ml ret p l e R s m args below meth c T k sl h) {a b r : Int32} (hd : decode bytes pc = .ok (.iand, 1)) (hpc : pc + 1 = pc') (hr : a &&& b = r) (K : own_G p e below Φ T (mkF m pc' Ls (.int r :: S))) : own_G p e below Φ T (mkF m pc Ls (.int b :: .int a :: S)) := by
  obtain ⟨⟨locs, Y, N⟩, hh, hn, hx, hZ, hby, hml, hown, hnm, hret, hlk⟩ := X
  subst hpc
  exact own_by K fun t kk => XS.iand Y.here hx rfl (hb hby hd) rfl (hr ▸ kk)
theorem own_land (X : own_S Z n0 bytes y ml ret p l e R s m args below meth c T k sl h) {a b r : Int64} (hd : decode bytes pc = .ok (.land, 1)) (hpc : pc + 1 = pc') (hr : a &&& b = r) (K : own_G p e below Φ T (mkF m pc' Ls (.long r :: S))) : own_G p e below Φ T (mkF m pc Ls (.long b :: .long a :: S)) := by
  obtain ⟨⟨locs, Y, N⟩, hh, hn, hx, hZ, hby, hml, hown, hnm, hret, hlk⟩ := X
  subst hpc
  exact own_by K fun t kk => XS.land Y.here hx rfl (hb hby hd) rfl (hr ▸ kk)
theorem own_ior (X : own_S Z n0 bytes y ml ret p l e R s m args below meth c T k sl h) {a b r : Int32} (hd : decode bytes pc = .ok (.ior, 1)) (hpc : pc + 1 = pc') (hr : a ||| b = r) (K : own_G p e below Φ T (mkF m pc' Ls (.int r :: S))) : own_G p e below Φ T (mkF m pc Ls (.int b :: .int a :: S)) := by
  obtain ⟨⟨locs, Y, N⟩, hh, hn, hx, hZ, hby, hml, hown, hnm, hret, hlk⟩ := X
  subst hpc
  exact own_by K fun t kk => XS.ior Y.here hx rfl (hb hby hd) rfl (hr ▸ kk)
theorem own_lor (X : own_S Z n0 bytes y ml ret p l e R s m args below meth c T k sl h) {a b r : Int64} (hd : decode bytes pc = .ok (.lor, 1)) (hpc : pc + 1 = pc') (hr : a ||| b = r) (K : own_G p e below Φ T (mkF m pc' Ls (.long r :: S))) : own_G p e below Φ T (mkF m pc Ls (.long b :: .long a :: S)) := by
  obtain ⟨⟨locs, Y, N⟩, hh, hn, hx, hZ, hby, hml, hown, hnm, hret, hlk⟩ := X
  subst hpc
  exact own_by K fun t kk => XS.lor Y.here hx rfl (hb hby hd) rfl (hr ▸ kk)
theorem own_ixor (X : own_S Z n0 bytes y ml ret p l e R s m args below meth c T k sl h) {a b r : Int32} (hd : decode bytes pc = .ok (.ixor, 1)) (hpc : pc + 1 = pc') (hr : a ^^^ b = r) (K : own_G p e below Φ T (mkF m pc' Ls (.int r :: S))) : own_G p e below Φ T (mkF m pc Ls (.int b :: .int a :: S)) := by
  obtain ⟨⟨locs, Y, N⟩, hh, hn, hx, hZ, hby, hml, hown, hnm, hret, hlk⟩ := X
  subst hpc
  exact own_by K fun t kk => XS.ixor Y.here hx rfl (hb hby hd) rfl (hr ▸ kk)
theorem own_lxor (X : own_S Z n0 bytes y ml ret p l e R s m args below meth c T k sl h) {a b r : Int64} (hd : decode bytes pc = .ok (.lxor, 1)) (hpc : pc + 1 = pc') (hr : a ^^^ b = r) (K : own_G p e below Φ T (mkF m pc' Ls (.long r :: S))) : own_G p e below Φ T (mkF m pc Ls (.long b :: .long a :: S)) := by
  obtain ⟨⟨locs, Y, N⟩, hh, hn, hx, hZ, hby, hml, hown, hnm, hret, hlk⟩ := X
  subst hpc
  exact own_by K fun t kk => XS.lxor Y.here hx rfl (hb hby hd) rfl (hr ▸ kk)
theorem own_ishl (X : own_S Z n0 bytes y ml ret p l e R s m args below meth c T k sl h) {a r : Int32} {b : Int32} (hd : decode bytes pc = .ok (.ishl, 1)) (hpc : pc + 1 = pc') (hr : (a <<< (b &&& 31)) = r) (K : own_G p e below Φ T (mkF m pc' Ls (.int r :: S))) : own_G p e below Φ T (mkF m pc Ls (.int b :: .int a :: S)) := by
  obtain ⟨⟨locs, Y, N⟩, hh, hn, hx, hZ, hby, hml, hown, hnm, hret, hlk⟩ := X
  subst hpc
  exact own_by K fun t kk => XS.ishl Y.here hx rfl (hb hby hd) rfl (hr ▸ kk)
theorem own_ishr (X : own_S Z n0 bytes y ml ret p l e R s m args below meth c T k sl h) {a r : Int32} {b : Int32} (hd : decode bytes pc = .ok (.ishr, 1)) (hpc : pc + 1 = pc') (hr : (a >>> (b &&& 31)) = r) (K : own_G p e below Φ T (mkF m pc' Ls (.int r :: S))) : own_G p e below Φ T (mkF m pc Ls (.int b :: .int a :: S)) := by
  obtain ⟨⟨locs, Y, N⟩, hh, hn, hx, hZ, hby, hml, hown, hnm, hret, hlk⟩ := X
  subst hpc
  exact own_by K fun t kk => XS.ishr Y.here hx rfl (hb hby hd) rfl (hr ▸ kk)
theorem own_iushr (X : own_S Z n0 bytes y ml ret p l e R s m args below meth c T k sl h) {a r : Int32} {b : Int32} (hd : decode bytes pc = .ok (.iushr, 1)) (hpc : pc + 1 = pc') (hr : ((a.toUInt32 >>> (b &&& 31).toUInt32).toInt32) = r) (K : own_G p e below Φ T (mkF m pc' Ls (.int r :: S))) : own_G p e below Φ T (mkF m pc Ls (.int b :: .int a :: S)) := by
  obtain ⟨⟨locs, Y, N⟩, hh, hn, hx, hZ, hby, hml, hown, hnm, hret, hlk⟩ := X
  subst hpc
  exact own_by K fun t kk => XS.iushr Y.here hx rfl (hb hby hd) rfl (hr ▸ kk)
theorem own_lshl (X : own_S Z n0 bytes y ml ret p l e R s m args below meth c T k sl h) {a r : Int64} {b : Int32} (hd : decode bytes pc = .ok (.lshl, 1)) (hpc : pc + 1 = pc') (hr : (a <<< (b &&& 0x3f).toInt64) = r) (K : own_G p e below Φ T (mkF m pc' Ls (.long r :: S))) : own_G p e below Φ T (mkF m pc Ls (.int b :: .long a :: S)) := by
  obtain ⟨⟨locs, Y, N⟩, hh, hn, hx, hZ, hby, hml, hown, hnm, hret, hlk⟩ := X
  subst hpc
  exact own_by K fun t kk => XS.lshl Y.here hx rfl (hb hby hd) rfl (hr ▸ kk)
theorem own_lshr (X : own_S Z n0 bytes y ml ret p l e R s m args below meth c T k sl h) {a r : Int64} {b : Int32} (hd : decode bytes pc = .ok (.lshr, 1)) (hpc : pc + 1 = pc') (hr : (a >>> (b &&& 0x3f).toInt64) = r) (K : own_G p e below Φ T (mkF m pc' Ls (.long r :: S))) : own_G p e below Φ T (mkF m pc Ls (.int b :: .long a :: S)) := by
  obtain ⟨⟨locs, Y, N⟩, hh, hn, hx, hZ, hby, hml, hown, hnm, hret, hlk⟩ := X
  subst hpc
  exact own_by K fun t kk => XS.lshr Y.here hx rfl (hb hby hd) rfl (hr ▸ kk)
theorem own_lushr (X : own_S Z n0 bytes y ml ret p l e R s m args below meth c T k sl h) {a r : Int64} {b : Int32} (hd : decode bytes pc = .ok (.lushr, 1)) (hpc : pc + 1 = pc') (hr : ((a.toUInt64 >>> (b &&& 0x3f).toInt64.toUInt64).toInt64) = r) (K : own_G p e below Φ T (mkF m pc' Ls (.long r :: S))) : own_G p e below Φ T (mkF m pc Ls (.int b :: .long a :: S)) := by
  obtain ⟨⟨locs, Y, N⟩, hh, hn, hx, hZ, hby, hml, hown, hnm, hret, hlk⟩ := X
  subst hpc
  exact own_by K fun t kk => XS.lushr Y.here hx rfl (hb hby hd) rfl (hr ▸ kk)
theorem own_idiv (X : own_S Z n0 bytes y ml ret p l e R s m args below meth c T k sl h) {a b r : Int32} (hd : decode bytes pc = .ok (.idiv, 1)) (hpc : pc + 1 = pc') (hz : b ≠ 0) (hr : a / b = r) (K : own_G p e below Φ T (mkF m pc' Ls (.int r :: S))) : own_G p e below Φ T (mkF m pc Ls (.int b :: .int a :: S)) := by
  obtain ⟨⟨locs, Y, N⟩, hh, hn, hx, hZ, hby, hml, hown, hnm, hret, hlk⟩ := X
  subst hpc
  exact own_by K fun t kk => XS.idiv Y.here hx rfl (hb hby hd) rfl hz (hr ▸ kk)
theorem own_irem (X : own_S Z n0 bytes y ml ret p l e R s m args below meth c T k sl h) {a b r : Int32} (hd : decode bytes pc = .ok (.irem, 1)) (hpc : pc + 1 = pc') (hz : b ≠ 0) (hr : a - (a / b) * b = r) (K : own_G p e below Φ T (mkF m pc' Ls (.int r :: S))) : own_G p e below Φ T (mkF m pc Ls (.int b :: .int a :: S)) := by
  obtain ⟨⟨locs, Y, N⟩, hh, hn, hx, hZ, hby, hml, hown, hnm, hret, hlk⟩ := X
  subst hpc
  exact own_by K fun t kk => XS.irem Y.here hx rfl (hb hby hd) rfl hz (hr ▸ kk)
theorem own_ldiv (X : own_S Z n0 bytes y ml ret p l e R s m args below meth c T k sl h) {a b r : Int64} (hd : decode bytes pc = .ok (.ldiv, 1)) (hpc : pc + 1 = pc') (hz : b ≠ 0) (hr : a / b = r) (K : own_G p e below Φ T (mkF m pc' Ls (.long r :: S))) : own_G p e below Φ T (mkF m pc Ls (.long b :: .long a :: S)) := by
  obtain ⟨⟨locs, Y, N⟩, hh, hn, hx, hZ, hby, hml, hown, hnm, hret, hlk⟩ := X
  subst hpc
  exact own_by K fun t kk => XS.ldiv Y.here hx rfl (hb hby hd) rfl hz (hr ▸ kk)
theorem own_lrem (X : own_S Z n0 bytes y ml ret p l e R s m args below meth c T k sl h) {a b r : Int64} (hd : decode bytes pc = .ok (.lrem, 1)) (hpc : pc + 1 = pc') (hz : b ≠ 0) (hr : a - (a / b) * b = r) (K : own_G p e below Φ T (mkF m pc' Ls (.long r :: S))) : own_G p e below Φ T (mkF m pc Ls (.long b :: .long a :: S)) := by
  obtain ⟨⟨locs, Y, N⟩, hh, hn, hx, hZ, hby, hml, hown, hnm, hret, hlk⟩ := X
  subst hpc
  exact own_by K fun t kk => XS.lrem Y.here hx rfl (hb hby hd) rfl hz (hr ▸ kk)
theorem own_ineg (X : own_S Z n0 bytes y ml ret p l e R s m args below meth c T k sl h) {a : Int32} {r : Int32} (hd : decode bytes pc = .ok (.ineg, 1)) (hpc : pc + 1 = pc') (hr : -a = r) (K : own_G p e below Φ T (mkF m pc' Ls (.int r :: S))) : own_G p e below Φ T (mkF m pc Ls (.int a :: S)) := by
  obtain ⟨⟨locs, Y, N⟩, hh, hn, hx, hZ, hby, hml, hown, hnm, hret, hlk⟩ := X
  subst hpc
  exact own_by K fun t kk => XS.ineg Y.here hx rfl (hb hby hd) rfl (hr ▸ kk)
theorem own_lneg (X : own_S Z n0 bytes y ml ret p l e R s m args below meth c T k sl h) {a : Int64} {r : Int64} (hd : decode bytes pc = .ok (.lneg, 1)) (hpc : pc + 1 = pc') (hr : -a = r) (K : own_G p e below Φ T (mkF m pc' Ls (.long r :: S))) : own_G p e below Φ T (mkF m pc Ls (.long a :: S)) := by
  obtain ⟨⟨locs, Y, N⟩, hh, hn, hx, hZ, hby, hml, hown, hnm, hret, hlk⟩ := X
  subst hpc
  exact own_by K fun t kk => XS.lneg Y.here hx rfl (hb hby hd) rfl (hr ▸ kk)
theorem own_i2l (X : own_S Z n0 bytes y ml ret p l e R s m args below meth c T k sl h) {a : Int32} {r : Int64} (hd : decode bytes pc = .ok (.i2l, 1)) (hpc : pc + 1 = pc') (hr : a.toInt64 = r) (K : own_G p e below Φ T (mkF m pc' Ls (.long r :: S))) : own_G p e below Φ T (mkF m pc Ls (.int a :: S)) := by
  obtain ⟨⟨locs, Y, N⟩, hh, hn, hx, hZ, hby, hml, hown, hnm, hret, hlk⟩ := X
  subst hpc
  exact own_by K fun t kk => XS.i2l Y.here hx rfl (hb hby hd) rfl (hr ▸ kk)
theorem own_l2i (X : own_S Z n0 bytes y ml ret p l e R s m args below meth c T k sl h) {a : Int64} {r : Int32} (hd : decode bytes pc = .ok (.l2i, 1)) (hpc : pc + 1 = pc') (hr : a.toInt32 = r) (K : own_G p e below Φ T (mkF m pc' Ls (.int r :: S))) : own_G p e below Φ T (mkF m pc Ls (.long a :: S)) := by
  obtain ⟨⟨locs, Y, N⟩, hh, hn, hx, hZ, hby, hml, hown, hnm, hret, hlk⟩ := X
  subst hpc
  exact own_by K fun t kk => XS.l2i Y.here hx rfl (hb hby hd) rfl (hr ▸ kk)
theorem own_i2b (X : own_S Z n0 bytes y ml ret p l e R s m args below meth c T k sl h) {a : Int32} {r : Int32} (hd : decode bytes pc = .ok (.i2b, 1)) (hpc : pc + 1 = pc') (hr : a.toInt8.toInt32 = r) (K : own_G p e below Φ T (mkF m pc' Ls (.int r :: S))) : own_G p e below Φ T (mkF m pc Ls (.int a :: S)) := by
  obtain ⟨⟨locs, Y, N⟩, hh, hn, hx, hZ, hby, hml, hown, hnm, hret, hlk⟩ := X
  subst hpc
  exact own_by K fun t kk => XS.i2b Y.here hx rfl (hb hby hd) rfl (hr ▸ kk)
theorem own_i2s (X : own_S Z n0 bytes y ml ret p l e R s m args below meth c T k sl h) {a : Int32} {r : Int32} (hd : decode bytes pc = .ok (.i2s, 1)) (hpc : pc + 1 = pc') (hr : a.toInt16.toInt32 = r) (K : own_G p e below Φ T (mkF m pc' Ls (.int r :: S))) : own_G p e below Φ T (mkF m pc Ls (.int a :: S)) := by
  obtain ⟨⟨locs, Y, N⟩, hh, hn, hx, hZ, hby, hml, hown, hnm, hret, hlk⟩ := X
  subst hpc
  exact own_by K fun t kk => XS.i2s Y.here hx rfl (hb hby hd) rfl (hr ▸ kk)
theorem own_i2c (X : own_S Z n0 bytes y ml ret p l e R s m args below meth c T k sl h) {a : Int32} {r : Int32} (hd : decode bytes pc = .ok (.i2c, 1)) (hpc : pc + 1 = pc') (hr : a.toUInt32.toUInt16.toUInt32.toInt32 = r) (K : own_G p e below Φ T (mkF m pc' Ls (.int r :: S))) : own_G p e below Φ T (mkF m pc Ls (.int a :: S)) := by
  obtain ⟨⟨locs, Y, N⟩, hh, hn, hx, hZ, hby, hml, hown, hnm, hret, hlk⟩ := X
  subst hpc
  exact own_by K fun t kk => XS.i2c Y.here hx rfl (hb hby hd) rfl (hr ▸ kk)
theorem own_lcmp (X : own_S Z n0 bytes y ml ret p l e R s m args below meth c T k sl h) {a b : Int64} (hd : decode bytes pc = .ok (.lcmp, 1)) (hpc : pc + 1 = pc') (K : own_G p e below Φ T (mkF m pc' Ls (.int (lcmpW a b) :: S))) : own_G p e below Φ T (mkF m pc Ls (.long b :: .long a :: S)) := by
  obtain ⟨⟨locs, Y, N⟩, hh, hn, hx, hZ, hby, hml, hown, hnm, hret, hlk⟩ := X
  subst hpc
  exact own_by K fun t kk => XS.lcmp Y.here hx rfl (hb hby hd) rfl kk
theorem own_iconst (X : own_S Z n0 bytes y ml ret p l e R s m args below meth c T k sl h) {i : Int} {v : Int32} (hd : decode bytes pc = .ok (.iconst i, 1)) (hpc : pc + 1 = pc') (hv : Int32.ofInt i = v) (K : own_G p e below Φ T (mkF m pc' Ls (.int v :: S))) : own_G p e below Φ T (mkF m pc Ls (S)) := by
  obtain ⟨⟨locs, Y, N⟩, hh, hn, hx, hZ, hby, hml, hown, hnm, hret, hlk⟩ := X
  subst hpc
  exact own_by K fun t kk => XS.iconst Y.here hx rfl (hb hby hd) (hv ▸ kk)
theorem own_bipush (X : own_S Z n0 bytes y ml ret p l e R s m args below meth c T k sl h) {i : Int} {v : Int32} (hd : decode bytes pc = .ok (.bipush i, 2)) (hpc : pc + 2 = pc') (hv : (Int8.ofInt i).toInt32 = v) (K : own_G p e below Φ T (mkF m pc' Ls (.int v :: S))) : own_G p e below Φ T (mkF m pc Ls (S)) := by
  obtain ⟨⟨locs, Y, N⟩, hh, hn, hx, hZ, hby, hml, hown, hnm, hret, hlk⟩ := X
  subst hpc
  exact own_by K fun t kk => XS.bipush Y.here hx rfl (hb hby hd) (hv ▸ kk)
theorem own_sipush (X : own_S Z n0 bytes y ml ret p l e R s m args below meth c T k sl h) {i : Int} {v : Int32} (hd : decode bytes pc = .ok (.sipush i, 3)) (hpc : pc + 3 = pc') (hv : (Int16.ofInt i).toInt32 = v) (K : own_G p e below Φ T (mkF m pc' Ls (.int v :: S))) : own_G p e below Φ T (mkF m pc Ls (S)) := by
  obtain ⟨⟨locs, Y, N⟩, hh, hn, hx, hZ, hby, hml, hown, hnm, hret, hlk⟩ := X
  subst hpc
  exact own_by K fun t kk => XS.sipush Y.here hx rfl (hb hby hd) (hv ▸ kk)
theorem own_lconst (X : own_S Z n0 bytes y ml ret p l e R s m args below meth c T k sl h) {i : Fin 2} {v : Int64} (hd : decode bytes pc = .ok (.lconst i, 1)) (hpc : pc + 1 = pc') (hv : Int64.ofNat i = v) (K : own_G p e below Φ T (mkF m pc' Ls (.long v :: S))) : own_G p e below Φ T (mkF m pc Ls (S)) := by
  obtain ⟨⟨locs, Y, N⟩, hh, hn, hx, hZ, hby, hml, hown, hnm, hret, hlk⟩ := X
  subst hpc
  exact own_by K fun t kk => XS.lconst Y.here hx rfl (hb hby hd) (hv ▸ kk)
theorem own_aconst_null (X : own_S Z n0 bytes y ml ret p l e R s m args below meth c T k sl h) (hd : decode bytes pc = .ok (.aconst_null, 1)) (hpc : pc + 1 = pc') (K : own_G p e below Φ T (mkF m pc' Ls (.null :: S))) : own_G p e below Φ T (mkF m pc Ls (S)) := by
  obtain ⟨⟨locs, Y, N⟩, hh, hn, hx, hZ, hby, hml, hown, hnm, hret, hlk⟩ := X
  subst hpc
  exact own_by K fun t kk => XS.aconstNull Y.here hx rfl (hb hby hd) kk
theorem own_iload (X : own_S Z n0 bytes y ml ret p l e R s m args below meth c T k sl h) {i : Nat} {v : Int32} (hd : decode bytes pc = .ok (.iload i, 2)) (hpc : pc + 2 = pc') (hl : Ls[i]? = some (.val (.int v))) (K : own_G p e below Φ T (mkF m pc' Ls (.int v :: S))) : own_G p e below Φ T (mkF m pc Ls (S)) := by
  obtain ⟨⟨locs, Y, N⟩, hh, hn, hx, hZ, hby, hml, hown, hnm, hret, hlk⟩ := X
  subst hpc
  exact own_by K fun t kk => XS.iload Y.here hx rfl (hb hby hd) hl kk
theorem own_iloadN (X : own_S Z n0 bytes y ml ret p l e R s m args below meth c T k sl h) {i : Fin 4} {v : Int32} (hd : decode bytes pc = .ok (.iload_n i, 1)) (hpc : pc + 1 = pc') (hl : Ls[i.val]? = some (.val (.int v))) (K : own_G p e below Φ T (mkF m pc' Ls (.int v :: S))) : own_G p e below Φ T (mkF m pc Ls (S)) := by
  obtain ⟨⟨locs, Y, N⟩, hh, hn, hx, hZ, hby, hml, hown, hnm, hret, hlk⟩ := X
  subst hpc
  exact own_by K fun t kk => XS.iloadN Y.here hx rfl (hb hby hd) hl kk
theorem own_lload (X : own_S Z n0 bytes y ml ret p l e R s m args below meth c T k sl h) {i : Nat} {v : Int64} (hd : decode bytes pc = .ok (.lload i, 2)) (hpc : pc + 2 = pc') (hl : Ls[i]? = some (.val (.long v))) (K : own_G p e below Φ T (mkF m pc' Ls (.long v :: S))) : own_G p e below Φ T (mkF m pc Ls (S)) := by
  obtain ⟨⟨locs, Y, N⟩, hh, hn, hx, hZ, hby, hml, hown, hnm, hret, hlk⟩ := X
  subst hpc
  exact own_by K fun t kk => XS.lload Y.here hx rfl (hb hby hd) hl kk
theorem own_lloadN (X : own_S Z n0 bytes y ml ret p l e R s m args below meth c T k sl h) {i : Fin 4} {v : Int64} (hd : decode bytes pc = .ok (.lload_n i, 1)) (hpc : pc + 1 = pc') (hl : Ls[i.val]? = some (.val (.long v))) (K : own_G p e below Φ T (mkF m pc' Ls (.long v :: S))) : own_G p e below Φ T (mkF m pc Ls (S)) := by
  obtain ⟨⟨locs, Y, N⟩, hh, hn, hx, hZ, hby, hml, hown, hnm, hret, hlk⟩ := X
  subst hpc
  exact own_by K fun t kk => XS.lloadN Y.here hx rfl (hb hby hd) hl kk
theorem own_aload (X : own_S Z n0 bytes y ml ret p l e R s m args below meth c T k sl h) {i : Nat} {v : Value} (hd : decode bytes pc = .ok (.aload i, 2)) (hpc : pc + 2 = pc') (hl : Ls[i]? = some (.val v)) (hv : v.isRef = true) (K : own_G p e below Φ T (mkF m pc' Ls (v :: S))) : own_G p e below Φ T (mkF m pc Ls (S)) := by
  obtain ⟨⟨locs, Y, N⟩, hh, hn, hx, hZ, hby, hml, hown, hnm, hret, hlk⟩ := X
  subst hpc
  exact own_by K fun t kk => XS.aload Y.here hx rfl (hb hby hd) hl hv kk
theorem own_aloadN (X : own_S Z n0 bytes y ml ret p l e R s m args below meth c T k sl h) {i : Fin 4} {v : Value} (hd : decode bytes pc = .ok (.aload_n i, 1)) (hpc : pc + 1 = pc') (hl : Ls[i.val]? = some (.val v)) (hv : v.isRef = true) (K : own_G p e below Φ T (mkF m pc' Ls (v :: S))) : own_G p e below Φ T (mkF m pc Ls (S)) := by
  obtain ⟨⟨locs, Y, N⟩, hh, hn, hx, hZ, hby, hml, hown, hnm, hret, hlk⟩ := X
  subst hpc
  exact own_by K fun t kk => XS.aloadN Y.here hx rfl (hb hby hd) hl hv kk
theorem own_dup (X : own_S Z n0 bytes y ml ret p l e R s m args below meth c T k sl h) {v : Value} (hd : decode bytes pc = .ok (.dup, 1)) (hpc : pc + 1 = pc') (hv : v.category = 1) (K : own_G p e below Φ T (mkF m pc' Ls (v :: v :: S))) : own_G p e below Φ T (mkF m pc Ls (v :: S)) := by
  obtain ⟨⟨locs, Y, N⟩, hh, hn, hx, hZ, hby, hml, hown, hnm, hret, hlk⟩ := X
  subst hpc
  exact own_by K fun t kk => XS.dup Y.here hx rfl (hb hby hd) rfl hv kk
theorem own_dup2 (X : own_S Z n0 bytes y ml ret p l e R s m args below meth c T k sl h) {v w : Value} (hd : decode bytes pc = .ok (.dup2, 1)) (hpc : pc + 1 = pc') (hv : v.category = 1) (hw : w.category = 1) (K : own_G p e below Φ T (mkF m pc' Ls (v :: w :: v :: w :: S))) : own_G p e below Φ T (mkF m pc Ls (v :: w :: S)) := by
  obtain ⟨⟨locs, Y, N⟩, hh, hn, hx, hZ, hby, hml, hown, hnm, hret, hlk⟩ := X
  subst hpc
  exact own_by K fun t kk => XT.dup2 Y.here hx rfl (hb hby hd) rfl hv hw kk
theorem own_pop (X : own_S Z n0 bytes y ml ret p l e R s m args below meth c T k sl h) {v : Value} (hd : decode bytes pc = .ok (.pop, 1)) (hpc : pc + 1 = pc') (hv : v.category = 1) (K : own_G p e below Φ T (mkF m pc' Ls (S))) : own_G p e below Φ T (mkF m pc Ls (v :: S)) := by
  obtain ⟨⟨locs, Y, N⟩, hh, hn, hx, hZ, hby, hml, hown, hnm, hret, hlk⟩ := X
  subst hpc
  exact own_by K fun t kk => XS.pop Y.here hx rfl (hb hby hd) rfl hv kk
theorem own_istore (X : own_S Z n0 bytes y ml ret p l e R s m args below meth c T k sl h) {i : Nat} {v : Int32} (hd : decode bytes pc = .ok (.istore i, 2)) (hpc : pc + 2 = pc') (hl : storeLocals Ls i (.int v) = some Ls') (K : own_G p e below Φ T (mkF m pc' Ls' S)) : own_G p e below Φ T (mkF m pc Ls (.int v :: S)) := by
  obtain ⟨⟨locs, Y, N⟩, hh, hn, hx, hZ, hby, hml, hown, hnm, hret, hlk⟩ := X
  subst hpc
  exact own_by K fun t kk => XS.istore Y.here hx rfl (hb hby hd) rfl hl kk
theorem own_istoreN (X : own_S Z n0 bytes y ml ret p l e R s m args below meth c T k sl h) {i : Fin 4} {v : Int32} (hd : decode bytes pc = .ok (.istore_n i, 1)) (hpc : pc + 1 = pc') (hl : storeLocals Ls i.val (.int v) = some Ls') (K : own_G p e below Φ T (mkF m pc' Ls' S)) : own_G p e below Φ T (mkF m pc Ls (.int v :: S)) := by
  obtain ⟨⟨locs, Y, N⟩, hh, hn, hx, hZ, hby, hml, hown, hnm, hret, hlk⟩ := X
  subst hpc
  exact own_by K fun t kk => XS.istoreN Y.here hx rfl (hb hby hd) rfl hl kk
theorem own_lstore (X : own_S Z n0 bytes y ml ret p l e R s m args below meth c T k sl h) {i : Nat} {v : Int64} (hd : decode bytes pc = .ok (.lstore i, 2)) (hpc : pc + 2 = pc') (hl : storeLocals Ls i (.long v) = some Ls') (K : own_G p e below Φ T (mkF m pc' Ls' S)) : own_G p e below Φ T (mkF m pc Ls (.long v :: S)) := by
  obtain ⟨⟨locs, Y, N⟩, hh, hn, hx, hZ, hby, hml, hown, hnm, hret, hlk⟩ := X
  subst hpc
  exact own_by K fun t kk => XS.lstore Y.here hx rfl (hb hby hd) rfl hl kk
theorem own_lstoreN (X : own_S Z n0 bytes y ml ret p l e R s m args below meth c T k sl h) {i : Fin 4} {v : Int64} (hd : decode bytes pc = .ok (.lstore_n i, 1)) (hpc : pc + 1 = pc') (hl : storeLocals Ls i.val (.long v) = some Ls') (K : own_G p e below Φ T (mkF m pc' Ls' S)) : own_G p e below Φ T (mkF m pc Ls (.long v :: S)) := by
  obtain ⟨⟨locs, Y, N⟩, hh, hn, hx, hZ, hby, hml, hown, hnm, hret, hlk⟩ := X
  subst hpc
  exact own_by K fun t kk => XS.lstoreN Y.here hx rfl (hb hby hd) rfl hl kk
theorem own_astore (X : own_S Z n0 bytes y ml ret p l e R s m args below meth c T k sl h) {i : Nat} {v : Value} (hd : decode bytes pc = .ok (.astore i, 2)) (hpc : pc + 2 = pc') (hv : v.isRef = true) (hl : storeLocals Ls i (v) = some Ls') (K : own_G p e below Φ T (mkF m pc' Ls' S)) : own_G p e below Φ T (mkF m pc Ls (v :: S)) := by
  obtain ⟨⟨locs, Y, N⟩, hh, hn, hx, hZ, hby, hml, hown, hnm, hret, hlk⟩ := X
  subst hpc
  exact own_by K fun t kk => XS.astore Y.here hx rfl (hb hby hd) rfl hv hl kk
theorem own_astoreN (X : own_S Z n0 bytes y ml ret p l e R s m args below meth c T k sl h) {i : Fin 4} {v : Value} (hd : decode bytes pc = .ok (.astore_n i, 1)) (hpc : pc + 1 = pc') (hv : v.isRef = true) (hl : storeLocals Ls i.val (v) = some Ls') (K : own_G p e below Φ T (mkF m pc' Ls' S)) : own_G p e below Φ T (mkF m pc Ls (v :: S)) := by
  obtain ⟨⟨locs, Y, N⟩, hh, hn, hx, hZ, hby, hml, hown, hnm, hret, hlk⟩ := X
  subst hpc
  exact own_by K fun t kk => XS.astoreN Y.here hx rfl (hb hby hd) rfl hv hl kk
theorem own_iinc (X : own_S Z n0 bytes y ml ret p l e R s m args below meth c T k sl h) {i : Nat} {cst : Int} {v : Int32} (hd : decode bytes pc = .ok (.iinc i cst, 3)) (hpc : pc + 3 = pc') (hl : Ls[i]? = some (.val (.int v))) {w : Int32} (hw : v + Int32.ofInt cst = w) (hs : storeLocals Ls i (.int w) = some Ls') (K : own_G p e below Φ T (mkF m pc' Ls' S)) : own_G p e below Φ T (mkF m pc Ls S) := by
  obtain ⟨⟨locs, Y, N⟩, hh, hn, hx, hZ, hby, hml, hown, hnm, hret, hlk⟩ := X
  subst hpc
  exact own_by K fun t kk => XS.iinc Y.here hx rfl (hb hby hd) hl (hw ▸ hs) kk
theorem own_goto (X : own_S Z n0 bytes y ml ret p l e R s m args below meth c T k sl h) {o : Int} (hd : decode bytes pc = .ok (.goto o, 3)) (ho : 0 ≤ (pc : Int) + o) (hp : ((pc : Int) + o).toNat = pc') (K : own_G p e below Φ T (mkF m pc' Ls S)) : own_G p e below Φ T (mkF m pc Ls S) := by
  obtain ⟨⟨locs, Y, N⟩, hh, hn, hx, hZ, hby, hml, hown, hnm, hret, hlk⟩ := X
  exact own_by K fun t kk => XS.goto Y.here hx rfl rfl (hb hby hd) ho hp kk
theorem own_icmp_eq (X : own_S Z n0 bytes y ml ret p l e R s m args below meth c T k sl h) {o : Int} {a b : Int32} {pct : Nat} (hd : decode bytes pc = .ok (.if_icmp .eq o, 3)) (hpc : pc + 3 = pc') (ho : 0 ≤ (pc : Int) + o) (hp : ((pc : Int) + o).toNat = pct) (Ky : a = b → own_G p e below Φ T (mkF m pct Ls S)) (Kn : ¬ a = b → own_G p e below Φ T (mkF m pc' Ls S)) : own_G p e below Φ T (mkF m pc Ls (.int b :: .int a :: S)) := by
  obtain ⟨⟨locs, Y, N⟩, hh, hn, hx, hZ, hby, hml, hown, hnm, hret, hlk⟩ := X
  subst hpc
  by_cases hc : a = b
  · exact own_by (Ky hc) fun t kk => XS.icmpYes Y.here hx rfl rfl (hb hby hd) rfl (teq hc).1 ho hp kk
  · exact own_by (Kn hc) fun t kk => XS.icmpNo Y.here hx rfl (hb hby hd) rfl (feq hc).1 kk
theorem own_if_eq (X : own_S Z n0 bytes y ml ret p l e R s m args below meth c T k sl h) {o : Int} {a : Int32} {pct : Nat} (hd : decode bytes pc = .ok (.ifCond .eq o, 3)) (hpc : pc + 3 = pc') (ho : 0 ≤ (pc : Int) + o) (hp : ((pc : Int) + o).toNat = pct) (Ky : a = 0 → own_G p e below Φ T (mkF m pct Ls S)) (Kn : ¬ a = 0 → own_G p e below Φ T (mkF m pc' Ls S)) : own_G p e below Φ T (mkF m pc Ls (.int a :: S)) := by
  obtain ⟨⟨locs, Y, N⟩, hh, hn, hx, hZ, hby, hml, hown, hnm, hret, hlk⟩ := X
  subst hpc
  by_cases hc : a = 0
  · exact own_by (Ky hc) fun t kk => XS.ifYes Y.here hx rfl rfl (hb hby hd) rfl ((if0 _ _).trans (teq hc).1) ho hp kk
  · exact own_by (Kn hc) fun t kk => XS.ifNo Y.here hx rfl (hb hby hd) rfl ((if0 _ _).trans (feq hc).1) kk
theorem own_icmp_ne (X : own_S Z n0 bytes y ml ret p l e R s m args below meth c T k sl h) {o : Int} {a b : Int32} {pct : Nat} (hd : decode bytes pc = .ok (.if_icmp .ne o, 3)) (hpc : pc + 3 = pc') (ho : 0 ≤ (pc : Int) + o) (hp : ((pc : Int) + o).toNat = pct) (Ky : ¬ a = b → own_G p e below Φ T (mkF m pct Ls S)) (Kn : a = b → own_G p e below Φ T (mkF m pc' Ls S)) : own_G p e below Φ T (mkF m pc Ls (.int b :: .int a :: S)) := by
  obtain ⟨⟨locs, Y, N⟩, hh, hn, hx, hZ, hby, hml, hown, hnm, hret, hlk⟩ := X
  subst hpc
  by_cases hc : ¬ a = b
  · exact own_by (Ky hc) fun t kk => XS.icmpYes Y.here hx rfl rfl (hb hby hd) rfl (feq hc).2 ho hp kk
  · replace hc := Decidable.not_not.mp hc; exact own_by (Kn hc) fun t kk => XS.icmpNo Y.here hx rfl (hb hby hd) rfl (teq hc).2 kk
theorem own_if_ne (X : own_S Z n0 bytes y ml ret p l e R s m args below meth c T k sl h) {o : Int} {a : Int32} {pct : Nat} (hd : decode bytes pc = .ok (.ifCond .ne o, 3)) (hpc : pc + 3 = pc') (ho : 0 ≤ (pc : Int) + o) (hp : ((pc : Int) + o).toNat = pct) (Ky : ¬ a = 0 → own_G p e below Φ T (mkF m pct Ls S)) (Kn : a = 0 → own_G p e below Φ T (mkF m pc' Ls S)) : own_G p e below Φ T (mkF m pc Ls (.int a :: S)) := by
  obtain ⟨⟨locs, Y, N⟩, hh, hn, hx, hZ, hby, hml, hown, hnm, hret, hlk⟩ := X
  subst hpc
  by_cases hc : ¬ a = 0
  · exact own_by (Ky hc) fun t kk => XS.ifYes Y.here hx rfl rfl (hb hby hd) rfl ((if0 _ _).trans (feq hc).2) ho hp kk
  · replace hc := Decidable.not_not.mp hc; exact own_by (Kn hc) fun t kk => XS.ifNo Y.here hx rfl (hb hby hd) rfl ((if0 _ _).trans (teq hc).2) kk
theorem own_icmp_lt (X : own_S Z n0 bytes y ml ret p l e R s m args below meth c T k sl h) {o : Int} {a b : Int32} {pct : Nat} (hd : decode bytes pc = .ok (.if_icmp .lt o, 3)) (hpc : pc + 3 = pc') (ho : 0 ≤ (pc : Int) + o) (hp : ((pc : Int) + o).toNat = pct) (Ky : a < b → own_G p e below Φ T (mkF m pct Ls S)) (Kn : ¬ a < b → own_G p e below Φ T (mkF m pc' Ls S)) : own_G p e below Φ T (mkF m pc Ls (.int b :: .int a :: S)) := by
  obtain ⟨⟨locs, Y, N⟩, hh, hn, hx, hZ, hby, hml, hown, hnm, hret, hlk⟩ := X
  subst hpc
  by_cases hc : a < b
  · exact own_by (Ky hc) fun t kk => XS.icmpYes Y.here hx rfl rfl (hb hby hd) rfl (tlt hc).1 ho hp kk
  · exact own_by (Kn hc) fun t kk => XS.icmpNo Y.here hx rfl (hb hby hd) rfl (flt hc).1 kk
theorem own_if_lt (X : own_S Z n0 bytes y ml ret p l e R s m args below meth c T k sl h) {o : Int} {a : Int32} {pct : Nat} (hd : decode bytes pc = .ok (.ifCond .lt o, 3)) (hpc : pc + 3 = pc') (ho : 0 ≤ (pc : Int) + o) (hp : ((pc : Int) + o).toNat = pct) (Ky : a < 0 → own_G p e below Φ T (mkF m pct Ls S)) (Kn : ¬ a < 0 → own_G p e below Φ T (mkF m pc' Ls S)) : own_G p e below Φ T (mkF m pc Ls (.int a :: S)) := by
  obtain ⟨⟨locs, Y, N⟩, hh, hn, hx, hZ, hby, hml, hown, hnm, hret, hlk⟩ := X
  subst hpc
  by_cases hc : a < 0
  · exact own_by (Ky hc) fun t kk => XS.ifYes Y.here hx rfl rfl (hb hby hd) rfl ((if0 _ _).trans (tlt hc).1) ho hp kk
  · exact own_by (Kn hc) fun t kk => XS.ifNo Y.here hx rfl (hb hby hd) rfl ((if0 _ _).trans (flt hc).1) kk
theorem own_icmp_ge (X : own_S Z n0 bytes y ml ret p l e R s m args below meth c T k sl h) {o : Int} {a b : Int32} {pct : Nat} (hd : decode bytes pc = .ok (.if_icmp .ge o, 3)) (hpc : pc + 3 = pc') (ho : 0 ≤ (pc : Int) + o) (hp : ((pc : Int) + o).toNat = pct) (Ky : ¬ a < b → own_G p e below Φ T (mkF m pct Ls S)) (Kn : a < b → own_G p e below Φ T (mkF m pc' Ls S)) : own_G p e below Φ T (mkF m pc Ls (.int b :: .int a :: S)) := by
  obtain ⟨⟨locs, Y, N⟩, hh, hn, hx, hZ, hby, hml, hown, hnm, hret, hlk⟩ := X
  subst hpc
  by_cases hc : ¬ a < b
  · exact own_by (Ky hc) fun t kk => XS.icmpYes Y.here hx rfl rfl (hb hby hd) rfl (flt hc).2.1 ho hp kk
  · replace hc := Decidable.not_not.mp hc; exact own_by (Kn hc) fun t kk => XS.icmpNo Y.here hx rfl (hb hby hd) rfl (tlt hc).2.1 kk
theorem own_if_ge (X : own_S Z n0 bytes y ml ret p l e R s m args below meth c T k sl h) {o : Int} {a : Int32} {pct : Nat} (hd : decode bytes pc = .ok (.ifCond .ge o, 3)) (hpc : pc + 3 = pc') (ho : 0 ≤ (pc : Int) + o) (hp : ((pc : Int) + o).toNat = pct) (Ky : ¬ a < 0 → own_G p e below Φ T (mkF m pct Ls S)) (Kn : a < 0 → own_G p e below Φ T (mkF m pc' Ls S)) : own_G p e below Φ T (mkF m pc Ls (.int a :: S)) := by
  obtain ⟨⟨locs, Y, N⟩, hh, hn, hx, hZ, hby, hml, hown, hnm, hret, hlk⟩ := X
  subst hpc
  by_cases hc : ¬ a < 0
  · exact own_by (Ky hc) fun t kk => XS.ifYes Y.here hx rfl rfl (hb hby hd) rfl ((if0 _ _).trans (flt hc).2.1) ho hp kk
  · replace hc := Decidable.not_not.mp hc; exact own_by (Kn hc) fun t kk => XS.ifNo Y.here hx rfl (hb hby hd) rfl ((if0 _ _).trans (tlt hc).2.1) kk
theorem own_icmp_gt (X : own_S Z n0 bytes y ml ret p l e R s m args below meth c T k sl h) {o : Int} {a b : Int32} {pct : Nat} (hd : decode bytes pc = .ok (.if_icmp .gt o, 3)) (hpc : pc + 3 = pc') (ho : 0 ≤ (pc : Int) + o) (hp : ((pc : Int) + o).toNat = pct) (Ky : b < a → own_G p e below Φ T (mkF m pct Ls S)) (Kn : ¬ b < a → own_G p e below Φ T (mkF m pc' Ls S)) : own_G p e below Φ T (mkF m pc Ls (.int b :: .int a :: S)) := by
  obtain ⟨⟨locs, Y, N⟩, hh, hn, hx, hZ, hby, hml, hown, hnm, hret, hlk⟩ := X
  subst hpc
  by_cases hc : b < a
  · exact own_by (Ky hc) fun t kk => XS.icmpYes Y.here hx rfl rfl (hb hby hd) rfl (tlt hc).2.2.1 ho hp kk
  · exact own_by (Kn hc) fun t kk => XS.icmpNo Y.here hx rfl (hb hby hd) rfl (flt hc).2.2.1 kk
theorem own_if_gt (X : own_S Z n0 bytes y ml ret p l e R s m args below meth c T k sl h) {o : Int} {a : Int32} {pct : Nat} (hd : decode bytes pc = .ok (.ifCond .gt o, 3)) (hpc : pc + 3 = pc') (ho : 0 ≤ (pc : Int) + o) (hp : ((pc : Int) + o).toNat = pct) (Ky : 0 < a → own_G p e below Φ T (mkF m pct Ls S)) (Kn : ¬ 0 < a → own_G p e below Φ T (mkF m pc' Ls S)) : own_G p e below Φ T (mkF m pc Ls (.int a :: S)) := by
  obtain ⟨⟨locs, Y, N⟩, hh, hn, hx, hZ, hby, hml, hown, hnm, hret, hlk⟩ := X
  subst hpc
  by_cases hc : 0 < a
  · exact own_by (Ky hc) fun t kk => XS.ifYes Y.here hx rfl rfl (hb hby hd) rfl ((if0 _ _).trans (tlt hc).2.2.1) ho hp kk
  · exact own_by (Kn hc) fun t kk => XS.ifNo Y.here hx rfl (hb hby hd) rfl ((if0 _ _).trans (flt hc).2.2.1) kk
theorem own_icmp_le (X : own_S Z n0 bytes y ml ret p l e R s m args below meth c T k sl h) {o : Int} {a b : Int32} {pct : Nat} (hd : decode bytes pc = .ok (.if_icmp .le o, 3)) (hpc : pc + 3 = pc') (ho : 0 ≤ (pc : Int) + o) (hp : ((pc : Int) + o).toNat = pct) (Ky : ¬ b < a → own_G p e below Φ T (mkF m pct Ls S)) (Kn : b < a → own_G p e below Φ T (mkF m pc' Ls S)) : own_G p e below Φ T (mkF m pc Ls (.int b :: .int a :: S)) := by
  obtain ⟨⟨locs, Y, N⟩, hh, hn, hx, hZ, hby, hml, hown, hnm, hret, hlk⟩ := X
  subst hpc
  by_cases hc : ¬ b < a
  · exact own_by (Ky hc) fun t kk => XS.icmpYes Y.here hx rfl rfl (hb hby hd) rfl (flt hc).2.2.2 ho hp kk
  · replace hc := Decidable.not_not.mp hc; exact own_by (Kn hc) fun t kk => XS.icmpNo Y.here hx rfl (hb hby hd) rfl (tlt hc).2.2.2 kk
theorem own_if_le (X : own_S Z n0 bytes y ml ret p l e R s m args below meth c T k sl h) {o : Int} {a : Int32} {pct : Nat} (hd : decode bytes pc = .ok (.ifCond .le o, 3)) (hpc : pc + 3 = pc') (ho : 0 ≤ (pc : Int) + o) (hp : ((pc : Int) + o).toNat = pct) (Ky : ¬ 0 < a → own_G p e below Φ T (mkF m pct Ls S)) (Kn : 0 < a → own_G p e below Φ T (mkF m pc' Ls S)) : own_G p e below Φ T (mkF m pc Ls (.int a :: S)) := by
  obtain ⟨⟨locs, Y, N⟩, hh, hn, hx, hZ, hby, hml, hown, hnm, hret, hlk⟩ := X
  subst hpc
  by_cases hc : ¬ 0 < a
  · exact own_by (Ky hc) fun t kk => XS.ifYes Y.here hx rfl rfl (hb hby hd) rfl ((if0 _ _).trans (flt hc).2.2.2) ho hp kk
  · replace hc := Decidable.not_not.mp hc; exact own_by (Kn hc) fun t kk => XS.ifNo Y.here hx rfl (hb hby hd) rfl ((if0 _ _).trans (tlt hc).2.2.2) kk
theorem own_ifl_eq (X : own_S Z n0 bytes y ml ret p l e R s m args below meth c T k sl h) {o : Int} {a b : Int64} {pct : Nat} (hd : decode bytes pc = .ok (.ifCond .eq o, 3)) (hpc : pc + 3 = pc') (ho : 0 ≤ (pc : Int) + o) (hp : ((pc : Int) + o).toNat = pct) (Ky : a = b → own_G p e below Φ T (mkF m pct Ls S)) (Kn : ¬ a = b → own_G p e below Φ T (mkF m pc' Ls S)) : own_G p e below Φ T (mkF m pc Ls (.int (lcmpW a b) :: S)) :=
  own_if_eq X hd hpc ho hp (fun q => Ky ((lw_eq a b).mp q)) (fun q => Kn (fun r => q ((lw_eq a b).mpr r)))
theorem own_ifl_ne (X : own_S Z n0 bytes y ml ret p l e R s m args below meth c T k sl h) {o : Int} {a b : Int64} {pct : Nat} (hd : decode bytes pc = .ok (.ifCond .ne o, 3)) (hpc : pc + 3 = pc') (ho : 0 ≤ (pc : Int) + o) (hp : ((pc : Int) + o).toNat = pct) (Ky : ¬ a = b → own_G p e below Φ T (mkF m pct Ls S)) (Kn : a = b → own_G p e below Φ T (mkF m pc' Ls S)) : own_G p e below Φ T (mkF m pc Ls (.int (lcmpW a b) :: S)) :=
  own_if_ne X hd hpc ho hp (fun q => Ky (fun r => q ((lw_eq a b).mpr r))) (fun q => Kn ((lw_eq a b).mp q))
theorem own_ifl_lt (X : own_S Z n0 bytes y ml ret p l e R s m args below meth c T k sl h) {o : Int} {a b : Int64} {pct : Nat} (hd : decode bytes pc = .ok (.ifCond .lt o, 3)) (hpc : pc + 3 = pc') (ho : 0 ≤ (pc : Int) + o) (hp : ((pc : Int) + o).toNat = pct) (Ky : a < b → own_G p e below Φ T (mkF m pct Ls S)) (Kn : ¬ a < b → own_G p e below Φ T (mkF m pc' Ls S)) : own_G p e below Φ T (mkF m pc Ls (.int (lcmpW a b) :: S)) :=
  own_if_lt X hd hpc ho hp (fun q => Ky ((lw_lt a b).mp q)) (fun q => Kn (fun r => q ((lw_lt a b).mpr r)))
theorem own_ifl_ge (X : own_S Z n0 bytes y ml ret p l e R s m args below meth c T k sl h) {o : Int} {a b : Int64} {pct : Nat} (hd : decode bytes pc = .ok (.ifCond .ge o, 3)) (hpc : pc + 3 = pc') (ho : 0 ≤ (pc : Int) + o) (hp : ((pc : Int) + o).toNat = pct) (Ky : ¬ a < b → own_G p e below Φ T (mkF m pct Ls S)) (Kn : a < b → own_G p e below Φ T (mkF m pc' Ls S)) : own_G p e below Φ T (mkF m pc Ls (.int (lcmpW a b) :: S)) :=
  own_if_ge X hd hpc ho hp (fun q => Ky (fun r => q ((lw_lt a b).mpr r))) (fun q => Kn ((lw_lt a b).mp q))
theorem own_ifl_gt (X : own_S Z n0 bytes y ml ret p l e R s m args below meth c T k sl h) {o : Int} {a b : Int64} {pct : Nat} (hd : decode bytes pc = .ok (.ifCond .gt o, 3)) (hpc : pc + 3 = pc') (ho : 0 ≤ (pc : Int) + o) (hp : ((pc : Int) + o).toNat = pct) (Ky : b < a → own_G p e below Φ T (mkF m pct Ls S)) (Kn : ¬ b < a → own_G p e below Φ T (mkF m pc' Ls S)) : own_G p e below Φ T (mkF m pc Ls (.int (lcmpW a b) :: S)) :=
  own_if_gt X hd hpc ho hp (fun q => Ky ((lw_gt a b).mp q)) (fun q => Kn (fun r => q ((lw_gt a b).mpr r)))
theorem own_ifl_le (X : own_S Z n0 bytes y ml ret p l e R s m args below meth c T k sl h) {o : Int} {a b : Int64} {pct : Nat} (hd : decode bytes pc = .ok (.ifCond .le o, 3)) (hpc : pc + 3 = pc') (ho : 0 ≤ (pc : Int) + o) (hp : ((pc : Int) + o).toNat = pct) (Ky : ¬ b < a → own_G p e below Φ T (mkF m pct Ls S)) (Kn : b < a → own_G p e below Φ T (mkF m pc' Ls S)) : own_G p e below Φ T (mkF m pc Ls (.int (lcmpW a b) :: S)) :=
  own_if_le X hd hpc ho hp (fun q => Ky (fun r => q ((lw_gt a b).mpr r))) (fun q => Kn ((lw_gt a b).mp q))
theorem own_ldc {i : Nat} {v : Int32} (X : own_S Z n0 bytes y ml ret p l e R s m args below meth c T k sl h) (hw : (Jvm.Cond.constant y.cls i v).before a0 Z = true) (hd : decode bytes pc = .ok (.ldc i, 2)) (hpc : pc + 2 = pc') (K : own_G p e below Φ T (mkF m pc' Ls (.int v :: S))) : own_G p e below Φ T (mkF m pc Ls S) := by
  obtain ⟨⟨locs, Y, N⟩, hh, hn, hx, hZ, hby, hml, hown, hnm, hret, hlk⟩ := X
  subst hpc
  exact own_by K fun t kk => Y.ldcInt hx hown (mvT hZ hw) (g := mkF m pc Ls S) rfl (hb hby hd) t kk
theorem own_ldc2 {i : Nat} {v : Int64} (X : own_S Z n0 bytes y ml ret p l e R s m args below meth c T k sl h) (hw : (Jvm.Cond.constantLong y.cls i v).before a0 Z = true) (hd : decode bytes pc = .ok (.ldc2_w i, 3)) (hpc : pc + 3 = pc') (K : own_G p e below Φ T (mkF m pc' Ls (.long v :: S))) : own_G p e below Φ T (mkF m pc Ls S) := by
  obtain ⟨⟨locs, Y, N⟩, hh, hn, hx, hZ, hby, hml, hown, hnm, hret, hlk⟩ := X
  subst hpc
  exact own_by K fun t kk => Y.ldc2Long hx hown (mvT hZ hw) (g := mkF m pc Ls S) rfl (hb hby hd) t kk
theorem own_ret {w' : Option Value} {Θ : Heap → Prop} {w : Value} {t : FieldType} {i : Instr} (X : own_S Z n0 bytes y ml (some t) p l e R s m args below meth c T k sl h)
    (hd : decode bytes pc = .ok (i, 1)) (hi : (i = .ireturn ∧ (t = .int ∨ t = .boolean ∨ t = .byte ∨ t = .char ∨ t = .short) ∧ ∃ z, w = .int z) ∨ (i = .lreturn ∧ t = .long ∧ ∃ z, w = .long z) ∨ (i = .dreturn ∧ t = .double ∧ ∃ z, w = .double z) ∨ (i = .freturn ∧ t = .float ∧ ∃ z, w = .float z) ∨ (i = .areturn ∧ t.isReference = true ∧ w.isRef = true))
    (hnw : narrow t w = w) (hk : k ≤ R.cells) (hs : sl ≤ R.slots) (hw : some w = w') (hΘ : Θ h) : own_G p e below (own_Q n0 below s R w' Θ) T (mkF m pc Ls (w :: S)) := by
  obtain ⟨⟨locs, Y, N⟩, hh, hn, hx, hZ, hby, hml, hown, hnm, hret, hlk⟩ := X
  obtain ⟨fs, hr, hrun, hended, hW, hsame⟩ := Y.leave (v := some w) (fun h => by rw [hret] at h; cases h) hlk
  refine ⟨_, _, retOut Y hx hret hnw hi (hb hby hd) hr, hrun, hended, _, _, rfl, ⟨⟨hw, ?_⟩, N⟩, ⟨_, rfl⟩, hW, hsame.mono hk hs⟩
  show Θ T.heap
  rw [hh]; exact hΘ
theorem own_retV {w' : Option Value} {Θ : Heap → Prop} (X : own_S Z n0 bytes y ml none p l e R s m args below meth c T k sl h)
    (hd : decode bytes pc = .ok (.return_, 1)) (hk : k ≤ R.cells) (hs : sl ≤ R.slots) (hw : none = w') (hΘ : Θ h) : own_G p e below (own_Q n0 below s R w' Θ) T (mkF m pc Ls []) := by
  obtain ⟨⟨locs, Y, N⟩, hh, hn, hx, hZ, hby, hml, hown, hnm, hret, hlk⟩ := X
  obtain ⟨fs, hr, hrun, hended, hW, hsame⟩ := Y.leave (v := none) (fun _ => rfl) hlk
  refine ⟨_, _, Y.returnOut hx hret (hb hby hd) hr, hrun, hended, _, _, rfl, ⟨⟨hw, ?_⟩, N⟩, ⟨_, rfl⟩, hW, hsame.mono hk hs⟩
  show Θ T.heap
  rw [hh]; exact hΘ
theorem own_retZ {w' : Option Value} {Θ : Heap → Prop} {z : Int32} (X : own_S Z n0 bytes y ml (some .boolean) p l e R s m args below meth c T k sl h) (hd : decode bytes pc = .ok (.ireturn, 1)) (hz : z &&& 1 = z) (hk : k ≤ R.cells) (hs : sl ≤ R.slots) (hw : some (.int z) = w') (hΘ : Θ h) : own_G p e below (own_Q n0 below s R w' Θ) T (mkF m pc Ls (.int z :: S)) :=
  own_ret X hd (Or.inl ⟨rfl, by simp, _, rfl⟩) (by simp [narrow, hz]) hk hs hw hΘ
theorem own_retI {w' : Option Value} {Θ : Heap → Prop} {z : Int32} (X : own_S Z n0 bytes y ml (some .int) p l e R s m args below meth c T k sl h) (hd : decode bytes pc = .ok (.ireturn, 1)) (hk : k ≤ R.cells) (hs : sl ≤ R.slots) (hw : some (.int z) = w') (hΘ : Θ h) : own_G p e below (own_Q n0 below s R w' Θ) T (mkF m pc Ls (.int z :: S)) :=
  own_ret X hd (Or.inl ⟨rfl, by simp, _, rfl⟩) rfl hk hs hw hΘ
theorem own_retB {w' : Option Value} {Θ : Heap → Prop} {z : Int32} (X : own_S Z n0 bytes y ml (some .byte) p l e R s m args below meth c T k sl h) (hd : decode bytes pc = .ok (.ireturn, 1)) (hz : z.toInt8.toInt32 = z) (hk : k ≤ R.cells) (hs : sl ≤ R.slots) (hw : some (.int z) = w') (hΘ : Θ h) : own_G p e below (own_Q n0 below s R w' Θ) T (mkF m pc Ls (.int z :: S)) :=
  own_ret X hd (Or.inl ⟨rfl, by simp, _, rfl⟩) (by simp [narrow, hz]) hk hs hw hΘ
theorem own_retL {w' : Option Value} {Θ : Heap → Prop} {z : Int64} (X : own_S Z n0 bytes y ml (some .long) p l e R s m args below meth c T k sl h) (hd : decode bytes pc = .ok (.lreturn, 1)) (hk : k ≤ R.cells) (hs : sl ≤ R.slots) (hw : some (.long z) = w') (hΘ : Θ h) : own_G p e below (own_Q n0 below s R w' Θ) T (mkF m pc Ls (.long z :: S)) :=
  own_ret X hd (Or.inr (Or.inl ⟨rfl, rfl, _, rfl⟩)) rfl hk hs hw hΘ
theorem own_callS {z : MethodName} {cb : ByteArray} {cml : Nat} {cret : Option FieldType} {crm : Room} {i : Nat} {argsL rest S' : List Value} {w : Option Value} {Θ : Heap → Prop} (X : own_S Z n0 bytes y ml ret p l e R s m args below meth c T k sl h) (M : own_Met l z cb cml cret crm Z n0 argsL.toArray h w Θ)
    (w1 : (Jvm.Cond.methodLink y.cls i z).before a0 Z = true) (w2 : (Jvm.Cond.static z).before a0 Z = true) (w3 : (Jvm.Cond.initialized z.cls).before a0 Z = true) (w4 : (Jvm.Cond.code z cb cml cret).before a0 Z = true) (hz : z.cls ≠ "java/lang/invoke/MethodHandle" ∧ z.cls ≠ "java/lang/invoke/VarHandle")
    {W : Nat} (hf : crm.frames + 1 ≤ R.frames) (hl : W + (cml + 11) + crm.locals ≤ R.locals) (hc0 : crm.cells = 0) (hs0 : crm.slots = 0) (hc : k ≤ R.cells) (hs : sl ≤ R.slots)
    (hlen : ∀ sig, parseMethodDescriptor z.desc = some sig → argsL.length = sig.parameters.length) (hst : S = argsL.reverse ++ rest) (hW : 2 * 0 + (rest.map fun v => v.category).sum ≤ W) (hsz : Ls.size = ml)
    (hd : decode bytes pc = .ok (.invokestatic i, 3)) (hpc : pc + 3 = pc')
    (hS' : w.toList ++ rest = S') (K : ∀ T' h', own_S Z n0 bytes y ml ret p l e R s m args below meth c T' k sl h' → Θ h' → own_G p e below Φ T' (mkF m pc' Ls S')) : own_G p e below Φ T (mkF m pc Ls S) := by
  obtain ⟨⟨locs, Y, N⟩, hh, hn, hx, hZ, hby, hml, hown, hnm, hret, hlk⟩ := X
  subst hpc
  obtain ⟨v, _, ⟨T', L', k', n'⟩, -, X', ⟨Lc, hQ, l1, y1, z1⟩, st⟩ := Jvm.LawKit.callS Y hx (y := z) hown (mvT hZ w1) (mvT hZ w2) (mvT hZ w3) (mvT hZ w4) hz (backOf (W := W) (Q := fun v h' L => (v = w ∧ Θ h') ∧ Fr n0 L) (M []) hZ w4 w3 hf hl) (g := mkF m pc Ls S) rfl (by rw [hml]; exact hsz) (argsL := argsL) (rest := rest) hlen hst hW (hb hby hd) (fun _ _ => ⟨rfl, hh, by rw [hc0]; exact hc, by rw [hs0]; exact hs⟩)
  dsimp only [Pt.U, Pt.locs, Pt.cells, Pt.slots] at X' l1 y1 z1 st hQ
  subst l1 y1 z1
  obtain ⟨⟨rfl, hQ1⟩, hQ2⟩ := hQ
  rw [hc0, hs0] at X'
  subst hS'
  exact own_by (K T' _ ⟨⟨_, X', N.app hQ2⟩, rfl, hn, hx, hZ, hby, hml, hown, hnm, hret, hlk⟩ hQ1) st
theorem own_callI {z : MethodName} {cb : ByteArray} {cml : Nat} {crm : Room} {i : Nat} {a : Addr} {argsL rest S' : List Value} {w : Option Value} {Θ : Heap → Prop} (X : own_S Z n0 bytes y ml ret p l e R s m args below meth c T k sl h) (M : own_Met l z cb cml none crm Z n0 (.ref a :: argsL).toArray h w Θ) (hi : z.name = "<init>")
    (w1 : (Jvm.Cond.methodLink y.cls i z).before a0 Z = true) (w2 : (Jvm.Cond.instanceMethod z).before a0 Z = true) (w3 : (Jvm.Cond.initialized z.cls).before a0 Z = true) (w4 : (Jvm.Cond.code z cb cml none).before a0 Z = true) (hz : z.cls ≠ "java/lang/invoke/MethodHandle" ∧ z.cls ≠ "java/lang/invoke/VarHandle")
    {W : Nat} (hf : crm.frames + 1 ≤ R.frames) (hl : W + (cml + 11) + crm.locals ≤ R.locals) (hc0 : crm.cells = 0) (hs0 : crm.slots = 0) (hc : k ≤ R.cells) (hs : sl ≤ R.slots)
    (hlen : ∀ sig, parseMethodDescriptor z.desc = some sig → argsL.length = sig.parameters.length) (hst : S = argsL.reverse ++ .ref a :: rest) (hW : 2 * 0 + (rest.map fun v => v.category).sum ≤ W) (hsz : Ls.size = ml)
    (hd : decode bytes pc = .ok (.invokespecial i, 3)) (hpc : pc + 3 = pc')
    (hS' : w.toList ++ rest = S') (K : ∀ T' h', own_S Z n0 bytes y ml ret p l e R s m args below meth c T' k sl h' → Θ h' → own_G p e below Φ T' (mkF m pc' Ls S')) : own_G p e below Φ T (mkF m pc Ls S) := by
  obtain ⟨⟨locs, Y, N⟩, hh, hn, hx, hZ, hby, hml, hown, hnm, hret, hlk⟩ := X
  subst hpc
  obtain ⟨v, _, ⟨T', L', k', n'⟩, -, X', ⟨Lc, hQ, l1, y1, z1⟩, st⟩ := Y.specialBack hx (y := z) hi hown (mvT hZ w1) (mvT hZ w2) (mvT hZ w4) hz (backOf (W := W) (Q := fun v h' L => (v = w ∧ Θ h') ∧ Fr n0 L) (M []) hZ w4 w3 hf hl) (g := mkF m pc Ls S) rfl (by rw [hml]; exact hsz) (Steps.refl _) (a := a) (argsL := argsL) (rest := rest) hlen hst hW (hb hby hd) (fun _ _ => ⟨rfl, hh, by rw [hc0]; exact hc, by rw [hs0]; exact hs⟩)
  dsimp only [Pt.U, Pt.locs, Pt.cells, Pt.slots] at X' l1 y1 z1 st hQ
  subst l1 y1 z1
  obtain ⟨⟨rfl, hQ1⟩, hQ2⟩ := hQ
  rw [hc0, hs0] at X'
  subst hS'
  exact own_by (K T' _ ⟨⟨_, X', N.app hQ2⟩, rfl, hn, hx, hZ, hby, hml, hown, hnm, hret, hlk⟩ hQ1) fun t kk => st.trans kk
theorem own_callV {z : MethodName} {cb : ByteArray} {cml : Nat} {cret : Option FieldType} {crm : Room} {i : Nat} {a : Addr} {argsL rest S' : List Value} {w : Option Value} {Θ : Heap → Prop} (X : own_S Z n0 bytes y ml ret p l e R s m args below meth c T k sl h) (M : own_Met l z cb cml cret crm Z n0 (.ref a :: argsL).toArray h w Θ) (E : Exa Z h a z.cls)
    (w1 : (Jvm.Cond.methodLink y.cls i z).before a0 Z = true) (w2 : (Jvm.Cond.declares z).before a0 Z = true) (w5 : (Jvm.Cond.selects z.cls z z).before a0 Z = true) (w6 : (Jvm.Cond.instanceMethod z).before a0 Z = true) (w3 : (Jvm.Cond.initialized z.cls).before a0 Z = true) (w4 : (Jvm.Cond.code z cb cml cret).before a0 Z = true) (hz : z.cls ≠ "java/lang/invoke/MethodHandle" ∧ z.cls ≠ "java/lang/invoke/VarHandle")
    {W : Nat} (hf : crm.frames + 1 ≤ R.frames) (hl : W + (cml + 11) + crm.locals ≤ R.locals) (hc0 : crm.cells = 0) (hs0 : crm.slots = 0) (hc : k ≤ R.cells) (hs : sl ≤ R.slots)
    (hlen : ∀ sig, parseMethodDescriptor z.desc = some sig → argsL.length = sig.parameters.length) (hst : S = argsL.reverse ++ .ref a :: rest) (hW : 2 * 0 + (rest.map fun v => v.category).sum ≤ W) (hsz : Ls.size = ml)
    (hd : decode bytes pc = .ok (.invokevirtual i, 3)) (hpc : pc + 3 = pc')
    (hS' : w.toList ++ rest = S') (K : ∀ T' h', own_S Z n0 bytes y ml ret p l e R s m args below meth c T' k sl h' → Θ h' → own_G p e below Φ T' (mkF m pc' Ls S')) : own_G p e below Φ T (mkF m pc Ls S) := by
  obtain ⟨⟨locs, Y, N⟩, hh, hn, hx, hZ, hby, hml, hown, hnm, hret, hlk⟩ := X
  subst hpc
  obtain ⟨cq, kq, qa, qb, qc⟩ := isOf hZ hh E
  obtain ⟨v, _, ⟨T', L', k', n'⟩, -, X', ⟨Lc, hQ, l1, y1, z1⟩, st⟩ := Y.virtualBack hx (y := z) (z := z) hown (mvT hZ w1) (mvT hZ w2) (notFace_of_selects (args := #[]) (mvT hZ w5)) (mvT hZ w5) (mvT hZ w6) hz (backOf (W := W) (Q := fun v h' L => (v = w ∧ Θ h') ∧ Fr n0 L) (M []) hZ w4 w3 hf hl) qa qc (g := mkF m pc Ls S) rfl (by rw [hml]; exact hsz) (Steps.refl _) (argsL := argsL) (rest := rest) hlen hst hW (hb hby hd) (fun _ _ => ⟨rfl, hh, by rw [hc0]; exact hc, by rw [hs0]; exact hs⟩)
  dsimp only [Pt.U, Pt.locs, Pt.cells, Pt.slots] at X' l1 y1 z1 st hQ
  subst l1 y1 z1
  obtain ⟨⟨rfl, hQ1⟩, hQ2⟩ := hQ
  rw [hc0, hs0] at X'
  subst hS'
  exact own_by (K T' _ ⟨⟨_, X', N.app hQ2⟩, rfl, hn, hx, hZ, hby, hml, hown, hnm, hret, hlk⟩ hQ1) fun t kk => st.trans kk
theorem own_getF (X : own_S Z n0 bytes y ml ret p l e R s m args below meth c T k sl h) {i : Nat} {a : Addr} {O nm d : String} {v : Value} (w : (Jvm.Cond.fieldLink y.cls i O nm d).before a0 Z = true) (F : Fld Z h a O nm d v) (hd : decode bytes pc = .ok (.getfield i, 3)) (hpc : pc + 3 = pc')
    (K : ∀ T', own_S Z n0 bytes y ml ret p l e R s m args below meth c T' k sl h → own_G p e below Φ T' (mkF m pc' Ls (v :: S))) : own_G p e below Φ T (mkF m pc Ls (.ref a :: S)) := by
  obtain ⟨⟨locs, Y, N⟩, hh, hn, hx, hZ, hby, hml, hown, hnm, hret, hlk⟩ := X
  subst hpc
  obtain ⟨T', X', e', st⟩ := getF Y hx hZ hown (host := "") (Or.inl w) Via.refl hh F (g := mkF m pc Ls (.ref a :: S)) rfl rfl (hb hby hd)
  exact own_by (K T' ⟨⟨_, X', N⟩, e', hn, hx, hZ, hby, hml, hown, hnm, hret, hlk⟩) st
theorem own_putF (X : own_S Z n0 bytes y ml ret p l e R s m args below meth c T k sl h) {i kk : Nat} {a : Addr} {O nm d C : String} {v v' old : Value} {ty : FieldType} (w : (Jvm.Cond.fieldLink y.cls i O nm d).before a0 Z = true) (F : Fld Z h a O nm d old) (E : Exa Z h a C) (ha : n0 ≤ a)
    (L : (Jvm.Cond.lays C O nm d).before a0 Z = true ∨ ((Jvm.Cond.laysFinal C O nm d).before a0 Z = true ∧ y.cls = O ∧ y.name = "<init>")) (wi : (Jvm.Cond.instantiable C kk).before a0 Z = true) (hty : parseFieldDescriptor d = some ty) (hv : narrow ty v = v') (hf : fits ty v' = true)
    (hd : decode bytes pc = .ok (.putfield i, 3)) (hpc : pc + 3 = pc')
    (K : ∀ T' h', own_S Z n0 bytes y ml ret p l e R s m args below meth c T' k sl h' → Wr h h' a (Jvm.RoadKit.slotOf Z O nm d) v' → own_G p e below Φ T' (mkF m pc' Ls S)) : own_G p e below Φ T (mkF m pc Ls (v :: .ref a :: S)) := by
  obtain ⟨⟨locs, Y, N⟩, hh, hn, hx, hZ, hby, hml, hown, hnm, hret, hlk⟩ := X
  subst hpc
  obtain ⟨T', h', X', e', W', st⟩ := putFN Y hx hZ hown w Via.refl hh F E (L.imp id fun q => ⟨q.1, q.2.1, hnm.trans q.2.2⟩) wi hty hv hf (g := mkF m pc Ls (v :: .ref a :: S)) rfl rfl (hb hby hd)
  exact own_by (K T' h' ⟨⟨_, X', Fr.snoc X' N ha⟩, e', hn, hx, hZ, hby, hml, hown, hnm, hret, hlk⟩ W') st
theorem own_new (X : own_S Z n0 bytes y ml ret p l e R s m args below meth c T k sl h) {i n : Nat} {C : String} (w : (Jvm.Cond.classLink y.cls i C).before a0 Z = true) (wi : (Jvm.Cond.instantiable C n).before a0 Z = true) (wz : (Jvm.Cond.initialized C).before a0 Z = true) (hd : decode bytes pc = .ok (.new i, 3)) (hpc : pc + 3 = pc') (hc : k + 1 ≤ R.cells) (hs : sl + n ≤ R.slots)
    (K : ∀ T' h' a, own_S Z n0 bytes y ml ret p l e R s m args below meth c T' (k + 1) (sl + n) h' → n0 ≤ a → a = h.size → Ext h h' → Exa Z h' a C → (∀ {O nm d : String} {ty : FieldType}, Laid Z a0 C O nm d → parseFieldDescriptor d = some ty → Fld Z h' a O nm d (defaultValue ty)) → own_G p e below Φ T' (mkF m pc' Ls (.ref a :: S))) : own_G p e below Φ T (mkF m pc Ls S) := by
  have hsz := X.size
  obtain ⟨⟨locs, Y, N⟩, hh, hn, hx, hZ, hby, hml, hown, hnm, hret, hlk⟩ := X
  subst hpc
  obtain ⟨T', h', X', e', E', A', D', -, st⟩ := newO Y hx hZ hown w wi wz hh (g := mkF m pc Ls S) rfl (hb hby hd) hc hs
  exact own_by (K T' h' h.size ⟨⟨_, X', N⟩, e', hn, hx, hZ, hby, hml, hown, hnm, hret, hlk⟩ hsz rfl E' A' D') st
def own_A (Z : State) (h : Heap) (a : Addr) (ty : FieldType) (vs : List Int32) : Prop := ∃ cl : Cell, Arr Z h a cl ty ∧ cl.slots.size = vs.length ∧ ∀ j, j < vs.length → cl.slots[j]? = some (.int (vs.getD j 0))
theorem own_A.ext {h' : Heap} {a : Addr} {ty : FieldType} {vs : List Int32} (A : own_A Z h a ty vs) (E : Ext h h') : own_A Z h' a ty vs := by obtain ⟨cl, q, r⟩ := A; exact ⟨cl, q.ext E, r⟩
theorem own_A.other {h' : Heap} {a b : Addr} {ty : FieldType} {vs : List Int32} {i : Nat} {v : Value} (A : own_A Z h b ty vs) (W : Wr h h' a i v) (q : b ≠ a) : own_A Z h' b ty vs := by obtain ⟨cl, r, t⟩ := A; exact ⟨cl, r.other W q, t⟩
theorem own_A.keep {h' : Heap} {a : Addr} {ty : FieldType} {vs : List Int32} {ws : List Addr} (A : own_A Z h a ty vs) (K : Keep h h' ws) (q : a ∉ ws) : own_A Z h' a ty vs := by obtain ⟨cl, r, t⟩ := A; exact ⟨cl, ⟨K.2.1 a cl r.1 q, r.2⟩, t⟩
theorem own_A.lt {a : Addr} {ty : FieldType} {vs : List Int32} (A : own_A Z h a ty vs) : a < h.size := by obtain ⟨cl, q, r⟩ := A; exact q.lt
def own_in (j : Int32) (n : Nat) : Bool := decide (0 ≤ j.toInt) && Nat.blt j.toNatClampNeg n
theorem own_in_not {j : Int32} {n : Nat} (q : own_in j n = true) : j.toNatClampNeg < n ∧ ¬ (j < 0 ∨ n ≤ j.toNatClampNeg) := by
  simp only [own_in, Bool.and_eq_true, decide_eq_true_eq] at q
  have h2 : j.toNatClampNeg < n := Nat.le_of_ble_eq_true q.2
  refine ⟨h2, ?_⟩
  simp only [Int32.lt_iff_toInt_lt, Int32.reduceToInt]
  omega
theorem own_baload (X : own_S Z n0 bytes y ml ret p l e R s m args below meth c T k sl h) {a : Addr} {vs : List Int32} {j v : Int32} (A : own_A Z h a .byte vs) (hj : own_in j vs.length = true) (hv : vs.getD j.toNatClampNeg 0 = v) (hd : decode bytes pc = .ok (.baload, 1)) (hpc : pc + 1 = pc') (K : own_G p e below Φ T (mkF m pc' Ls (.int v :: S))) : own_G p e below Φ T (mkF m pc Ls (.int j :: .ref a :: S)) := by
  obtain ⟨⟨locs, Y, N⟩, hh, hn, hx, hZ, hby, hml, hown, hnm, hret, hlk⟩ := X
  subst hpc
  obtain ⟨cl, q, r, t⟩ := A
  obtain ⟨j1, j2⟩ := own_in_not hj
  exact own_by K fun t' kk => Y.baloadBytes hx (j := j) (v := .int v) (by rw [hh]; exact q.1) (State.isArrayOf_alike hZ.alike q.2.1) q.2.2 (by rw [r]; exact j2) (by rw [t _ j1, hv]) (g := mkF m pc Ls (.int j :: .ref a :: S)) rfl rfl (hb hby hd) t' kk
theorem own_iaload (X : own_S Z n0 bytes y ml ret p l e R s m args below meth c T k sl h) {a : Addr} {vs : List Int32} {j v : Int32} (A : own_A Z h a .int vs) (hj : own_in j vs.length = true) (hv : vs.getD j.toNatClampNeg 0 = v) (hd : decode bytes pc = .ok (.iaload, 1)) (hpc : pc + 1 = pc') (K : own_G p e below Φ T (mkF m pc' Ls (.int v :: S))) : own_G p e below Φ T (mkF m pc Ls (.int j :: .ref a :: S)) := by
  obtain ⟨⟨locs, Y, N⟩, hh, hn, hx, hZ, hby, hml, hown, hnm, hret, hlk⟩ := X
  subst hpc
  obtain ⟨cl, q, r, t⟩ := A
  obtain ⟨j1, j2⟩ := own_in_not hj
  exact own_by K fun t' kk => Y.iaload hx (j := j) (v := .int v) (by rw [hh]; exact q.1) (State.isArrayOf_alike hZ.alike q.2.1) q.2.2 (by rw [r]; exact j2) (by rw [t _ j1, hv]) (g := mkF m pc Ls (.int j :: .ref a :: S)) rfl rfl (hb hby hd) t' kk
theorem own_len (X : own_S Z n0 bytes y ml ret p l e R s m args below meth c T k sl h) {a : Addr} {ty : FieldType} {vs : List Int32} {v : Int32} (A : own_A Z h a ty vs) (hv : vs.length.toInt32 = v) (hd : decode bytes pc = .ok (.arraylength, 1)) (hpc : pc + 1 = pc') (K : own_G p e below Φ T (mkF m pc' Ls (.int v :: S))) : own_G p e below Φ T (mkF m pc Ls (.ref a :: S)) := by
  obtain ⟨⟨locs, Y, N⟩, hh, hn, hx, hZ, hby, hml, hown, hnm, hret, hlk⟩ := X
  subst hpc
  obtain ⟨cl, q, r, t⟩ := A
  exact own_by K fun t' kk => Y.arraylength hx (by rw [hh]; exact q.1) (State.isArrayOf_alike hZ.alike q.2.1) (g := mkF m pc Ls (.ref a :: S)) rfl rfl (hb hby hd) t' (by rw [r, hv]; exact kk)
theorem own_set {h' : Heap} {a : Addr} {ty : FieldType} {vs : List Int32} {i : Nat} {v : Int32} {cl : Cell} (q : Arr Z h a cl ty) (r : cl.slots.size = vs.length) (t : ∀ j, j < vs.length → cl.slots[j]? = some (.int (vs.getD j 0))) (hi : i < vs.length) (W : Wr h h' a i (.int v)) : own_A Z h' a ty (vs.set i v) := by
  refine ⟨cl.setSlot i (.int v), q.same W, by rw [sz_set, r, List.length_set], fun j hj => ?_⟩
  rw [List.length_set] at hj
  have hc : i < cl.slots.size := by rw [r]; exact hi
  show (cl.slots.setIfInBounds i (.int v))[j]? = _
  rw [Array.getElem?_setIfInBounds]
  by_cases e : i = j
  · subst e
    simp [hc, List.getD_eq_getElem?_getD, hi]
  · simp only [e, if_false]
    rw [t j hj]
    simp [List.getD_eq_getElem?_getD, List.getElem?_set, e]
theorem own_bastore (X : own_S Z n0 bytes y ml ret p l e R s m args below meth c T k sl h) {a : Addr} {vs vs' : List Int32} {j v v' : Int32} (A : own_A Z h a .byte vs) (ha : n0 ≤ a) (hj : own_in j vs.length = true) (hv : v.toInt8.toInt32 = v') (hvs : vs.set j.toNatClampNeg v' = vs') (hd : decode bytes pc = .ok (.bastore, 1)) (hpc : pc + 1 = pc')
    (K : ∀ T' h', own_S Z n0 bytes y ml ret p l e R s m args below meth c T' k sl h' → own_A Z h' a .byte vs' → Wr h h' a j.toNatClampNeg (.int v') → own_G p e below Φ T' (mkF m pc' Ls S)) : own_G p e below Φ T (mkF m pc Ls (.int v :: .int j :: .ref a :: S)) := by
  obtain ⟨⟨locs, Y, N⟩, hh, hn, hx, hZ, hby, hml, hown, hnm, hret, hlk⟩ := X
  subst hpc hvs hv
  obtain ⟨cl, q, r, t⟩ := A
  obtain ⟨j1, j2⟩ := own_in_not hj
  obtain ⟨T', h', X', e', W', st⟩ := stB Y hx hZ hh q (j := j) (x := v) (by rw [r]; exact j2) (g := mkF m pc Ls (.int v :: .int j :: .ref a :: S)) rfl rfl (hb hby hd)
  exact own_by (K T' h' ⟨⟨_, X', Fr.snoc X' N ha⟩, e', hn, hx, hZ, hby, hml, hown, hnm, hret, hlk⟩ (own_set q r t j1 W') W') st
theorem own_iastore (X : own_S Z n0 bytes y ml ret p l e R s m args below meth c T k sl h) {a : Addr} {vs vs' : List Int32} {j v : Int32} (A : own_A Z h a .int vs) (ha : n0 ≤ a) (hj : own_in j vs.length = true) (hvs : vs.set j.toNatClampNeg v = vs') (hd : decode bytes pc = .ok (.iastore, 1)) (hpc : pc + 1 = pc')
    (K : ∀ T' h', own_S Z n0 bytes y ml ret p l e R s m args below meth c T' k sl h' → own_A Z h' a .int vs' → Wr h h' a j.toNatClampNeg (.int v) → own_G p e below Φ T' (mkF m pc' Ls S)) : own_G p e below Φ T (mkF m pc Ls (.int v :: .int j :: .ref a :: S)) := by
  obtain ⟨⟨locs, Y, N⟩, hh, hn, hx, hZ, hby, hml, hown, hnm, hret, hlk⟩ := X
  subst hpc hvs
  obtain ⟨cl, q, r, t⟩ := A
  obtain ⟨j1, j2⟩ := own_in_not hj
  obtain ⟨T', h', X', e', W', st⟩ := stI Y hx hZ hh q (j := j) (x := v) (by rw [r]; exact j2) (g := mkF m pc Ls (.int v :: .int j :: .ref a :: S)) rfl rfl (hb hby hd)
  exact own_by (K T' h' ⟨⟨_, X', Fr.snoc X' N ha⟩, e', hn, hx, hZ, hby, hml, hown, hnm, hret, hlk⟩ (own_set q r t j1 W') W') st
theorem own_newarr (X : own_S Z n0 bytes y ml ret p l e R s m args below meth c T k sl h) {aty : ArrayType} {n : Int32} {len : Nat} {vs : List Int32} (w : (Jvm.Cond.arrayClass (newarray.typeOf aty)).before a0 Z = true) (hty : defaultValue (newarray.typeOf aty) = .int 0) (hn0 : ¬ n < 0) (hlen : n.toNatClampNeg = len) (hvs : List.replicate len 0 = vs) (hbig : len * 8 ≤ 536870912) (hd : decode bytes pc = .ok (.newarray aty, 2)) (hpc : pc + 2 = pc') (hc : k + 1 ≤ R.cells) (hs : sl + len ≤ R.slots)
    (K : ∀ T' h' a, own_S Z n0 bytes y ml ret p l e R s m args below meth c T' (k + 1) (sl + len) h' → n0 ≤ a → a = h.size → Ext h h' → own_A Z h' a (newarray.typeOf aty) vs → own_G p e below Φ T' (mkF m pc' Ls (.ref a :: S))) : own_G p e below Φ T (mkF m pc Ls (.int n :: S)) := by
  have hsz := X.size
  obtain ⟨⟨locs, Y, N⟩, hh, hn, hx, hZ, hby, hml, hown, hnm, hret, hlk⟩ := X
  subst hpc hvs hlen
  obtain ⟨T', h', cA, X', e', E', A', st⟩ := newP Y hx hZ w hh (g := mkF m pc Ls (.int n :: S)) rfl (hb hby hd) rfl hn0 (cap := n.toNatClampNeg) (Nat.le_refl _) hbig hc hs
  refine own_by (K T' h' h.size ⟨⟨_, X', N⟩, e', hn, hx, hZ, hby, hml, hown, hnm, hret, hlk⟩ hsz rfl E' ⟨_, A', by rw [sz_new, List.length_replicate], fun j hj => ?_⟩) st
  rw [List.length_replicate] at hj
  simp [newA, hj, hty, List.getD_eq_getElem?_getD]
theorem own_b8 (v : Int32) : (v.toInt8.toInt32).toInt8.toInt32 = v.toInt8.toInt32 := by simp
end OwnKit
def own_u (b : Int32) : Int64 := (b.toInt64 + (256 : Int64)) - ((b.toInt64 + (256 : Int64)) / (256 : Int64)) * (256 : Int64)
def own_gi (c0 c1 c2 c3 : Int32) : Int32 := (((((c0 &&& (255 : Int32)) <<< ((24 : Int32) &&& 31)) ||| ((c1 &&& (255 : Int32)) <<< ((16 : Int32) &&& 31))) ||| ((c2 &&& (255 : Int32)) <<< ((8 : Int32) &&& 31))) ||| (c3 &&& (255 : Int32)))
theorem own_and3 {a v : Int32} (e : a &&& (3 : Int32) = v) : v = 0 ∨ v = 1 ∨ v = 2 ∨ v = 3 := by
  have h := c_mask a 3 2 (by decide) (by decide)
  rw [e] at h
  have k1 : ∀ n : Int32, v = n ↔ v.toInt = n.toInt := fun n => Int32.toInt_inj.symm
  simp only [k1, Int32.reduceToInt]
  omega
theorem own_u_int (b : Int32) (h1 : -128 ≤ b.toInt) (h2 : b.toInt < 128) : (own_u b).toInt = b.toInt % 256 := by
  have e1 : b.toInt64.toInt = b.toInt := c_i2l b
  have e2 := c_ladd b.toInt64 256
  have r2 := rng64 (b.toInt64 + 256)
  have k : (256 : Int64).toInt = 256 := by decide
  rw [k, e1] at e2
  have e3 := c_lrem (b.toInt64 + 256) 256 256 (by decide)
  show ((b.toInt64 + 256) - ((b.toInt64 + 256) / 256) * 256).toInt = _
  omega
theorem own_main (a0 a1 a2 a3 : Int32) : own_gi (a0.toInt8.toInt32) (a1.toInt8.toInt32) (a2.toInt8.toInt32) (a3.toInt8.toInt32) = ((((own_u (a0.toInt8.toInt32) * (16777216 : Int64)) + (own_u (a1.toInt8.toInt32) * (65536 : Int64))) + (own_u (a2.toInt8.toInt32) * (256 : Int64))) + own_u (a3.toInt8.toInt32)).toInt32 := by
  have b0 := c_i2b a0; have b1 := c_i2b a1; have b2 := c_i2b a2; have b3 := c_i2b a3
  generalize a0.toInt8.toInt32 = c0 at *
  generalize a1.toInt8.toInt32 = c1 at *
  generalize a2.toInt8.toInt32 = c2 at *
  generalize a3.toInt8.toInt32 = c3 at *
  have u0 := own_u_int c0 b0.2.1 b0.2.2; have u1 := own_u_int c1 b1.2.1 b1.2.2; have u2 := own_u_int c2 b2.2.1 b2.2.2; have u3 := own_u_int c3 b3.2.1 b3.2.2
  have m0 := c_mask c0 255 8 (by decide) (by decide); have m1 := c_mask c1 255 8 (by decide) (by decide); have m2 := c_mask c2 255 8 (by decide) (by decide); have m3 := c_mask c3 255 8 (by decide) (by decide)
  unfold own_gi
  generalize (c0 &&& (255 : Int32)) = d0 at *
  generalize (c1 &&& (255 : Int32)) = d1 at *
  generalize (c2 &&& (255 : Int32)) = d2 at *
  generalize (c3 &&& (255 : Int32)) = d3 at *
  have s0 := c_ishl d0 24 24 (by decide); have s1 := c_ishl d1 16 16 (by decide); have s2 := c_ishl d2 8 8 (by decide)
  generalize d0 <<< ((24 : Int32) &&& 31) = f0 at *
  generalize d1 <<< ((16 : Int32) &&& 31) = f1 at *
  generalize d2 <<< ((8 : Int32) &&& 31) = f2 at *
  have R0 := rng32 f0; have R1 := rng32 f1; have R2 := rng32 f2
  have o1 := c_or f0 f1 24 (by decide) 16777216 (by decide) (by omega) (by omega) (by omega)
  have R01 := rng32 (f0 ||| f1)
  have o2 := c_or (f0 ||| f1) f2 16 (by decide) 65536 (by decide) (by omega) (by omega) (by omega)
  have R02 := rng32 ((f0 ||| f1) ||| f2)
  have o3 := c_or ((f0 ||| f1) ||| f2) d3 8 (by decide) 256 (by decide) (by omega) (by omega) (by omega)
  have R03 := rng32 (((f0 ||| f1) ||| f2) ||| d3)
  have k1 : (16777216 : Int64).toInt = 16777216 := by decide
  have k2 : (65536 : Int64).toInt = 65536 := by decide
  have k3 : (256 : Int64).toInt = 256 := by decide
  have p0 := c_lmul (own_u c0) 16777216; have p1 := c_lmul (own_u c1) 65536; have p2 := c_lmul (own_u c2) 256
  rw [k1] at p0; rw [k2] at p1; rw [k3] at p2
  generalize own_u c0 * (16777216 : Int64) = g0 at *
  generalize own_u c1 * (65536 : Int64) = g1 at *
  generalize own_u c2 * (256 : Int64) = g2 at *
  have q1 := c_ladd g0 g1; have q2 := c_ladd (g0 + g1) g2; have q3 := c_ladd ((g0 + g1) + g2) (own_u c3)
  have q4 := c_l2i (((g0 + g1) + g2) + own_u c3)
  have R4 := rng32 ((((g0 + g1) + g2) + own_u c3).toInt32)
  apply Int32.toInt_inj.mp
  omega
theorem d1_0 : decode method_2_code 0 = .ok (.iload_n 0, 1) := by decide +kernel
theorem d1_1 : decode method_2_code 1 = .ok (.i2l, 1) := by decide +kernel
theorem d1_2 : decode method_2_code 2 = .ok (.ldc2_w 7, 3) := by decide +kernel
theorem d1_5 : decode method_2_code 5 = .ok (.ladd, 1) := by decide +kernel
theorem d1_6 : decode method_2_code 6 = .ok (.ldc2_w 7, 3) := by decide +kernel
theorem d1_9 : decode method_2_code 9 = .ok (.lrem, 1) := by decide +kernel
theorem d1_10 : decode method_2_code 10 = .ok (.lreturn, 1) := by decide +kernel
theorem pn_rm1 : plainFor (⟨"com/example/sheath/sheath/EspGetIntPinLaw", "unsigned", "(B)J"⟩ : MethodName) = true := plainFor_of_name (by first | (simp [plainName, overriddenIn]; done) | decide +kernel)
theorem ef_rm1 (m : MethodId) (x0 : Int32) : entryFrame m #[(.int x0)] 1 = mkF m 0 #[.val (.int x0)] [] := by first | (simp [entryFrame, mkF, argsToLocals, Value.category]; done) | rfl
set_option maxRecDepth 65536 in
set_option maxHeartbeats 4000000 in
theorem rm1 (l : Launch) (Z : State) (a0 : Array Value) (hw : ∀ d ∈ tables_1, d.before a0 Z = true) (n0 : Nat) (b : Int32) (h0 : Heap) (hn0 : n0 ≤ h0.size) :
    own_Met l (⟨"com/example/sheath/sheath/EspGetIntPinLaw", "unsigned", "(B)J"⟩ : MethodName) method_2_code 1 (some .long) ({ frames := 0, cells := 0, slots := 0, locals := 0 } : Room) Z n0 #[(.int b)] h0 (some (.long (own_u b))) (fun h' => h' = h0) := by
  refine own_met pn_rm1 hn0 ?_
  intro p e s m below meth c T X
  refine own_cast (ef_rm1 m b) ?_
  generalize hΦ : own_Q n0 below s _ _ _ = Φ
  refine own_iloadN X (pc' := 1) d1_0 rfl rfl ?_
  refine own_i2l X (r := (b.toInt64)) (pc' := 2) d1_1 rfl rfl ?_
  refine own_ldc2 X (pc' := 5) (hw _ (List.mem_of_getElem? (i := 5) rfl)) d1_2 rfl ?_
  refine own_ladd X (r := ((b.toInt64) + (256 : Int64))) (pc' := 6) d1_5 rfl rfl ?_
  refine own_ldc2 X (pc' := 9) (hw _ (List.mem_of_getElem? (i := 5) rfl)) d1_6 rfl ?_
  refine own_lrem X (r := (((b.toInt64) + (256 : Int64)) - (((b.toInt64) + (256 : Int64)) / (256 : Int64)) * (256 : Int64))) (pc' := 10) d1_9 rfl (by decide) rfl ?_
  subst hΦ
  exact own_retL X d1_10 (by decide) (by decide) rfl rfl
theorem d2_0 : decode prog_2_method_3_code 0 = .ok (.aload_n 0, 1) := by decide +kernel
theorem d2_1 : decode prog_2_method_3_code 1 = .ok (.iload_n 1, 1) := by decide +kernel
theorem d2_2 : decode prog_2_method_3_code 2 = .ok (.baload, 1) := by decide +kernel
theorem d2_3 : decode prog_2_method_3_code 3 = .ok (.sipush 255, 3) := by decide +kernel
theorem d2_6 : decode prog_2_method_3_code 6 = .ok (.iand, 1) := by decide +kernel
theorem d2_7 : decode prog_2_method_3_code 7 = .ok (.bipush 24, 2) := by decide +kernel
theorem d2_9 : decode prog_2_method_3_code 9 = .ok (.ishl, 1) := by decide +kernel
theorem d2_10 : decode prog_2_method_3_code 10 = .ok (.aload_n 0, 1) := by decide +kernel
theorem d2_11 : decode prog_2_method_3_code 11 = .ok (.iload_n 1, 1) := by decide +kernel
theorem d2_12 : decode prog_2_method_3_code 12 = .ok (.iconst 1, 1) := by decide +kernel
theorem d2_13 : decode prog_2_method_3_code 13 = .ok (.iadd, 1) := by decide +kernel
theorem d2_14 : decode prog_2_method_3_code 14 = .ok (.baload, 1) := by decide +kernel
theorem d2_15 : decode prog_2_method_3_code 15 = .ok (.sipush 255, 3) := by decide +kernel
theorem d2_18 : decode prog_2_method_3_code 18 = .ok (.iand, 1) := by decide +kernel
theorem d2_19 : decode prog_2_method_3_code 19 = .ok (.bipush 16, 2) := by decide +kernel
theorem d2_21 : decode prog_2_method_3_code 21 = .ok (.ishl, 1) := by decide +kernel
theorem d2_22 : decode prog_2_method_3_code 22 = .ok (.ior, 1) := by decide +kernel
theorem d2_23 : decode prog_2_method_3_code 23 = .ok (.aload_n 0, 1) := by decide +kernel
theorem d2_24 : decode prog_2_method_3_code 24 = .ok (.iload_n 1, 1) := by decide +kernel
theorem d2_25 : decode prog_2_method_3_code 25 = .ok (.iconst 2, 1) := by decide +kernel
theorem d2_26 : decode prog_2_method_3_code 26 = .ok (.iadd, 1) := by decide +kernel
theorem d2_27 : decode prog_2_method_3_code 27 = .ok (.baload, 1) := by decide +kernel
theorem d2_28 : decode prog_2_method_3_code 28 = .ok (.sipush 255, 3) := by decide +kernel
theorem d2_31 : decode prog_2_method_3_code 31 = .ok (.iand, 1) := by decide +kernel
theorem d2_32 : decode prog_2_method_3_code 32 = .ok (.bipush 8, 2) := by decide +kernel
theorem d2_34 : decode prog_2_method_3_code 34 = .ok (.ishl, 1) := by decide +kernel
theorem d2_35 : decode prog_2_method_3_code 35 = .ok (.ior, 1) := by decide +kernel
theorem d2_36 : decode prog_2_method_3_code 36 = .ok (.aload_n 0, 1) := by decide +kernel
theorem d2_37 : decode prog_2_method_3_code 37 = .ok (.iload_n 1, 1) := by decide +kernel
theorem d2_38 : decode prog_2_method_3_code 38 = .ok (.iconst 3, 1) := by decide +kernel
theorem d2_39 : decode prog_2_method_3_code 39 = .ok (.iadd, 1) := by decide +kernel
theorem d2_40 : decode prog_2_method_3_code 40 = .ok (.baload, 1) := by decide +kernel
theorem d2_41 : decode prog_2_method_3_code 41 = .ok (.sipush 255, 3) := by decide +kernel
theorem d2_44 : decode prog_2_method_3_code 44 = .ok (.iand, 1) := by decide +kernel
theorem d2_45 : decode prog_2_method_3_code 45 = .ok (.ior, 1) := by decide +kernel
theorem d2_46 : decode prog_2_method_3_code 46 = .ok (.ireturn, 1) := by decide +kernel
theorem pn_rm2 : plainFor (⟨"com/example/sheath/sheath/Esp", "getInt", "([BI)I"⟩ : MethodName) = true := plainFor_of_name (by first | (simp [plainName, overriddenIn]; done) | decide +kernel)
theorem ef_rm2 (m : MethodId) (x0 : Addr) (x1 : Int32) : entryFrame m #[(.ref x0), (.int x1)] 2 = mkF m 0 #[.val (.ref x0), .val (.int x1)] [] := by first | (simp [entryFrame, mkF, argsToLocals, Value.category]; done) | rfl
set_option maxRecDepth 65536 in
set_option maxHeartbeats 4000000 in
theorem rm2 (l : Launch) (Z : State) (a0 : Array Value) (hw : ∀ d ∈ tables_1, d.before a0 Z = true) (n0 : Nat) (a : Addr) (j : Int32) (h0 : Heap) (hn0 : n0 ≤ h0.size) (vs : List Int32) (A : own_A Z h0 a .byte vs) (c0 c1 c2 c3 : Int32) (g0 : own_in j vs.length = true) (f0 : vs.getD (j).toNatClampNeg 0 = c0) (g1 : own_in (j + (1 : Int32)) vs.length = true) (f1 : vs.getD ((j + (1 : Int32))).toNatClampNeg 0 = c1) (g2 : own_in (j + (2 : Int32)) vs.length = true) (f2 : vs.getD ((j + (2 : Int32))).toNatClampNeg 0 = c2) (g3 : own_in (j + (3 : Int32)) vs.length = true) (f3 : vs.getD ((j + (3 : Int32))).toNatClampNeg 0 = c3) :
    own_Met l (⟨"com/example/sheath/sheath/Esp", "getInt", "([BI)I"⟩ : MethodName) prog_2_method_3_code 2 (some .int) ({ frames := 0, cells := 0, slots := 0, locals := 0 } : Room) Z n0 #[(.ref a), (.int j)] h0 (some (.int (own_gi c0 c1 c2 c3))) (fun h' => h' = h0) := by
  refine own_met pn_rm2 hn0 ?_
  intro p e s m below meth c T X
  refine own_cast (ef_rm2 m a j) ?_
  generalize hΦ : own_Q n0 below s _ _ _ = Φ
  refine own_aloadN X (pc' := 1) d2_0 rfl rfl rfl ?_
  refine own_iloadN X (pc' := 2) d2_1 rfl rfl ?_
  refine own_baload X (v := c0) (pc' := 3) A g0 f0 d2_2 rfl ?_
  refine own_sipush X (v := (255 : Int32)) (pc' := 6) d2_3 rfl (by decide) ?_
  refine own_iand X (r := (c0 &&& (255 : Int32))) (pc' := 7) d2_6 rfl rfl ?_
  refine own_bipush X (v := (24 : Int32)) (pc' := 9) d2_7 rfl (by decide) ?_
  refine own_ishl X (r := ((c0 &&& (255 : Int32)) <<< ((24 : Int32) &&& 31))) (pc' := 10) d2_9 rfl rfl ?_
  refine own_aloadN X (pc' := 11) d2_10 rfl rfl rfl ?_
  refine own_iloadN X (pc' := 12) d2_11 rfl rfl ?_
  refine own_iconst X (v := (1 : Int32)) (pc' := 13) d2_12 rfl (by decide) ?_
  refine own_iadd X (r := (j + (1 : Int32))) (pc' := 14) d2_13 rfl rfl ?_
  refine own_baload X (v := c1) (pc' := 15) A g1 f1 d2_14 rfl ?_
  refine own_sipush X (v := (255 : Int32)) (pc' := 18) d2_15 rfl (by decide) ?_
  refine own_iand X (r := (c1 &&& (255 : Int32))) (pc' := 19) d2_18 rfl rfl ?_
  refine own_bipush X (v := (16 : Int32)) (pc' := 21) d2_19 rfl (by decide) ?_
  refine own_ishl X (r := ((c1 &&& (255 : Int32)) <<< ((16 : Int32) &&& 31))) (pc' := 22) d2_21 rfl rfl ?_
  refine own_ior X (r := (((c0 &&& (255 : Int32)) <<< ((24 : Int32) &&& 31)) ||| ((c1 &&& (255 : Int32)) <<< ((16 : Int32) &&& 31)))) (pc' := 23) d2_22 rfl rfl ?_
  refine own_aloadN X (pc' := 24) d2_23 rfl rfl rfl ?_
  refine own_iloadN X (pc' := 25) d2_24 rfl rfl ?_
  refine own_iconst X (v := (2 : Int32)) (pc' := 26) d2_25 rfl (by decide) ?_
  refine own_iadd X (r := (j + (2 : Int32))) (pc' := 27) d2_26 rfl rfl ?_
  refine own_baload X (v := c2) (pc' := 28) A g2 f2 d2_27 rfl ?_
  refine own_sipush X (v := (255 : Int32)) (pc' := 31) d2_28 rfl (by decide) ?_
  refine own_iand X (r := (c2 &&& (255 : Int32))) (pc' := 32) d2_31 rfl rfl ?_
  refine own_bipush X (v := (8 : Int32)) (pc' := 34) d2_32 rfl (by decide) ?_
  refine own_ishl X (r := ((c2 &&& (255 : Int32)) <<< ((8 : Int32) &&& 31))) (pc' := 35) d2_34 rfl rfl ?_
  refine own_ior X (r := ((((c0 &&& (255 : Int32)) <<< ((24 : Int32) &&& 31)) ||| ((c1 &&& (255 : Int32)) <<< ((16 : Int32) &&& 31))) ||| ((c2 &&& (255 : Int32)) <<< ((8 : Int32) &&& 31)))) (pc' := 36) d2_35 rfl rfl ?_
  refine own_aloadN X (pc' := 37) d2_36 rfl rfl rfl ?_
  refine own_iloadN X (pc' := 38) d2_37 rfl rfl ?_
  refine own_iconst X (v := (3 : Int32)) (pc' := 39) d2_38 rfl (by decide) ?_
  refine own_iadd X (r := (j + (3 : Int32))) (pc' := 40) d2_39 rfl rfl ?_
  refine own_baload X (v := c3) (pc' := 41) A g3 f3 d2_40 rfl ?_
  refine own_sipush X (v := (255 : Int32)) (pc' := 44) d2_41 rfl (by decide) ?_
  refine own_iand X (r := (c3 &&& (255 : Int32))) (pc' := 45) d2_44 rfl rfl ?_
  refine own_ior X (r := (((((c0 &&& (255 : Int32)) <<< ((24 : Int32) &&& 31)) ||| ((c1 &&& (255 : Int32)) <<< ((16 : Int32) &&& 31))) ||| ((c2 &&& (255 : Int32)) <<< ((8 : Int32) &&& 31))) ||| (c3 &&& (255 : Int32)))) (pc' := 46) d2_45 rfl rfl ?_
  subst hΦ
  exact own_retI X d2_46 (by decide) (by decide) rfl rfl
theorem pd_0 : parseMethodDescriptor "(B)J" = some ⟨[.byte], some .long⟩ := by decide +kernel
theorem pd_1 : parseMethodDescriptor "([BI)I" = some ⟨[(.array .byte), .int], some .int⟩ := by decide +kernel
theorem pn_rm0 : plainFor (⟨"com/example/sheath/sheath/EspGetIntPinLaw", "law", "(IIIIII)Z"⟩ : MethodName) = true := plainFor_of_name (by first | (simp [plainName, overriddenIn]; done) | decide +kernel)
theorem ef_rm0 (m : MethodId) (x0 : Int32) (x1 : Int32) (x2 : Int32) (x3 : Int32) (x4 : Int32) (x5 : Int32) : entryFrame m #[(.int x0), (.int x1), (.int x2), (.int x3), (.int x4), (.int x5)] maxLocals = mkF m 0 #[.val (.int x0), .val (.int x1), .val (.int x2), .val (.int x3), .val (.int x4), .val (.int x5), .unset, .unset, .unset, .unset, .unset, .unset] [] := by first | (simp [entryFrame, mkF, argsToLocals, Value.category, maxLocals]; done) | rfl
set_option maxRecDepth 65536 in
set_option maxHeartbeats 4000000 in
theorem rm0 (l : Launch) (Z : State) (a0 : Array Value) (hw : ∀ d ∈ tables_1, d.before a0 Z = true) (n0 : Nat) (b0 : Int32) (b1 : Int32) (b2 : Int32) (b3 : Int32) (filler : Int32) (off : Int32) (h0 : Heap) (hn0 : n0 ≤ h0.size) :
    own_Met l x code maxLocals ret room_1 Z n0 #[(.int b0), (.int b1), (.int b2), (.int b3), (.int filler), (.int off)] h0 (some (.int 1)) (fun _ => True) := by
  refine own_met pn_rm0 hn0 ?_
  intro p e s m below meth c T X
  refine own_cast (ef_rm0 m b0 b1 b2 b3 filler off) ?_
  change own_S Z n0 code x 12 ret p l e room_1 s m _ below meth c T 0 0 h0 at X
  generalize hΦ : own_Q n0 below s _ _ _ = Φ
  refine own_iload X (pc' := 2) at_0 rfl rfl ?_
  refine own_iconst X (v := (3 : Int32)) (pc' := 3) at_2 rfl (by decide) ?_
  refine own_iand X (r := (off &&& (3 : Int32))) (pc' := 4) at_3 rfl rfl ?_
  refine own_istore X (pc' := 6) (Ls' := #[.val (.int b0), .val (.int b1), .val (.int b2), .val (.int b3), .val (.int filler), .val (.int off), .val (.int (off &&& (3 : Int32))), .unset, .unset, .unset, .unset, .unset]) at_4 rfl rfl ?_
  generalize e1 : (off &&& (3 : Int32)) = v1
  rcases own_and3 e1 with rfl | rfl | rfl | rfl
  · refine own_iload X (pc' := 8) at_6 rfl rfl ?_
    refine own_i2b X (r := (filler.toInt8.toInt32)) (pc' := 9) at_8 rfl rfl ?_
    refine own_istore X (pc' := 11) (Ls' := #[.val (.int b0), .val (.int b1), .val (.int b2), .val (.int b3), .val (.int filler), .val (.int off), .val (.int (0 : Int32)), .val (.int (filler.toInt8.toInt32)), .unset, .unset, .unset, .unset]) at_9 rfl rfl ?_
    refine own_bipush X (v := (7 : Int32)) (pc' := 13) at_11 rfl (by decide) ?_
    refine own_newarr X (len := 7) (vs := [0, 0, 0, 0, 0, 0, 0]) (pc' := 15) (hw _ (List.mem_of_getElem? (i := 0) rfl)) rfl (by decide) (by decide) rfl (by decide) at_13 rfl (by decide) (by decide) ?_
    intro T2 h2 ad2 X2 ge_ad2 g_ad2 E2 A2
    refine own_astore X2 (pc' := 17) (Ls' := #[.val (.int b0), .val (.int b1), .val (.int b2), .val (.int b3), .val (.int filler), .val (.int off), .val (.int (0 : Int32)), .val (.int (filler.toInt8.toInt32)), .val (.ref ad2), .unset, .unset, .unset]) at_15 rfl rfl rfl ?_
    refine own_aload X2 (pc' := 19) at_17 rfl rfl rfl ?_
    refine own_iconst X2 (v := (0 : Int32)) (pc' := 20) at_19 rfl (by decide) ?_
    refine own_iload X2 (pc' := 22) at_20 rfl rfl ?_
    refine own_bastore X2 (vs' := [(filler.toInt8.toInt32), (0 : Int32), (0 : Int32), (0 : Int32), (0 : Int32), (0 : Int32), (0 : Int32)]) (pc' := 23) A2 ge_ad2 rfl (own_b8 _) rfl at_22 rfl ?_
    intro T3 h3 X3 A3 W3
    refine own_aload X3 (pc' := 25) at_23 rfl rfl rfl ?_
    refine own_iconst X3 (v := (1 : Int32)) (pc' := 26) at_25 rfl (by decide) ?_
    refine own_iload X3 (pc' := 28) at_26 rfl rfl ?_
    refine own_bastore X3 (vs' := [(filler.toInt8.toInt32), (filler.toInt8.toInt32), (0 : Int32), (0 : Int32), (0 : Int32), (0 : Int32), (0 : Int32)]) (pc' := 29) A3 ge_ad2 rfl (own_b8 _) rfl at_28 rfl ?_
    intro T4 h4 X4 A4 W4
    refine own_aload X4 (pc' := 31) at_29 rfl rfl rfl ?_
    refine own_iconst X4 (v := (2 : Int32)) (pc' := 32) at_31 rfl (by decide) ?_
    refine own_iload X4 (pc' := 34) at_32 rfl rfl ?_
    refine own_bastore X4 (vs' := [(filler.toInt8.toInt32), (filler.toInt8.toInt32), (filler.toInt8.toInt32), (0 : Int32), (0 : Int32), (0 : Int32), (0 : Int32)]) (pc' := 35) A4 ge_ad2 rfl (own_b8 _) rfl at_34 rfl ?_
    intro T5 h5 X5 A5 W5
    refine own_aload X5 (pc' := 37) at_35 rfl rfl rfl ?_
    refine own_iconst X5 (v := (3 : Int32)) (pc' := 38) at_37 rfl (by decide) ?_
    refine own_iload X5 (pc' := 40) at_38 rfl rfl ?_
    refine own_bastore X5 (vs' := [(filler.toInt8.toInt32), (filler.toInt8.toInt32), (filler.toInt8.toInt32), (filler.toInt8.toInt32), (0 : Int32), (0 : Int32), (0 : Int32)]) (pc' := 41) A5 ge_ad2 rfl (own_b8 _) rfl at_40 rfl ?_
    intro T6 h6 X6 A6 W6
    refine own_aload X6 (pc' := 43) at_41 rfl rfl rfl ?_
    refine own_iconst X6 (v := (4 : Int32)) (pc' := 44) at_43 rfl (by decide) ?_
    refine own_iload X6 (pc' := 46) at_44 rfl rfl ?_
    refine own_bastore X6 (vs' := [(filler.toInt8.toInt32), (filler.toInt8.toInt32), (filler.toInt8.toInt32), (filler.toInt8.toInt32), (filler.toInt8.toInt32), (0 : Int32), (0 : Int32)]) (pc' := 47) A6 ge_ad2 rfl (own_b8 _) rfl at_46 rfl ?_
    intro T7 h7 X7 A7 W7
    refine own_aload X7 (pc' := 49) at_47 rfl rfl rfl ?_
    refine own_iconst X7 (v := (5 : Int32)) (pc' := 50) at_49 rfl (by decide) ?_
    refine own_iload X7 (pc' := 52) at_50 rfl rfl ?_
    refine own_bastore X7 (vs' := [(filler.toInt8.toInt32), (filler.toInt8.toInt32), (filler.toInt8.toInt32), (filler.toInt8.toInt32), (filler.toInt8.toInt32), (filler.toInt8.toInt32), (0 : Int32)]) (pc' := 53) A7 ge_ad2 rfl (own_b8 _) rfl at_52 rfl ?_
    intro T8 h8 X8 A8 W8
    refine own_aload X8 (pc' := 55) at_53 rfl rfl rfl ?_
    refine own_bipush X8 (v := (6 : Int32)) (pc' := 57) at_55 rfl (by decide) ?_
    refine own_iload X8 (pc' := 59) at_57 rfl rfl ?_
    refine own_bastore X8 (vs' := [(filler.toInt8.toInt32), (filler.toInt8.toInt32), (filler.toInt8.toInt32), (filler.toInt8.toInt32), (filler.toInt8.toInt32), (filler.toInt8.toInt32), (filler.toInt8.toInt32)]) (pc' := 60) A8 ge_ad2 rfl (own_b8 _) rfl at_59 rfl ?_
    intro T9 h9 X9 A9 W9
    refine own_aload X9 (pc' := 62) at_60 rfl rfl rfl ?_
    refine own_iload X9 (pc' := 64) at_62 rfl rfl ?_
    refine own_iloadN X9 (pc' := 65) at_64 rfl rfl ?_
    refine own_i2b X9 (r := (b0.toInt8.toInt32)) (pc' := 66) at_65 rfl rfl ?_
    refine own_bastore X9 (vs' := [(b0.toInt8.toInt32), (filler.toInt8.toInt32), (filler.toInt8.toInt32), (filler.toInt8.toInt32), (filler.toInt8.toInt32), (filler.toInt8.toInt32), (filler.toInt8.toInt32)]) (pc' := 67) A9 ge_ad2 rfl (own_b8 _) rfl at_66 rfl ?_
    intro T10 h10 X10 A10 W10
    refine own_aload X10 (pc' := 69) at_67 rfl rfl rfl ?_
    refine own_iload X10 (pc' := 71) at_69 rfl rfl ?_
    refine own_iconst X10 (v := (1 : Int32)) (pc' := 72) at_71 rfl (by decide) ?_
    refine own_iadd X10 (r := (1 : Int32)) (pc' := 73) at_72 rfl (by decide) ?_
    refine own_iloadN X10 (pc' := 74) at_73 rfl rfl ?_
    refine own_i2b X10 (r := (b1.toInt8.toInt32)) (pc' := 75) at_74 rfl rfl ?_
    refine own_bastore X10 (vs' := [(b0.toInt8.toInt32), (b1.toInt8.toInt32), (filler.toInt8.toInt32), (filler.toInt8.toInt32), (filler.toInt8.toInt32), (filler.toInt8.toInt32), (filler.toInt8.toInt32)]) (pc' := 76) A10 ge_ad2 rfl (own_b8 _) rfl at_75 rfl ?_
    intro T11 h11 X11 A11 W11
    refine own_aload X11 (pc' := 78) at_76 rfl rfl rfl ?_
    refine own_iload X11 (pc' := 80) at_78 rfl rfl ?_
    refine own_iconst X11 (v := (2 : Int32)) (pc' := 81) at_80 rfl (by decide) ?_
    refine own_iadd X11 (r := (2 : Int32)) (pc' := 82) at_81 rfl (by decide) ?_
    refine own_iloadN X11 (pc' := 83) at_82 rfl rfl ?_
    refine own_i2b X11 (r := (b2.toInt8.toInt32)) (pc' := 84) at_83 rfl rfl ?_
    refine own_bastore X11 (vs' := [(b0.toInt8.toInt32), (b1.toInt8.toInt32), (b2.toInt8.toInt32), (filler.toInt8.toInt32), (filler.toInt8.toInt32), (filler.toInt8.toInt32), (filler.toInt8.toInt32)]) (pc' := 85) A11 ge_ad2 rfl (own_b8 _) rfl at_84 rfl ?_
    intro T12 h12 X12 A12 W12
    refine own_aload X12 (pc' := 87) at_85 rfl rfl rfl ?_
    refine own_iload X12 (pc' := 89) at_87 rfl rfl ?_
    refine own_iconst X12 (v := (3 : Int32)) (pc' := 90) at_89 rfl (by decide) ?_
    refine own_iadd X12 (r := (3 : Int32)) (pc' := 91) at_90 rfl (by decide) ?_
    refine own_iloadN X12 (pc' := 92) at_91 rfl rfl ?_
    refine own_i2b X12 (r := (b3.toInt8.toInt32)) (pc' := 93) at_92 rfl rfl ?_
    refine own_bastore X12 (vs' := [(b0.toInt8.toInt32), (b1.toInt8.toInt32), (b2.toInt8.toInt32), (b3.toInt8.toInt32), (filler.toInt8.toInt32), (filler.toInt8.toInt32), (filler.toInt8.toInt32)]) (pc' := 94) A12 ge_ad2 rfl (own_b8 _) rfl at_93 rfl ?_
    intro T13 h13 X13 A13 W13
    refine own_iloadN X13 (pc' := 95) at_94 rfl rfl ?_
    refine own_i2b X13 (r := (b0.toInt8.toInt32)) (pc' := 96) at_95 rfl rfl ?_
    refine own_callS X13 (W := 0) (argsL := [(.int (b0.toInt8.toInt32))]) (rest := []) (S' := [(.long (own_u (b0.toInt8.toInt32)))]) (pc' := 99) (rm1 l Z a0 hw n0 (b0.toInt8.toInt32) h13 X13.size) (hw _ (List.mem_of_getElem? (i := 1) rfl)) (hw _ (List.mem_of_getElem? (i := 2) rfl)) (hw _ (List.mem_of_getElem? (i := 3) rfl)) (hw _ (List.mem_of_getElem? (i := 4) rfl)) (by decide) (by decide) (by decide) rfl rfl (by decide) (by decide) (lenOf pd_0 rfl) rfl (by first | decide | exact Nat.le_of_eq rfl) rfl at_96 rfl rfl ?_
    intro T14 h14 X14 qq14
    rw [show h14 = h13 from qq14] at X14
    refine own_ldc2 X14 (pc' := 102) (hw _ (List.mem_of_getElem? (i := 6) rfl)) at_99 rfl ?_
    refine own_lmul X14 (r := ((own_u (b0.toInt8.toInt32)) * (16777216 : Int64))) (pc' := 103) at_102 rfl rfl ?_
    refine own_iloadN X14 (pc' := 104) at_103 rfl rfl ?_
    refine own_i2b X14 (r := (b1.toInt8.toInt32)) (pc' := 105) at_104 rfl rfl ?_
    refine own_callS X14 (W := 2) (argsL := [(.int (b1.toInt8.toInt32))]) (rest := [(.long ((own_u (b0.toInt8.toInt32)) * (16777216 : Int64)))]) (S' := [(.long (own_u (b1.toInt8.toInt32))), (.long ((own_u (b0.toInt8.toInt32)) * (16777216 : Int64)))]) (pc' := 108) (rm1 l Z a0 hw n0 (b1.toInt8.toInt32) h13 X14.size) (hw _ (List.mem_of_getElem? (i := 1) rfl)) (hw _ (List.mem_of_getElem? (i := 2) rfl)) (hw _ (List.mem_of_getElem? (i := 3) rfl)) (hw _ (List.mem_of_getElem? (i := 4) rfl)) (by decide) (by decide) (by decide) rfl rfl (by decide) (by decide) (lenOf pd_0 rfl) rfl (by first | decide | exact Nat.le_of_eq rfl) rfl at_105 rfl rfl ?_
    intro T15 h15 X15 qq15
    rw [show h15 = h13 from qq15] at X15
    refine own_ldc2 X15 (pc' := 111) (hw _ (List.mem_of_getElem? (i := 7) rfl)) at_108 rfl ?_
    refine own_lmul X15 (r := ((own_u (b1.toInt8.toInt32)) * (65536 : Int64))) (pc' := 112) at_111 rfl rfl ?_
    refine own_ladd X15 (r := (((own_u (b0.toInt8.toInt32)) * (16777216 : Int64)) + ((own_u (b1.toInt8.toInt32)) * (65536 : Int64)))) (pc' := 113) at_112 rfl rfl ?_
    refine own_iloadN X15 (pc' := 114) at_113 rfl rfl ?_
    refine own_i2b X15 (r := (b2.toInt8.toInt32)) (pc' := 115) at_114 rfl rfl ?_
    refine own_callS X15 (W := 2) (argsL := [(.int (b2.toInt8.toInt32))]) (rest := [(.long (((own_u (b0.toInt8.toInt32)) * (16777216 : Int64)) + ((own_u (b1.toInt8.toInt32)) * (65536 : Int64))))]) (S' := [(.long (own_u (b2.toInt8.toInt32))), (.long (((own_u (b0.toInt8.toInt32)) * (16777216 : Int64)) + ((own_u (b1.toInt8.toInt32)) * (65536 : Int64))))]) (pc' := 118) (rm1 l Z a0 hw n0 (b2.toInt8.toInt32) h13 X15.size) (hw _ (List.mem_of_getElem? (i := 1) rfl)) (hw _ (List.mem_of_getElem? (i := 2) rfl)) (hw _ (List.mem_of_getElem? (i := 3) rfl)) (hw _ (List.mem_of_getElem? (i := 4) rfl)) (by decide) (by decide) (by decide) rfl rfl (by decide) (by decide) (lenOf pd_0 rfl) rfl (by first | decide | exact Nat.le_of_eq rfl) rfl at_115 rfl rfl ?_
    intro T16 h16 X16 qq16
    rw [show h16 = h13 from qq16] at X16
    refine own_ldc2 X16 (pc' := 121) (hw _ (List.mem_of_getElem? (i := 5) rfl)) at_118 rfl ?_
    refine own_lmul X16 (r := ((own_u (b2.toInt8.toInt32)) * (256 : Int64))) (pc' := 122) at_121 rfl rfl ?_
    refine own_ladd X16 (r := ((((own_u (b0.toInt8.toInt32)) * (16777216 : Int64)) + ((own_u (b1.toInt8.toInt32)) * (65536 : Int64))) + ((own_u (b2.toInt8.toInt32)) * (256 : Int64)))) (pc' := 123) at_122 rfl rfl ?_
    refine own_iloadN X16 (pc' := 124) at_123 rfl rfl ?_
    refine own_i2b X16 (r := (b3.toInt8.toInt32)) (pc' := 125) at_124 rfl rfl ?_
    refine own_callS X16 (W := 2) (argsL := [(.int (b3.toInt8.toInt32))]) (rest := [(.long ((((own_u (b0.toInt8.toInt32)) * (16777216 : Int64)) + ((own_u (b1.toInt8.toInt32)) * (65536 : Int64))) + ((own_u (b2.toInt8.toInt32)) * (256 : Int64))))]) (S' := [(.long (own_u (b3.toInt8.toInt32))), (.long ((((own_u (b0.toInt8.toInt32)) * (16777216 : Int64)) + ((own_u (b1.toInt8.toInt32)) * (65536 : Int64))) + ((own_u (b2.toInt8.toInt32)) * (256 : Int64))))]) (pc' := 128) (rm1 l Z a0 hw n0 (b3.toInt8.toInt32) h13 X16.size) (hw _ (List.mem_of_getElem? (i := 1) rfl)) (hw _ (List.mem_of_getElem? (i := 2) rfl)) (hw _ (List.mem_of_getElem? (i := 3) rfl)) (hw _ (List.mem_of_getElem? (i := 4) rfl)) (by decide) (by decide) (by decide) rfl rfl (by decide) (by decide) (lenOf pd_0 rfl) rfl (by first | decide | exact Nat.le_of_eq rfl) rfl at_125 rfl rfl ?_
    intro T17 h17 X17 qq17
    rw [show h17 = h13 from qq17] at X17
    refine own_ladd X17 (r := (((((own_u (b0.toInt8.toInt32)) * (16777216 : Int64)) + ((own_u (b1.toInt8.toInt32)) * (65536 : Int64))) + ((own_u (b2.toInt8.toInt32)) * (256 : Int64))) + (own_u (b3.toInt8.toInt32)))) (pc' := 129) at_128 rfl rfl ?_
    refine own_lstore X17 (pc' := 131) (Ls' := #[.val (.int b0), .val (.int b1), .val (.int b2), .val (.int b3), .val (.int filler), .val (.int off), .val (.int (0 : Int32)), .val (.int (filler.toInt8.toInt32)), .val (.ref ad2), .val (.long (((((own_u (b0.toInt8.toInt32)) * (16777216 : Int64)) + ((own_u (b1.toInt8.toInt32)) * (65536 : Int64))) + ((own_u (b2.toInt8.toInt32)) * (256 : Int64))) + (own_u (b3.toInt8.toInt32)))), .second, .unset]) at_129 rfl rfl ?_
    refine own_lload X17 (pc' := 133) at_131 rfl rfl ?_
    refine own_l2i X17 (r := ((((((own_u (b0.toInt8.toInt32)) * (16777216 : Int64)) + ((own_u (b1.toInt8.toInt32)) * (65536 : Int64))) + ((own_u (b2.toInt8.toInt32)) * (256 : Int64))) + (own_u (b3.toInt8.toInt32))).toInt32)) (pc' := 134) at_133 rfl rfl ?_
    refine own_istore X17 (pc' := 136) (Ls' := #[.val (.int b0), .val (.int b1), .val (.int b2), .val (.int b3), .val (.int filler), .val (.int off), .val (.int (0 : Int32)), .val (.int (filler.toInt8.toInt32)), .val (.ref ad2), .val (.long (((((own_u (b0.toInt8.toInt32)) * (16777216 : Int64)) + ((own_u (b1.toInt8.toInt32)) * (65536 : Int64))) + ((own_u (b2.toInt8.toInt32)) * (256 : Int64))) + (own_u (b3.toInt8.toInt32)))), .second, .val (.int ((((((own_u (b0.toInt8.toInt32)) * (16777216 : Int64)) + ((own_u (b1.toInt8.toInt32)) * (65536 : Int64))) + ((own_u (b2.toInt8.toInt32)) * (256 : Int64))) + (own_u (b3.toInt8.toInt32))).toInt32))]) at_134 rfl rfl ?_
    refine own_aload X17 (pc' := 138) at_136 rfl rfl rfl ?_
    refine own_iload X17 (pc' := 140) at_138 rfl rfl ?_
    refine own_callS X17 (W := 0) (argsL := [(.ref ad2), (.int (0 : Int32))]) (rest := []) (S' := [(.int (own_gi (b0.toInt8.toInt32) (b1.toInt8.toInt32) (b2.toInt8.toInt32) (b3.toInt8.toInt32)))]) (pc' := 143) (rm2 l Z a0 hw n0 ad2 (0 : Int32) h13 X17.size _ A13 (b0.toInt8.toInt32) (b1.toInt8.toInt32) (b2.toInt8.toInt32) (b3.toInt8.toInt32) rfl rfl rfl rfl rfl rfl rfl rfl) (hw _ (List.mem_of_getElem? (i := 8) rfl)) (hw _ (List.mem_of_getElem? (i := 9) rfl)) (hw _ (List.mem_of_getElem? (i := 10) rfl)) (hw _ (List.mem_of_getElem? (i := 11) rfl)) (by decide) (by decide) (by decide) rfl rfl (by decide) (by decide) (lenOf pd_1 rfl) rfl (by first | decide | exact Nat.le_of_eq rfl) rfl at_140 rfl rfl ?_
    intro T18 h18 X18 qq18
    rw [show h18 = h13 from qq18] at X18
    refine own_iload X18 (pc' := 145) at_143 rfl rfl ?_
    refine own_icmp_ne X18 (pct := 152) (pc' := 148) at_145 rfl (by decide) (by decide) (fun hc => absurd hc (by rw [own_main]; simp)) (fun _ => ?_)
    refine own_iconst X18 (v := (1 : Int32)) (pc' := 149) at_148 rfl (by decide) ?_
    refine own_goto X18 (pc' := 153) at_149 (by decide) (by decide) ?_
    subst hΦ
    exact own_retZ X18 at_153 (by decide) (by decide) (by decide) rfl trivial
  · refine own_iload X (pc' := 8) at_6 rfl rfl ?_
    refine own_i2b X (r := (filler.toInt8.toInt32)) (pc' := 9) at_8 rfl rfl ?_
    refine own_istore X (pc' := 11) (Ls' := #[.val (.int b0), .val (.int b1), .val (.int b2), .val (.int b3), .val (.int filler), .val (.int off), .val (.int (1 : Int32)), .val (.int (filler.toInt8.toInt32)), .unset, .unset, .unset, .unset]) at_9 rfl rfl ?_
    refine own_bipush X (v := (7 : Int32)) (pc' := 13) at_11 rfl (by decide) ?_
    refine own_newarr X (len := 7) (vs := [0, 0, 0, 0, 0, 0, 0]) (pc' := 15) (hw _ (List.mem_of_getElem? (i := 0) rfl)) rfl (by decide) (by decide) rfl (by decide) at_13 rfl (by decide) (by decide) ?_
    intro T19 h19 ad19 X19 ge_ad19 g_ad19 E19 A19
    refine own_astore X19 (pc' := 17) (Ls' := #[.val (.int b0), .val (.int b1), .val (.int b2), .val (.int b3), .val (.int filler), .val (.int off), .val (.int (1 : Int32)), .val (.int (filler.toInt8.toInt32)), .val (.ref ad19), .unset, .unset, .unset]) at_15 rfl rfl rfl ?_
    refine own_aload X19 (pc' := 19) at_17 rfl rfl rfl ?_
    refine own_iconst X19 (v := (0 : Int32)) (pc' := 20) at_19 rfl (by decide) ?_
    refine own_iload X19 (pc' := 22) at_20 rfl rfl ?_
    refine own_bastore X19 (vs' := [(filler.toInt8.toInt32), (0 : Int32), (0 : Int32), (0 : Int32), (0 : Int32), (0 : Int32), (0 : Int32)]) (pc' := 23) A19 ge_ad19 rfl (own_b8 _) rfl at_22 rfl ?_
    intro T20 h20 X20 A20 W20
    refine own_aload X20 (pc' := 25) at_23 rfl rfl rfl ?_
    refine own_iconst X20 (v := (1 : Int32)) (pc' := 26) at_25 rfl (by decide) ?_
    refine own_iload X20 (pc' := 28) at_26 rfl rfl ?_
    refine own_bastore X20 (vs' := [(filler.toInt8.toInt32), (filler.toInt8.toInt32), (0 : Int32), (0 : Int32), (0 : Int32), (0 : Int32), (0 : Int32)]) (pc' := 29) A20 ge_ad19 rfl (own_b8 _) rfl at_28 rfl ?_
    intro T21 h21 X21 A21 W21
    refine own_aload X21 (pc' := 31) at_29 rfl rfl rfl ?_
    refine own_iconst X21 (v := (2 : Int32)) (pc' := 32) at_31 rfl (by decide) ?_
    refine own_iload X21 (pc' := 34) at_32 rfl rfl ?_
    refine own_bastore X21 (vs' := [(filler.toInt8.toInt32), (filler.toInt8.toInt32), (filler.toInt8.toInt32), (0 : Int32), (0 : Int32), (0 : Int32), (0 : Int32)]) (pc' := 35) A21 ge_ad19 rfl (own_b8 _) rfl at_34 rfl ?_
    intro T22 h22 X22 A22 W22
    refine own_aload X22 (pc' := 37) at_35 rfl rfl rfl ?_
    refine own_iconst X22 (v := (3 : Int32)) (pc' := 38) at_37 rfl (by decide) ?_
    refine own_iload X22 (pc' := 40) at_38 rfl rfl ?_
    refine own_bastore X22 (vs' := [(filler.toInt8.toInt32), (filler.toInt8.toInt32), (filler.toInt8.toInt32), (filler.toInt8.toInt32), (0 : Int32), (0 : Int32), (0 : Int32)]) (pc' := 41) A22 ge_ad19 rfl (own_b8 _) rfl at_40 rfl ?_
    intro T23 h23 X23 A23 W23
    refine own_aload X23 (pc' := 43) at_41 rfl rfl rfl ?_
    refine own_iconst X23 (v := (4 : Int32)) (pc' := 44) at_43 rfl (by decide) ?_
    refine own_iload X23 (pc' := 46) at_44 rfl rfl ?_
    refine own_bastore X23 (vs' := [(filler.toInt8.toInt32), (filler.toInt8.toInt32), (filler.toInt8.toInt32), (filler.toInt8.toInt32), (filler.toInt8.toInt32), (0 : Int32), (0 : Int32)]) (pc' := 47) A23 ge_ad19 rfl (own_b8 _) rfl at_46 rfl ?_
    intro T24 h24 X24 A24 W24
    refine own_aload X24 (pc' := 49) at_47 rfl rfl rfl ?_
    refine own_iconst X24 (v := (5 : Int32)) (pc' := 50) at_49 rfl (by decide) ?_
    refine own_iload X24 (pc' := 52) at_50 rfl rfl ?_
    refine own_bastore X24 (vs' := [(filler.toInt8.toInt32), (filler.toInt8.toInt32), (filler.toInt8.toInt32), (filler.toInt8.toInt32), (filler.toInt8.toInt32), (filler.toInt8.toInt32), (0 : Int32)]) (pc' := 53) A24 ge_ad19 rfl (own_b8 _) rfl at_52 rfl ?_
    intro T25 h25 X25 A25 W25
    refine own_aload X25 (pc' := 55) at_53 rfl rfl rfl ?_
    refine own_bipush X25 (v := (6 : Int32)) (pc' := 57) at_55 rfl (by decide) ?_
    refine own_iload X25 (pc' := 59) at_57 rfl rfl ?_
    refine own_bastore X25 (vs' := [(filler.toInt8.toInt32), (filler.toInt8.toInt32), (filler.toInt8.toInt32), (filler.toInt8.toInt32), (filler.toInt8.toInt32), (filler.toInt8.toInt32), (filler.toInt8.toInt32)]) (pc' := 60) A25 ge_ad19 rfl (own_b8 _) rfl at_59 rfl ?_
    intro T26 h26 X26 A26 W26
    refine own_aload X26 (pc' := 62) at_60 rfl rfl rfl ?_
    refine own_iload X26 (pc' := 64) at_62 rfl rfl ?_
    refine own_iloadN X26 (pc' := 65) at_64 rfl rfl ?_
    refine own_i2b X26 (r := (b0.toInt8.toInt32)) (pc' := 66) at_65 rfl rfl ?_
    refine own_bastore X26 (vs' := [(filler.toInt8.toInt32), (b0.toInt8.toInt32), (filler.toInt8.toInt32), (filler.toInt8.toInt32), (filler.toInt8.toInt32), (filler.toInt8.toInt32), (filler.toInt8.toInt32)]) (pc' := 67) A26 ge_ad19 rfl (own_b8 _) rfl at_66 rfl ?_
    intro T27 h27 X27 A27 W27
    refine own_aload X27 (pc' := 69) at_67 rfl rfl rfl ?_
    refine own_iload X27 (pc' := 71) at_69 rfl rfl ?_
    refine own_iconst X27 (v := (1 : Int32)) (pc' := 72) at_71 rfl (by decide) ?_
    refine own_iadd X27 (r := (2 : Int32)) (pc' := 73) at_72 rfl (by decide) ?_
    refine own_iloadN X27 (pc' := 74) at_73 rfl rfl ?_
    refine own_i2b X27 (r := (b1.toInt8.toInt32)) (pc' := 75) at_74 rfl rfl ?_
    refine own_bastore X27 (vs' := [(filler.toInt8.toInt32), (b0.toInt8.toInt32), (b1.toInt8.toInt32), (filler.toInt8.toInt32), (filler.toInt8.toInt32), (filler.toInt8.toInt32), (filler.toInt8.toInt32)]) (pc' := 76) A27 ge_ad19 rfl (own_b8 _) rfl at_75 rfl ?_
    intro T28 h28 X28 A28 W28
    refine own_aload X28 (pc' := 78) at_76 rfl rfl rfl ?_
    refine own_iload X28 (pc' := 80) at_78 rfl rfl ?_
    refine own_iconst X28 (v := (2 : Int32)) (pc' := 81) at_80 rfl (by decide) ?_
    refine own_iadd X28 (r := (3 : Int32)) (pc' := 82) at_81 rfl (by decide) ?_
    refine own_iloadN X28 (pc' := 83) at_82 rfl rfl ?_
    refine own_i2b X28 (r := (b2.toInt8.toInt32)) (pc' := 84) at_83 rfl rfl ?_
    refine own_bastore X28 (vs' := [(filler.toInt8.toInt32), (b0.toInt8.toInt32), (b1.toInt8.toInt32), (b2.toInt8.toInt32), (filler.toInt8.toInt32), (filler.toInt8.toInt32), (filler.toInt8.toInt32)]) (pc' := 85) A28 ge_ad19 rfl (own_b8 _) rfl at_84 rfl ?_
    intro T29 h29 X29 A29 W29
    refine own_aload X29 (pc' := 87) at_85 rfl rfl rfl ?_
    refine own_iload X29 (pc' := 89) at_87 rfl rfl ?_
    refine own_iconst X29 (v := (3 : Int32)) (pc' := 90) at_89 rfl (by decide) ?_
    refine own_iadd X29 (r := (4 : Int32)) (pc' := 91) at_90 rfl (by decide) ?_
    refine own_iloadN X29 (pc' := 92) at_91 rfl rfl ?_
    refine own_i2b X29 (r := (b3.toInt8.toInt32)) (pc' := 93) at_92 rfl rfl ?_
    refine own_bastore X29 (vs' := [(filler.toInt8.toInt32), (b0.toInt8.toInt32), (b1.toInt8.toInt32), (b2.toInt8.toInt32), (b3.toInt8.toInt32), (filler.toInt8.toInt32), (filler.toInt8.toInt32)]) (pc' := 94) A29 ge_ad19 rfl (own_b8 _) rfl at_93 rfl ?_
    intro T30 h30 X30 A30 W30
    refine own_iloadN X30 (pc' := 95) at_94 rfl rfl ?_
    refine own_i2b X30 (r := (b0.toInt8.toInt32)) (pc' := 96) at_95 rfl rfl ?_
    refine own_callS X30 (W := 0) (argsL := [(.int (b0.toInt8.toInt32))]) (rest := []) (S' := [(.long (own_u (b0.toInt8.toInt32)))]) (pc' := 99) (rm1 l Z a0 hw n0 (b0.toInt8.toInt32) h30 X30.size) (hw _ (List.mem_of_getElem? (i := 1) rfl)) (hw _ (List.mem_of_getElem? (i := 2) rfl)) (hw _ (List.mem_of_getElem? (i := 3) rfl)) (hw _ (List.mem_of_getElem? (i := 4) rfl)) (by decide) (by decide) (by decide) rfl rfl (by decide) (by decide) (lenOf pd_0 rfl) rfl (by first | decide | exact Nat.le_of_eq rfl) rfl at_96 rfl rfl ?_
    intro T31 h31 X31 qq31
    rw [show h31 = h30 from qq31] at X31
    refine own_ldc2 X31 (pc' := 102) (hw _ (List.mem_of_getElem? (i := 6) rfl)) at_99 rfl ?_
    refine own_lmul X31 (r := ((own_u (b0.toInt8.toInt32)) * (16777216 : Int64))) (pc' := 103) at_102 rfl rfl ?_
    refine own_iloadN X31 (pc' := 104) at_103 rfl rfl ?_
    refine own_i2b X31 (r := (b1.toInt8.toInt32)) (pc' := 105) at_104 rfl rfl ?_
    refine own_callS X31 (W := 2) (argsL := [(.int (b1.toInt8.toInt32))]) (rest := [(.long ((own_u (b0.toInt8.toInt32)) * (16777216 : Int64)))]) (S' := [(.long (own_u (b1.toInt8.toInt32))), (.long ((own_u (b0.toInt8.toInt32)) * (16777216 : Int64)))]) (pc' := 108) (rm1 l Z a0 hw n0 (b1.toInt8.toInt32) h30 X31.size) (hw _ (List.mem_of_getElem? (i := 1) rfl)) (hw _ (List.mem_of_getElem? (i := 2) rfl)) (hw _ (List.mem_of_getElem? (i := 3) rfl)) (hw _ (List.mem_of_getElem? (i := 4) rfl)) (by decide) (by decide) (by decide) rfl rfl (by decide) (by decide) (lenOf pd_0 rfl) rfl (by first | decide | exact Nat.le_of_eq rfl) rfl at_105 rfl rfl ?_
    intro T32 h32 X32 qq32
    rw [show h32 = h30 from qq32] at X32
    refine own_ldc2 X32 (pc' := 111) (hw _ (List.mem_of_getElem? (i := 7) rfl)) at_108 rfl ?_
    refine own_lmul X32 (r := ((own_u (b1.toInt8.toInt32)) * (65536 : Int64))) (pc' := 112) at_111 rfl rfl ?_
    refine own_ladd X32 (r := (((own_u (b0.toInt8.toInt32)) * (16777216 : Int64)) + ((own_u (b1.toInt8.toInt32)) * (65536 : Int64)))) (pc' := 113) at_112 rfl rfl ?_
    refine own_iloadN X32 (pc' := 114) at_113 rfl rfl ?_
    refine own_i2b X32 (r := (b2.toInt8.toInt32)) (pc' := 115) at_114 rfl rfl ?_
    refine own_callS X32 (W := 2) (argsL := [(.int (b2.toInt8.toInt32))]) (rest := [(.long (((own_u (b0.toInt8.toInt32)) * (16777216 : Int64)) + ((own_u (b1.toInt8.toInt32)) * (65536 : Int64))))]) (S' := [(.long (own_u (b2.toInt8.toInt32))), (.long (((own_u (b0.toInt8.toInt32)) * (16777216 : Int64)) + ((own_u (b1.toInt8.toInt32)) * (65536 : Int64))))]) (pc' := 118) (rm1 l Z a0 hw n0 (b2.toInt8.toInt32) h30 X32.size) (hw _ (List.mem_of_getElem? (i := 1) rfl)) (hw _ (List.mem_of_getElem? (i := 2) rfl)) (hw _ (List.mem_of_getElem? (i := 3) rfl)) (hw _ (List.mem_of_getElem? (i := 4) rfl)) (by decide) (by decide) (by decide) rfl rfl (by decide) (by decide) (lenOf pd_0 rfl) rfl (by first | decide | exact Nat.le_of_eq rfl) rfl at_115 rfl rfl ?_
    intro T33 h33 X33 qq33
    rw [show h33 = h30 from qq33] at X33
    refine own_ldc2 X33 (pc' := 121) (hw _ (List.mem_of_getElem? (i := 5) rfl)) at_118 rfl ?_
    refine own_lmul X33 (r := ((own_u (b2.toInt8.toInt32)) * (256 : Int64))) (pc' := 122) at_121 rfl rfl ?_
    refine own_ladd X33 (r := ((((own_u (b0.toInt8.toInt32)) * (16777216 : Int64)) + ((own_u (b1.toInt8.toInt32)) * (65536 : Int64))) + ((own_u (b2.toInt8.toInt32)) * (256 : Int64)))) (pc' := 123) at_122 rfl rfl ?_
    refine own_iloadN X33 (pc' := 124) at_123 rfl rfl ?_
    refine own_i2b X33 (r := (b3.toInt8.toInt32)) (pc' := 125) at_124 rfl rfl ?_
    refine own_callS X33 (W := 2) (argsL := [(.int (b3.toInt8.toInt32))]) (rest := [(.long ((((own_u (b0.toInt8.toInt32)) * (16777216 : Int64)) + ((own_u (b1.toInt8.toInt32)) * (65536 : Int64))) + ((own_u (b2.toInt8.toInt32)) * (256 : Int64))))]) (S' := [(.long (own_u (b3.toInt8.toInt32))), (.long ((((own_u (b0.toInt8.toInt32)) * (16777216 : Int64)) + ((own_u (b1.toInt8.toInt32)) * (65536 : Int64))) + ((own_u (b2.toInt8.toInt32)) * (256 : Int64))))]) (pc' := 128) (rm1 l Z a0 hw n0 (b3.toInt8.toInt32) h30 X33.size) (hw _ (List.mem_of_getElem? (i := 1) rfl)) (hw _ (List.mem_of_getElem? (i := 2) rfl)) (hw _ (List.mem_of_getElem? (i := 3) rfl)) (hw _ (List.mem_of_getElem? (i := 4) rfl)) (by decide) (by decide) (by decide) rfl rfl (by decide) (by decide) (lenOf pd_0 rfl) rfl (by first | decide | exact Nat.le_of_eq rfl) rfl at_125 rfl rfl ?_
    intro T34 h34 X34 qq34
    rw [show h34 = h30 from qq34] at X34
    refine own_ladd X34 (r := (((((own_u (b0.toInt8.toInt32)) * (16777216 : Int64)) + ((own_u (b1.toInt8.toInt32)) * (65536 : Int64))) + ((own_u (b2.toInt8.toInt32)) * (256 : Int64))) + (own_u (b3.toInt8.toInt32)))) (pc' := 129) at_128 rfl rfl ?_
    refine own_lstore X34 (pc' := 131) (Ls' := #[.val (.int b0), .val (.int b1), .val (.int b2), .val (.int b3), .val (.int filler), .val (.int off), .val (.int (1 : Int32)), .val (.int (filler.toInt8.toInt32)), .val (.ref ad19), .val (.long (((((own_u (b0.toInt8.toInt32)) * (16777216 : Int64)) + ((own_u (b1.toInt8.toInt32)) * (65536 : Int64))) + ((own_u (b2.toInt8.toInt32)) * (256 : Int64))) + (own_u (b3.toInt8.toInt32)))), .second, .unset]) at_129 rfl rfl ?_
    refine own_lload X34 (pc' := 133) at_131 rfl rfl ?_
    refine own_l2i X34 (r := ((((((own_u (b0.toInt8.toInt32)) * (16777216 : Int64)) + ((own_u (b1.toInt8.toInt32)) * (65536 : Int64))) + ((own_u (b2.toInt8.toInt32)) * (256 : Int64))) + (own_u (b3.toInt8.toInt32))).toInt32)) (pc' := 134) at_133 rfl rfl ?_
    refine own_istore X34 (pc' := 136) (Ls' := #[.val (.int b0), .val (.int b1), .val (.int b2), .val (.int b3), .val (.int filler), .val (.int off), .val (.int (1 : Int32)), .val (.int (filler.toInt8.toInt32)), .val (.ref ad19), .val (.long (((((own_u (b0.toInt8.toInt32)) * (16777216 : Int64)) + ((own_u (b1.toInt8.toInt32)) * (65536 : Int64))) + ((own_u (b2.toInt8.toInt32)) * (256 : Int64))) + (own_u (b3.toInt8.toInt32)))), .second, .val (.int ((((((own_u (b0.toInt8.toInt32)) * (16777216 : Int64)) + ((own_u (b1.toInt8.toInt32)) * (65536 : Int64))) + ((own_u (b2.toInt8.toInt32)) * (256 : Int64))) + (own_u (b3.toInt8.toInt32))).toInt32))]) at_134 rfl rfl ?_
    refine own_aload X34 (pc' := 138) at_136 rfl rfl rfl ?_
    refine own_iload X34 (pc' := 140) at_138 rfl rfl ?_
    refine own_callS X34 (W := 0) (argsL := [(.ref ad19), (.int (1 : Int32))]) (rest := []) (S' := [(.int (own_gi (b0.toInt8.toInt32) (b1.toInt8.toInt32) (b2.toInt8.toInt32) (b3.toInt8.toInt32)))]) (pc' := 143) (rm2 l Z a0 hw n0 ad19 (1 : Int32) h30 X34.size _ A30 (b0.toInt8.toInt32) (b1.toInt8.toInt32) (b2.toInt8.toInt32) (b3.toInt8.toInt32) rfl rfl rfl rfl rfl rfl rfl rfl) (hw _ (List.mem_of_getElem? (i := 8) rfl)) (hw _ (List.mem_of_getElem? (i := 9) rfl)) (hw _ (List.mem_of_getElem? (i := 10) rfl)) (hw _ (List.mem_of_getElem? (i := 11) rfl)) (by decide) (by decide) (by decide) rfl rfl (by decide) (by decide) (lenOf pd_1 rfl) rfl (by first | decide | exact Nat.le_of_eq rfl) rfl at_140 rfl rfl ?_
    intro T35 h35 X35 qq35
    rw [show h35 = h30 from qq35] at X35
    refine own_iload X35 (pc' := 145) at_143 rfl rfl ?_
    refine own_icmp_ne X35 (pct := 152) (pc' := 148) at_145 rfl (by decide) (by decide) (fun hc => absurd hc (by rw [own_main]; simp)) (fun _ => ?_)
    refine own_iconst X35 (v := (1 : Int32)) (pc' := 149) at_148 rfl (by decide) ?_
    refine own_goto X35 (pc' := 153) at_149 (by decide) (by decide) ?_
    subst hΦ
    exact own_retZ X35 at_153 (by decide) (by decide) (by decide) rfl trivial
  · refine own_iload X (pc' := 8) at_6 rfl rfl ?_
    refine own_i2b X (r := (filler.toInt8.toInt32)) (pc' := 9) at_8 rfl rfl ?_
    refine own_istore X (pc' := 11) (Ls' := #[.val (.int b0), .val (.int b1), .val (.int b2), .val (.int b3), .val (.int filler), .val (.int off), .val (.int (2 : Int32)), .val (.int (filler.toInt8.toInt32)), .unset, .unset, .unset, .unset]) at_9 rfl rfl ?_
    refine own_bipush X (v := (7 : Int32)) (pc' := 13) at_11 rfl (by decide) ?_
    refine own_newarr X (len := 7) (vs := [0, 0, 0, 0, 0, 0, 0]) (pc' := 15) (hw _ (List.mem_of_getElem? (i := 0) rfl)) rfl (by decide) (by decide) rfl (by decide) at_13 rfl (by decide) (by decide) ?_
    intro T36 h36 ad36 X36 ge_ad36 g_ad36 E36 A36
    refine own_astore X36 (pc' := 17) (Ls' := #[.val (.int b0), .val (.int b1), .val (.int b2), .val (.int b3), .val (.int filler), .val (.int off), .val (.int (2 : Int32)), .val (.int (filler.toInt8.toInt32)), .val (.ref ad36), .unset, .unset, .unset]) at_15 rfl rfl rfl ?_
    refine own_aload X36 (pc' := 19) at_17 rfl rfl rfl ?_
    refine own_iconst X36 (v := (0 : Int32)) (pc' := 20) at_19 rfl (by decide) ?_
    refine own_iload X36 (pc' := 22) at_20 rfl rfl ?_
    refine own_bastore X36 (vs' := [(filler.toInt8.toInt32), (0 : Int32), (0 : Int32), (0 : Int32), (0 : Int32), (0 : Int32), (0 : Int32)]) (pc' := 23) A36 ge_ad36 rfl (own_b8 _) rfl at_22 rfl ?_
    intro T37 h37 X37 A37 W37
    refine own_aload X37 (pc' := 25) at_23 rfl rfl rfl ?_
    refine own_iconst X37 (v := (1 : Int32)) (pc' := 26) at_25 rfl (by decide) ?_
    refine own_iload X37 (pc' := 28) at_26 rfl rfl ?_
    refine own_bastore X37 (vs' := [(filler.toInt8.toInt32), (filler.toInt8.toInt32), (0 : Int32), (0 : Int32), (0 : Int32), (0 : Int32), (0 : Int32)]) (pc' := 29) A37 ge_ad36 rfl (own_b8 _) rfl at_28 rfl ?_
    intro T38 h38 X38 A38 W38
    refine own_aload X38 (pc' := 31) at_29 rfl rfl rfl ?_
    refine own_iconst X38 (v := (2 : Int32)) (pc' := 32) at_31 rfl (by decide) ?_
    refine own_iload X38 (pc' := 34) at_32 rfl rfl ?_
    refine own_bastore X38 (vs' := [(filler.toInt8.toInt32), (filler.toInt8.toInt32), (filler.toInt8.toInt32), (0 : Int32), (0 : Int32), (0 : Int32), (0 : Int32)]) (pc' := 35) A38 ge_ad36 rfl (own_b8 _) rfl at_34 rfl ?_
    intro T39 h39 X39 A39 W39
    refine own_aload X39 (pc' := 37) at_35 rfl rfl rfl ?_
    refine own_iconst X39 (v := (3 : Int32)) (pc' := 38) at_37 rfl (by decide) ?_
    refine own_iload X39 (pc' := 40) at_38 rfl rfl ?_
    refine own_bastore X39 (vs' := [(filler.toInt8.toInt32), (filler.toInt8.toInt32), (filler.toInt8.toInt32), (filler.toInt8.toInt32), (0 : Int32), (0 : Int32), (0 : Int32)]) (pc' := 41) A39 ge_ad36 rfl (own_b8 _) rfl at_40 rfl ?_
    intro T40 h40 X40 A40 W40
    refine own_aload X40 (pc' := 43) at_41 rfl rfl rfl ?_
    refine own_iconst X40 (v := (4 : Int32)) (pc' := 44) at_43 rfl (by decide) ?_
    refine own_iload X40 (pc' := 46) at_44 rfl rfl ?_
    refine own_bastore X40 (vs' := [(filler.toInt8.toInt32), (filler.toInt8.toInt32), (filler.toInt8.toInt32), (filler.toInt8.toInt32), (filler.toInt8.toInt32), (0 : Int32), (0 : Int32)]) (pc' := 47) A40 ge_ad36 rfl (own_b8 _) rfl at_46 rfl ?_
    intro T41 h41 X41 A41 W41
    refine own_aload X41 (pc' := 49) at_47 rfl rfl rfl ?_
    refine own_iconst X41 (v := (5 : Int32)) (pc' := 50) at_49 rfl (by decide) ?_
    refine own_iload X41 (pc' := 52) at_50 rfl rfl ?_
    refine own_bastore X41 (vs' := [(filler.toInt8.toInt32), (filler.toInt8.toInt32), (filler.toInt8.toInt32), (filler.toInt8.toInt32), (filler.toInt8.toInt32), (filler.toInt8.toInt32), (0 : Int32)]) (pc' := 53) A41 ge_ad36 rfl (own_b8 _) rfl at_52 rfl ?_
    intro T42 h42 X42 A42 W42
    refine own_aload X42 (pc' := 55) at_53 rfl rfl rfl ?_
    refine own_bipush X42 (v := (6 : Int32)) (pc' := 57) at_55 rfl (by decide) ?_
    refine own_iload X42 (pc' := 59) at_57 rfl rfl ?_
    refine own_bastore X42 (vs' := [(filler.toInt8.toInt32), (filler.toInt8.toInt32), (filler.toInt8.toInt32), (filler.toInt8.toInt32), (filler.toInt8.toInt32), (filler.toInt8.toInt32), (filler.toInt8.toInt32)]) (pc' := 60) A42 ge_ad36 rfl (own_b8 _) rfl at_59 rfl ?_
    intro T43 h43 X43 A43 W43
    refine own_aload X43 (pc' := 62) at_60 rfl rfl rfl ?_
    refine own_iload X43 (pc' := 64) at_62 rfl rfl ?_
    refine own_iloadN X43 (pc' := 65) at_64 rfl rfl ?_
    refine own_i2b X43 (r := (b0.toInt8.toInt32)) (pc' := 66) at_65 rfl rfl ?_
    refine own_bastore X43 (vs' := [(filler.toInt8.toInt32), (filler.toInt8.toInt32), (b0.toInt8.toInt32), (filler.toInt8.toInt32), (filler.toInt8.toInt32), (filler.toInt8.toInt32), (filler.toInt8.toInt32)]) (pc' := 67) A43 ge_ad36 rfl (own_b8 _) rfl at_66 rfl ?_
    intro T44 h44 X44 A44 W44
    refine own_aload X44 (pc' := 69) at_67 rfl rfl rfl ?_
    refine own_iload X44 (pc' := 71) at_69 rfl rfl ?_
    refine own_iconst X44 (v := (1 : Int32)) (pc' := 72) at_71 rfl (by decide) ?_
    refine own_iadd X44 (r := (3 : Int32)) (pc' := 73) at_72 rfl (by decide) ?_
    refine own_iloadN X44 (pc' := 74) at_73 rfl rfl ?_
    refine own_i2b X44 (r := (b1.toInt8.toInt32)) (pc' := 75) at_74 rfl rfl ?_
    refine own_bastore X44 (vs' := [(filler.toInt8.toInt32), (filler.toInt8.toInt32), (b0.toInt8.toInt32), (b1.toInt8.toInt32), (filler.toInt8.toInt32), (filler.toInt8.toInt32), (filler.toInt8.toInt32)]) (pc' := 76) A44 ge_ad36 rfl (own_b8 _) rfl at_75 rfl ?_
    intro T45 h45 X45 A45 W45
    refine own_aload X45 (pc' := 78) at_76 rfl rfl rfl ?_
    refine own_iload X45 (pc' := 80) at_78 rfl rfl ?_
    refine own_iconst X45 (v := (2 : Int32)) (pc' := 81) at_80 rfl (by decide) ?_
    refine own_iadd X45 (r := (4 : Int32)) (pc' := 82) at_81 rfl (by decide) ?_
    refine own_iloadN X45 (pc' := 83) at_82 rfl rfl ?_
    refine own_i2b X45 (r := (b2.toInt8.toInt32)) (pc' := 84) at_83 rfl rfl ?_
    refine own_bastore X45 (vs' := [(filler.toInt8.toInt32), (filler.toInt8.toInt32), (b0.toInt8.toInt32), (b1.toInt8.toInt32), (b2.toInt8.toInt32), (filler.toInt8.toInt32), (filler.toInt8.toInt32)]) (pc' := 85) A45 ge_ad36 rfl (own_b8 _) rfl at_84 rfl ?_
    intro T46 h46 X46 A46 W46
    refine own_aload X46 (pc' := 87) at_85 rfl rfl rfl ?_
    refine own_iload X46 (pc' := 89) at_87 rfl rfl ?_
    refine own_iconst X46 (v := (3 : Int32)) (pc' := 90) at_89 rfl (by decide) ?_
    refine own_iadd X46 (r := (5 : Int32)) (pc' := 91) at_90 rfl (by decide) ?_
    refine own_iloadN X46 (pc' := 92) at_91 rfl rfl ?_
    refine own_i2b X46 (r := (b3.toInt8.toInt32)) (pc' := 93) at_92 rfl rfl ?_
    refine own_bastore X46 (vs' := [(filler.toInt8.toInt32), (filler.toInt8.toInt32), (b0.toInt8.toInt32), (b1.toInt8.toInt32), (b2.toInt8.toInt32), (b3.toInt8.toInt32), (filler.toInt8.toInt32)]) (pc' := 94) A46 ge_ad36 rfl (own_b8 _) rfl at_93 rfl ?_
    intro T47 h47 X47 A47 W47
    refine own_iloadN X47 (pc' := 95) at_94 rfl rfl ?_
    refine own_i2b X47 (r := (b0.toInt8.toInt32)) (pc' := 96) at_95 rfl rfl ?_
    refine own_callS X47 (W := 0) (argsL := [(.int (b0.toInt8.toInt32))]) (rest := []) (S' := [(.long (own_u (b0.toInt8.toInt32)))]) (pc' := 99) (rm1 l Z a0 hw n0 (b0.toInt8.toInt32) h47 X47.size) (hw _ (List.mem_of_getElem? (i := 1) rfl)) (hw _ (List.mem_of_getElem? (i := 2) rfl)) (hw _ (List.mem_of_getElem? (i := 3) rfl)) (hw _ (List.mem_of_getElem? (i := 4) rfl)) (by decide) (by decide) (by decide) rfl rfl (by decide) (by decide) (lenOf pd_0 rfl) rfl (by first | decide | exact Nat.le_of_eq rfl) rfl at_96 rfl rfl ?_
    intro T48 h48 X48 qq48
    rw [show h48 = h47 from qq48] at X48
    refine own_ldc2 X48 (pc' := 102) (hw _ (List.mem_of_getElem? (i := 6) rfl)) at_99 rfl ?_
    refine own_lmul X48 (r := ((own_u (b0.toInt8.toInt32)) * (16777216 : Int64))) (pc' := 103) at_102 rfl rfl ?_
    refine own_iloadN X48 (pc' := 104) at_103 rfl rfl ?_
    refine own_i2b X48 (r := (b1.toInt8.toInt32)) (pc' := 105) at_104 rfl rfl ?_
    refine own_callS X48 (W := 2) (argsL := [(.int (b1.toInt8.toInt32))]) (rest := [(.long ((own_u (b0.toInt8.toInt32)) * (16777216 : Int64)))]) (S' := [(.long (own_u (b1.toInt8.toInt32))), (.long ((own_u (b0.toInt8.toInt32)) * (16777216 : Int64)))]) (pc' := 108) (rm1 l Z a0 hw n0 (b1.toInt8.toInt32) h47 X48.size) (hw _ (List.mem_of_getElem? (i := 1) rfl)) (hw _ (List.mem_of_getElem? (i := 2) rfl)) (hw _ (List.mem_of_getElem? (i := 3) rfl)) (hw _ (List.mem_of_getElem? (i := 4) rfl)) (by decide) (by decide) (by decide) rfl rfl (by decide) (by decide) (lenOf pd_0 rfl) rfl (by first | decide | exact Nat.le_of_eq rfl) rfl at_105 rfl rfl ?_
    intro T49 h49 X49 qq49
    rw [show h49 = h47 from qq49] at X49
    refine own_ldc2 X49 (pc' := 111) (hw _ (List.mem_of_getElem? (i := 7) rfl)) at_108 rfl ?_
    refine own_lmul X49 (r := ((own_u (b1.toInt8.toInt32)) * (65536 : Int64))) (pc' := 112) at_111 rfl rfl ?_
    refine own_ladd X49 (r := (((own_u (b0.toInt8.toInt32)) * (16777216 : Int64)) + ((own_u (b1.toInt8.toInt32)) * (65536 : Int64)))) (pc' := 113) at_112 rfl rfl ?_
    refine own_iloadN X49 (pc' := 114) at_113 rfl rfl ?_
    refine own_i2b X49 (r := (b2.toInt8.toInt32)) (pc' := 115) at_114 rfl rfl ?_
    refine own_callS X49 (W := 2) (argsL := [(.int (b2.toInt8.toInt32))]) (rest := [(.long (((own_u (b0.toInt8.toInt32)) * (16777216 : Int64)) + ((own_u (b1.toInt8.toInt32)) * (65536 : Int64))))]) (S' := [(.long (own_u (b2.toInt8.toInt32))), (.long (((own_u (b0.toInt8.toInt32)) * (16777216 : Int64)) + ((own_u (b1.toInt8.toInt32)) * (65536 : Int64))))]) (pc' := 118) (rm1 l Z a0 hw n0 (b2.toInt8.toInt32) h47 X49.size) (hw _ (List.mem_of_getElem? (i := 1) rfl)) (hw _ (List.mem_of_getElem? (i := 2) rfl)) (hw _ (List.mem_of_getElem? (i := 3) rfl)) (hw _ (List.mem_of_getElem? (i := 4) rfl)) (by decide) (by decide) (by decide) rfl rfl (by decide) (by decide) (lenOf pd_0 rfl) rfl (by first | decide | exact Nat.le_of_eq rfl) rfl at_115 rfl rfl ?_
    intro T50 h50 X50 qq50
    rw [show h50 = h47 from qq50] at X50
    refine own_ldc2 X50 (pc' := 121) (hw _ (List.mem_of_getElem? (i := 5) rfl)) at_118 rfl ?_
    refine own_lmul X50 (r := ((own_u (b2.toInt8.toInt32)) * (256 : Int64))) (pc' := 122) at_121 rfl rfl ?_
    refine own_ladd X50 (r := ((((own_u (b0.toInt8.toInt32)) * (16777216 : Int64)) + ((own_u (b1.toInt8.toInt32)) * (65536 : Int64))) + ((own_u (b2.toInt8.toInt32)) * (256 : Int64)))) (pc' := 123) at_122 rfl rfl ?_
    refine own_iloadN X50 (pc' := 124) at_123 rfl rfl ?_
    refine own_i2b X50 (r := (b3.toInt8.toInt32)) (pc' := 125) at_124 rfl rfl ?_
    refine own_callS X50 (W := 2) (argsL := [(.int (b3.toInt8.toInt32))]) (rest := [(.long ((((own_u (b0.toInt8.toInt32)) * (16777216 : Int64)) + ((own_u (b1.toInt8.toInt32)) * (65536 : Int64))) + ((own_u (b2.toInt8.toInt32)) * (256 : Int64))))]) (S' := [(.long (own_u (b3.toInt8.toInt32))), (.long ((((own_u (b0.toInt8.toInt32)) * (16777216 : Int64)) + ((own_u (b1.toInt8.toInt32)) * (65536 : Int64))) + ((own_u (b2.toInt8.toInt32)) * (256 : Int64))))]) (pc' := 128) (rm1 l Z a0 hw n0 (b3.toInt8.toInt32) h47 X50.size) (hw _ (List.mem_of_getElem? (i := 1) rfl)) (hw _ (List.mem_of_getElem? (i := 2) rfl)) (hw _ (List.mem_of_getElem? (i := 3) rfl)) (hw _ (List.mem_of_getElem? (i := 4) rfl)) (by decide) (by decide) (by decide) rfl rfl (by decide) (by decide) (lenOf pd_0 rfl) rfl (by first | decide | exact Nat.le_of_eq rfl) rfl at_125 rfl rfl ?_
    intro T51 h51 X51 qq51
    rw [show h51 = h47 from qq51] at X51
    refine own_ladd X51 (r := (((((own_u (b0.toInt8.toInt32)) * (16777216 : Int64)) + ((own_u (b1.toInt8.toInt32)) * (65536 : Int64))) + ((own_u (b2.toInt8.toInt32)) * (256 : Int64))) + (own_u (b3.toInt8.toInt32)))) (pc' := 129) at_128 rfl rfl ?_
    refine own_lstore X51 (pc' := 131) (Ls' := #[.val (.int b0), .val (.int b1), .val (.int b2), .val (.int b3), .val (.int filler), .val (.int off), .val (.int (2 : Int32)), .val (.int (filler.toInt8.toInt32)), .val (.ref ad36), .val (.long (((((own_u (b0.toInt8.toInt32)) * (16777216 : Int64)) + ((own_u (b1.toInt8.toInt32)) * (65536 : Int64))) + ((own_u (b2.toInt8.toInt32)) * (256 : Int64))) + (own_u (b3.toInt8.toInt32)))), .second, .unset]) at_129 rfl rfl ?_
    refine own_lload X51 (pc' := 133) at_131 rfl rfl ?_
    refine own_l2i X51 (r := ((((((own_u (b0.toInt8.toInt32)) * (16777216 : Int64)) + ((own_u (b1.toInt8.toInt32)) * (65536 : Int64))) + ((own_u (b2.toInt8.toInt32)) * (256 : Int64))) + (own_u (b3.toInt8.toInt32))).toInt32)) (pc' := 134) at_133 rfl rfl ?_
    refine own_istore X51 (pc' := 136) (Ls' := #[.val (.int b0), .val (.int b1), .val (.int b2), .val (.int b3), .val (.int filler), .val (.int off), .val (.int (2 : Int32)), .val (.int (filler.toInt8.toInt32)), .val (.ref ad36), .val (.long (((((own_u (b0.toInt8.toInt32)) * (16777216 : Int64)) + ((own_u (b1.toInt8.toInt32)) * (65536 : Int64))) + ((own_u (b2.toInt8.toInt32)) * (256 : Int64))) + (own_u (b3.toInt8.toInt32)))), .second, .val (.int ((((((own_u (b0.toInt8.toInt32)) * (16777216 : Int64)) + ((own_u (b1.toInt8.toInt32)) * (65536 : Int64))) + ((own_u (b2.toInt8.toInt32)) * (256 : Int64))) + (own_u (b3.toInt8.toInt32))).toInt32))]) at_134 rfl rfl ?_
    refine own_aload X51 (pc' := 138) at_136 rfl rfl rfl ?_
    refine own_iload X51 (pc' := 140) at_138 rfl rfl ?_
    refine own_callS X51 (W := 0) (argsL := [(.ref ad36), (.int (2 : Int32))]) (rest := []) (S' := [(.int (own_gi (b0.toInt8.toInt32) (b1.toInt8.toInt32) (b2.toInt8.toInt32) (b3.toInt8.toInt32)))]) (pc' := 143) (rm2 l Z a0 hw n0 ad36 (2 : Int32) h47 X51.size _ A47 (b0.toInt8.toInt32) (b1.toInt8.toInt32) (b2.toInt8.toInt32) (b3.toInt8.toInt32) rfl rfl rfl rfl rfl rfl rfl rfl) (hw _ (List.mem_of_getElem? (i := 8) rfl)) (hw _ (List.mem_of_getElem? (i := 9) rfl)) (hw _ (List.mem_of_getElem? (i := 10) rfl)) (hw _ (List.mem_of_getElem? (i := 11) rfl)) (by decide) (by decide) (by decide) rfl rfl (by decide) (by decide) (lenOf pd_1 rfl) rfl (by first | decide | exact Nat.le_of_eq rfl) rfl at_140 rfl rfl ?_
    intro T52 h52 X52 qq52
    rw [show h52 = h47 from qq52] at X52
    refine own_iload X52 (pc' := 145) at_143 rfl rfl ?_
    refine own_icmp_ne X52 (pct := 152) (pc' := 148) at_145 rfl (by decide) (by decide) (fun hc => absurd hc (by rw [own_main]; simp)) (fun _ => ?_)
    refine own_iconst X52 (v := (1 : Int32)) (pc' := 149) at_148 rfl (by decide) ?_
    refine own_goto X52 (pc' := 153) at_149 (by decide) (by decide) ?_
    subst hΦ
    exact own_retZ X52 at_153 (by decide) (by decide) (by decide) rfl trivial
  · refine own_iload X (pc' := 8) at_6 rfl rfl ?_
    refine own_i2b X (r := (filler.toInt8.toInt32)) (pc' := 9) at_8 rfl rfl ?_
    refine own_istore X (pc' := 11) (Ls' := #[.val (.int b0), .val (.int b1), .val (.int b2), .val (.int b3), .val (.int filler), .val (.int off), .val (.int (3 : Int32)), .val (.int (filler.toInt8.toInt32)), .unset, .unset, .unset, .unset]) at_9 rfl rfl ?_
    refine own_bipush X (v := (7 : Int32)) (pc' := 13) at_11 rfl (by decide) ?_
    refine own_newarr X (len := 7) (vs := [0, 0, 0, 0, 0, 0, 0]) (pc' := 15) (hw _ (List.mem_of_getElem? (i := 0) rfl)) rfl (by decide) (by decide) rfl (by decide) at_13 rfl (by decide) (by decide) ?_
    intro T53 h53 ad53 X53 ge_ad53 g_ad53 E53 A53
    refine own_astore X53 (pc' := 17) (Ls' := #[.val (.int b0), .val (.int b1), .val (.int b2), .val (.int b3), .val (.int filler), .val (.int off), .val (.int (3 : Int32)), .val (.int (filler.toInt8.toInt32)), .val (.ref ad53), .unset, .unset, .unset]) at_15 rfl rfl rfl ?_
    refine own_aload X53 (pc' := 19) at_17 rfl rfl rfl ?_
    refine own_iconst X53 (v := (0 : Int32)) (pc' := 20) at_19 rfl (by decide) ?_
    refine own_iload X53 (pc' := 22) at_20 rfl rfl ?_
    refine own_bastore X53 (vs' := [(filler.toInt8.toInt32), (0 : Int32), (0 : Int32), (0 : Int32), (0 : Int32), (0 : Int32), (0 : Int32)]) (pc' := 23) A53 ge_ad53 rfl (own_b8 _) rfl at_22 rfl ?_
    intro T54 h54 X54 A54 W54
    refine own_aload X54 (pc' := 25) at_23 rfl rfl rfl ?_
    refine own_iconst X54 (v := (1 : Int32)) (pc' := 26) at_25 rfl (by decide) ?_
    refine own_iload X54 (pc' := 28) at_26 rfl rfl ?_
    refine own_bastore X54 (vs' := [(filler.toInt8.toInt32), (filler.toInt8.toInt32), (0 : Int32), (0 : Int32), (0 : Int32), (0 : Int32), (0 : Int32)]) (pc' := 29) A54 ge_ad53 rfl (own_b8 _) rfl at_28 rfl ?_
    intro T55 h55 X55 A55 W55
    refine own_aload X55 (pc' := 31) at_29 rfl rfl rfl ?_
    refine own_iconst X55 (v := (2 : Int32)) (pc' := 32) at_31 rfl (by decide) ?_
    refine own_iload X55 (pc' := 34) at_32 rfl rfl ?_
    refine own_bastore X55 (vs' := [(filler.toInt8.toInt32), (filler.toInt8.toInt32), (filler.toInt8.toInt32), (0 : Int32), (0 : Int32), (0 : Int32), (0 : Int32)]) (pc' := 35) A55 ge_ad53 rfl (own_b8 _) rfl at_34 rfl ?_
    intro T56 h56 X56 A56 W56
    refine own_aload X56 (pc' := 37) at_35 rfl rfl rfl ?_
    refine own_iconst X56 (v := (3 : Int32)) (pc' := 38) at_37 rfl (by decide) ?_
    refine own_iload X56 (pc' := 40) at_38 rfl rfl ?_
    refine own_bastore X56 (vs' := [(filler.toInt8.toInt32), (filler.toInt8.toInt32), (filler.toInt8.toInt32), (filler.toInt8.toInt32), (0 : Int32), (0 : Int32), (0 : Int32)]) (pc' := 41) A56 ge_ad53 rfl (own_b8 _) rfl at_40 rfl ?_
    intro T57 h57 X57 A57 W57
    refine own_aload X57 (pc' := 43) at_41 rfl rfl rfl ?_
    refine own_iconst X57 (v := (4 : Int32)) (pc' := 44) at_43 rfl (by decide) ?_
    refine own_iload X57 (pc' := 46) at_44 rfl rfl ?_
    refine own_bastore X57 (vs' := [(filler.toInt8.toInt32), (filler.toInt8.toInt32), (filler.toInt8.toInt32), (filler.toInt8.toInt32), (filler.toInt8.toInt32), (0 : Int32), (0 : Int32)]) (pc' := 47) A57 ge_ad53 rfl (own_b8 _) rfl at_46 rfl ?_
    intro T58 h58 X58 A58 W58
    refine own_aload X58 (pc' := 49) at_47 rfl rfl rfl ?_
    refine own_iconst X58 (v := (5 : Int32)) (pc' := 50) at_49 rfl (by decide) ?_
    refine own_iload X58 (pc' := 52) at_50 rfl rfl ?_
    refine own_bastore X58 (vs' := [(filler.toInt8.toInt32), (filler.toInt8.toInt32), (filler.toInt8.toInt32), (filler.toInt8.toInt32), (filler.toInt8.toInt32), (filler.toInt8.toInt32), (0 : Int32)]) (pc' := 53) A58 ge_ad53 rfl (own_b8 _) rfl at_52 rfl ?_
    intro T59 h59 X59 A59 W59
    refine own_aload X59 (pc' := 55) at_53 rfl rfl rfl ?_
    refine own_bipush X59 (v := (6 : Int32)) (pc' := 57) at_55 rfl (by decide) ?_
    refine own_iload X59 (pc' := 59) at_57 rfl rfl ?_
    refine own_bastore X59 (vs' := [(filler.toInt8.toInt32), (filler.toInt8.toInt32), (filler.toInt8.toInt32), (filler.toInt8.toInt32), (filler.toInt8.toInt32), (filler.toInt8.toInt32), (filler.toInt8.toInt32)]) (pc' := 60) A59 ge_ad53 rfl (own_b8 _) rfl at_59 rfl ?_
    intro T60 h60 X60 A60 W60
    refine own_aload X60 (pc' := 62) at_60 rfl rfl rfl ?_
    refine own_iload X60 (pc' := 64) at_62 rfl rfl ?_
    refine own_iloadN X60 (pc' := 65) at_64 rfl rfl ?_
    refine own_i2b X60 (r := (b0.toInt8.toInt32)) (pc' := 66) at_65 rfl rfl ?_
    refine own_bastore X60 (vs' := [(filler.toInt8.toInt32), (filler.toInt8.toInt32), (filler.toInt8.toInt32), (b0.toInt8.toInt32), (filler.toInt8.toInt32), (filler.toInt8.toInt32), (filler.toInt8.toInt32)]) (pc' := 67) A60 ge_ad53 rfl (own_b8 _) rfl at_66 rfl ?_
    intro T61 h61 X61 A61 W61
    refine own_aload X61 (pc' := 69) at_67 rfl rfl rfl ?_
    refine own_iload X61 (pc' := 71) at_69 rfl rfl ?_
    refine own_iconst X61 (v := (1 : Int32)) (pc' := 72) at_71 rfl (by decide) ?_
    refine own_iadd X61 (r := (4 : Int32)) (pc' := 73) at_72 rfl (by decide) ?_
    refine own_iloadN X61 (pc' := 74) at_73 rfl rfl ?_
    refine own_i2b X61 (r := (b1.toInt8.toInt32)) (pc' := 75) at_74 rfl rfl ?_
    refine own_bastore X61 (vs' := [(filler.toInt8.toInt32), (filler.toInt8.toInt32), (filler.toInt8.toInt32), (b0.toInt8.toInt32), (b1.toInt8.toInt32), (filler.toInt8.toInt32), (filler.toInt8.toInt32)]) (pc' := 76) A61 ge_ad53 rfl (own_b8 _) rfl at_75 rfl ?_
    intro T62 h62 X62 A62 W62
    refine own_aload X62 (pc' := 78) at_76 rfl rfl rfl ?_
    refine own_iload X62 (pc' := 80) at_78 rfl rfl ?_
    refine own_iconst X62 (v := (2 : Int32)) (pc' := 81) at_80 rfl (by decide) ?_
    refine own_iadd X62 (r := (5 : Int32)) (pc' := 82) at_81 rfl (by decide) ?_
    refine own_iloadN X62 (pc' := 83) at_82 rfl rfl ?_
    refine own_i2b X62 (r := (b2.toInt8.toInt32)) (pc' := 84) at_83 rfl rfl ?_
    refine own_bastore X62 (vs' := [(filler.toInt8.toInt32), (filler.toInt8.toInt32), (filler.toInt8.toInt32), (b0.toInt8.toInt32), (b1.toInt8.toInt32), (b2.toInt8.toInt32), (filler.toInt8.toInt32)]) (pc' := 85) A62 ge_ad53 rfl (own_b8 _) rfl at_84 rfl ?_
    intro T63 h63 X63 A63 W63
    refine own_aload X63 (pc' := 87) at_85 rfl rfl rfl ?_
    refine own_iload X63 (pc' := 89) at_87 rfl rfl ?_
    refine own_iconst X63 (v := (3 : Int32)) (pc' := 90) at_89 rfl (by decide) ?_
    refine own_iadd X63 (r := (6 : Int32)) (pc' := 91) at_90 rfl (by decide) ?_
    refine own_iloadN X63 (pc' := 92) at_91 rfl rfl ?_
    refine own_i2b X63 (r := (b3.toInt8.toInt32)) (pc' := 93) at_92 rfl rfl ?_
    refine own_bastore X63 (vs' := [(filler.toInt8.toInt32), (filler.toInt8.toInt32), (filler.toInt8.toInt32), (b0.toInt8.toInt32), (b1.toInt8.toInt32), (b2.toInt8.toInt32), (b3.toInt8.toInt32)]) (pc' := 94) A63 ge_ad53 rfl (own_b8 _) rfl at_93 rfl ?_
    intro T64 h64 X64 A64 W64
    refine own_iloadN X64 (pc' := 95) at_94 rfl rfl ?_
    refine own_i2b X64 (r := (b0.toInt8.toInt32)) (pc' := 96) at_95 rfl rfl ?_
    refine own_callS X64 (W := 0) (argsL := [(.int (b0.toInt8.toInt32))]) (rest := []) (S' := [(.long (own_u (b0.toInt8.toInt32)))]) (pc' := 99) (rm1 l Z a0 hw n0 (b0.toInt8.toInt32) h64 X64.size) (hw _ (List.mem_of_getElem? (i := 1) rfl)) (hw _ (List.mem_of_getElem? (i := 2) rfl)) (hw _ (List.mem_of_getElem? (i := 3) rfl)) (hw _ (List.mem_of_getElem? (i := 4) rfl)) (by decide) (by decide) (by decide) rfl rfl (by decide) (by decide) (lenOf pd_0 rfl) rfl (by first | decide | exact Nat.le_of_eq rfl) rfl at_96 rfl rfl ?_
    intro T65 h65 X65 qq65
    rw [show h65 = h64 from qq65] at X65
    refine own_ldc2 X65 (pc' := 102) (hw _ (List.mem_of_getElem? (i := 6) rfl)) at_99 rfl ?_
    refine own_lmul X65 (r := ((own_u (b0.toInt8.toInt32)) * (16777216 : Int64))) (pc' := 103) at_102 rfl rfl ?_
    refine own_iloadN X65 (pc' := 104) at_103 rfl rfl ?_
    refine own_i2b X65 (r := (b1.toInt8.toInt32)) (pc' := 105) at_104 rfl rfl ?_
    refine own_callS X65 (W := 2) (argsL := [(.int (b1.toInt8.toInt32))]) (rest := [(.long ((own_u (b0.toInt8.toInt32)) * (16777216 : Int64)))]) (S' := [(.long (own_u (b1.toInt8.toInt32))), (.long ((own_u (b0.toInt8.toInt32)) * (16777216 : Int64)))]) (pc' := 108) (rm1 l Z a0 hw n0 (b1.toInt8.toInt32) h64 X65.size) (hw _ (List.mem_of_getElem? (i := 1) rfl)) (hw _ (List.mem_of_getElem? (i := 2) rfl)) (hw _ (List.mem_of_getElem? (i := 3) rfl)) (hw _ (List.mem_of_getElem? (i := 4) rfl)) (by decide) (by decide) (by decide) rfl rfl (by decide) (by decide) (lenOf pd_0 rfl) rfl (by first | decide | exact Nat.le_of_eq rfl) rfl at_105 rfl rfl ?_
    intro T66 h66 X66 qq66
    rw [show h66 = h64 from qq66] at X66
    refine own_ldc2 X66 (pc' := 111) (hw _ (List.mem_of_getElem? (i := 7) rfl)) at_108 rfl ?_
    refine own_lmul X66 (r := ((own_u (b1.toInt8.toInt32)) * (65536 : Int64))) (pc' := 112) at_111 rfl rfl ?_
    refine own_ladd X66 (r := (((own_u (b0.toInt8.toInt32)) * (16777216 : Int64)) + ((own_u (b1.toInt8.toInt32)) * (65536 : Int64)))) (pc' := 113) at_112 rfl rfl ?_
    refine own_iloadN X66 (pc' := 114) at_113 rfl rfl ?_
    refine own_i2b X66 (r := (b2.toInt8.toInt32)) (pc' := 115) at_114 rfl rfl ?_
    refine own_callS X66 (W := 2) (argsL := [(.int (b2.toInt8.toInt32))]) (rest := [(.long (((own_u (b0.toInt8.toInt32)) * (16777216 : Int64)) + ((own_u (b1.toInt8.toInt32)) * (65536 : Int64))))]) (S' := [(.long (own_u (b2.toInt8.toInt32))), (.long (((own_u (b0.toInt8.toInt32)) * (16777216 : Int64)) + ((own_u (b1.toInt8.toInt32)) * (65536 : Int64))))]) (pc' := 118) (rm1 l Z a0 hw n0 (b2.toInt8.toInt32) h64 X66.size) (hw _ (List.mem_of_getElem? (i := 1) rfl)) (hw _ (List.mem_of_getElem? (i := 2) rfl)) (hw _ (List.mem_of_getElem? (i := 3) rfl)) (hw _ (List.mem_of_getElem? (i := 4) rfl)) (by decide) (by decide) (by decide) rfl rfl (by decide) (by decide) (lenOf pd_0 rfl) rfl (by first | decide | exact Nat.le_of_eq rfl) rfl at_115 rfl rfl ?_
    intro T67 h67 X67 qq67
    rw [show h67 = h64 from qq67] at X67
    refine own_ldc2 X67 (pc' := 121) (hw _ (List.mem_of_getElem? (i := 5) rfl)) at_118 rfl ?_
    refine own_lmul X67 (r := ((own_u (b2.toInt8.toInt32)) * (256 : Int64))) (pc' := 122) at_121 rfl rfl ?_
    refine own_ladd X67 (r := ((((own_u (b0.toInt8.toInt32)) * (16777216 : Int64)) + ((own_u (b1.toInt8.toInt32)) * (65536 : Int64))) + ((own_u (b2.toInt8.toInt32)) * (256 : Int64)))) (pc' := 123) at_122 rfl rfl ?_
    refine own_iloadN X67 (pc' := 124) at_123 rfl rfl ?_
    refine own_i2b X67 (r := (b3.toInt8.toInt32)) (pc' := 125) at_124 rfl rfl ?_
    refine own_callS X67 (W := 2) (argsL := [(.int (b3.toInt8.toInt32))]) (rest := [(.long ((((own_u (b0.toInt8.toInt32)) * (16777216 : Int64)) + ((own_u (b1.toInt8.toInt32)) * (65536 : Int64))) + ((own_u (b2.toInt8.toInt32)) * (256 : Int64))))]) (S' := [(.long (own_u (b3.toInt8.toInt32))), (.long ((((own_u (b0.toInt8.toInt32)) * (16777216 : Int64)) + ((own_u (b1.toInt8.toInt32)) * (65536 : Int64))) + ((own_u (b2.toInt8.toInt32)) * (256 : Int64))))]) (pc' := 128) (rm1 l Z a0 hw n0 (b3.toInt8.toInt32) h64 X67.size) (hw _ (List.mem_of_getElem? (i := 1) rfl)) (hw _ (List.mem_of_getElem? (i := 2) rfl)) (hw _ (List.mem_of_getElem? (i := 3) rfl)) (hw _ (List.mem_of_getElem? (i := 4) rfl)) (by decide) (by decide) (by decide) rfl rfl (by decide) (by decide) (lenOf pd_0 rfl) rfl (by first | decide | exact Nat.le_of_eq rfl) rfl at_125 rfl rfl ?_
    intro T68 h68 X68 qq68
    rw [show h68 = h64 from qq68] at X68
    refine own_ladd X68 (r := (((((own_u (b0.toInt8.toInt32)) * (16777216 : Int64)) + ((own_u (b1.toInt8.toInt32)) * (65536 : Int64))) + ((own_u (b2.toInt8.toInt32)) * (256 : Int64))) + (own_u (b3.toInt8.toInt32)))) (pc' := 129) at_128 rfl rfl ?_
    refine own_lstore X68 (pc' := 131) (Ls' := #[.val (.int b0), .val (.int b1), .val (.int b2), .val (.int b3), .val (.int filler), .val (.int off), .val (.int (3 : Int32)), .val (.int (filler.toInt8.toInt32)), .val (.ref ad53), .val (.long (((((own_u (b0.toInt8.toInt32)) * (16777216 : Int64)) + ((own_u (b1.toInt8.toInt32)) * (65536 : Int64))) + ((own_u (b2.toInt8.toInt32)) * (256 : Int64))) + (own_u (b3.toInt8.toInt32)))), .second, .unset]) at_129 rfl rfl ?_
    refine own_lload X68 (pc' := 133) at_131 rfl rfl ?_
    refine own_l2i X68 (r := ((((((own_u (b0.toInt8.toInt32)) * (16777216 : Int64)) + ((own_u (b1.toInt8.toInt32)) * (65536 : Int64))) + ((own_u (b2.toInt8.toInt32)) * (256 : Int64))) + (own_u (b3.toInt8.toInt32))).toInt32)) (pc' := 134) at_133 rfl rfl ?_
    refine own_istore X68 (pc' := 136) (Ls' := #[.val (.int b0), .val (.int b1), .val (.int b2), .val (.int b3), .val (.int filler), .val (.int off), .val (.int (3 : Int32)), .val (.int (filler.toInt8.toInt32)), .val (.ref ad53), .val (.long (((((own_u (b0.toInt8.toInt32)) * (16777216 : Int64)) + ((own_u (b1.toInt8.toInt32)) * (65536 : Int64))) + ((own_u (b2.toInt8.toInt32)) * (256 : Int64))) + (own_u (b3.toInt8.toInt32)))), .second, .val (.int ((((((own_u (b0.toInt8.toInt32)) * (16777216 : Int64)) + ((own_u (b1.toInt8.toInt32)) * (65536 : Int64))) + ((own_u (b2.toInt8.toInt32)) * (256 : Int64))) + (own_u (b3.toInt8.toInt32))).toInt32))]) at_134 rfl rfl ?_
    refine own_aload X68 (pc' := 138) at_136 rfl rfl rfl ?_
    refine own_iload X68 (pc' := 140) at_138 rfl rfl ?_
    refine own_callS X68 (W := 0) (argsL := [(.ref ad53), (.int (3 : Int32))]) (rest := []) (S' := [(.int (own_gi (b0.toInt8.toInt32) (b1.toInt8.toInt32) (b2.toInt8.toInt32) (b3.toInt8.toInt32)))]) (pc' := 143) (rm2 l Z a0 hw n0 ad53 (3 : Int32) h64 X68.size _ A64 (b0.toInt8.toInt32) (b1.toInt8.toInt32) (b2.toInt8.toInt32) (b3.toInt8.toInt32) rfl rfl rfl rfl rfl rfl rfl rfl) (hw _ (List.mem_of_getElem? (i := 8) rfl)) (hw _ (List.mem_of_getElem? (i := 9) rfl)) (hw _ (List.mem_of_getElem? (i := 10) rfl)) (hw _ (List.mem_of_getElem? (i := 11) rfl)) (by decide) (by decide) (by decide) rfl rfl (by decide) (by decide) (lenOf pd_1 rfl) rfl (by first | decide | exact Nat.le_of_eq rfl) rfl at_140 rfl rfl ?_
    intro T69 h69 X69 qq69
    rw [show h69 = h64 from qq69] at X69
    refine own_iload X69 (pc' := 145) at_143 rfl rfl ?_
    refine own_icmp_ne X69 (pct := 152) (pc' := 148) at_145 rfl (by decide) (by decide) (fun hc => absurd hc (by rw [own_main]; simp)) (fun _ => ?_)
    refine own_iconst X69 (v := (1 : Int32)) (pc' := 149) at_148 rfl (by decide) ?_
    refine own_goto X69 (pc' := 153) at_149 (by decide) (by decide) ?_
    subst hΦ
    exact own_retZ X69 at_153 (by decide) (by decide) (by decide) rfl trivial
set_option maxRecDepth 65536 in
set_option maxHeartbeats 4000000 in
theorem comes_1 {Post : Tables → Env → Array Value → State → Outcome → State → Prop} (hpost : ∀ tb e args s v u, (limb_1_1.after args s (.returned v) u = true ∧ limb_1_2.after args s (.returned v) u = true ∧ True) → FrameEnd s (.returned v) u (Jvm.fieldLocs frame_1_writes args s ++ Jvm.arrayLocs frame_1_arrays args s ++ Jvm.staticLocs frame_1_statics s) 16 128 → Post tb e args s (.returned v) u) :
    ArmFor flags0 classFile x code maxLocals ret World_1 tables_1 room_1 Calls_1 rest_1 Pre_1 Post := by
  intro l hfl _ _ p e ha hc hk s m args below hf hA hF happ hP
  obtain ⟨hcalls, hrest, hpre⟩ := hP
  obtain ⟨-, -, -, hnamed, -, -, -, hat⟩ := (Spec.applies_iff hf).mp happ
  obtain ⟨hg, hn⟩ := and_e (Cond.before_iff.mp (show (Jvm.Cond.and given_1 narrow_1).before args s = true from hpre))
  obtain ⟨hcnt, r0⟩ := and_e hg
  obtain ⟨k0, r1⟩ := and_e r0
  obtain ⟨k1, r2⟩ := and_e r1
  obtain ⟨k2, r3⟩ := and_e r2
  obtain ⟨k3, r4⟩ := and_e r3
  obtain ⟨k4, r5⟩ := and_e r4
  obtain ⟨w0, w1, w2, w3, w4, w5, rfl⟩ : ∃ w0 w1 w2 w3 w4 w5 : Value, args = #[w0, w1, w2, w3, w4, w5] := by
    have hs : args.size = 6 := by simpa [Cond.value, given_1] using hcnt
    obtain ⟨L⟩ := args
    match L, hs with
    | [w0, w1, w2, w3, w4, w5], _ => exact ⟨w0, w1, w2, w3, w4, w5, rfl⟩
  have hw := fun d (hd : d ∈ tables_1) => atoms_spec (ws := Jvm.Cond.code x code maxLocals ret :: tables_1) hat d (List.mem_cons_of_mem _ hd)
  obtain ⟨i0, ei0⟩ := is_v k0
  obtain rfl : w0 = (.int i0) := Option.some.inj ei0
  obtain ⟨i1, ei1⟩ := is_v k1
  obtain rfl : w1 = (.int i1) := Option.some.inj ei1
  obtain ⟨i2, ei2⟩ := is_v k2
  obtain rfl : w2 = (.int i2) := Option.some.inj ei2
  obtain ⟨i3, ei3⟩ := is_v k3
  obtain rfl : w3 = (.int i3) := Option.some.inj ei3
  obtain ⟨i4, ei4⟩ := is_v k4
  obtain rfl : w4 = (.int i4) := Option.some.inj ei4
  obtain ⟨i5, ei5⟩ := is_v r5
  obtain rfl : w5 = (.int i5) := Option.some.inj ei5
  obtain ⟨n, o, h1, h2, h3, _, L, rfl, ⟨⟨rfl, -⟩, N⟩, hq⟩ := rm0 l s _ hw s.heap.size i0 i1 i2 i3 i4 i5 s.heap (Nat.le_refl _) tables_1 p e ha hc hk s m _ below hf ((Spec.applies_iff_loose hf).mp happ).1 ⟨rfl, State.Warmed39.refl s, rfl⟩ trivial
  refine ⟨n, _, h1, h2, h3, hpost _ _ _ _ _ _ ⟨Cond.after_iff.mpr rfl, Cond.after_iff.mpr (eq_i res_at (Term.int_eval (1)) rfl), trivial⟩ ⟨hq.1, hq.2.1, (hq.2.2.sift fun y hy => Or.inr (N y hy)).mono (by decide) (by decide)⟩⟩
theorem main_1_1 : Claimed_1_1 := comes_1 fun _ _ _ _ _ _ h hF => ⟨h.1, hF⟩
theorem main_1_2 : Claimed_1_2 := comes_1 fun _ _ _ _ _ _ h hF => ⟨h.2.1, hF⟩
end Jvm.Pilot.@@N@@
namespace Jvm.Pilot.@@N@@
open Jvm Jvm.ClassFile Sem Op Lib Jvm.Free Jvm.Stand Jvm.Pilot.@@N@@.Jvm.D
/-! MADE BY PROGRAM (witnessworld.py) out of the Statement's table words and the real class files: 9 classes; the members and pool entries that the words name. The judged class is class 1, her method 2. -/
namespace start1
open Jvm.ClassFile
def u (s : String) : CpInfo := .utf8 (stringToUtf16 s)
/-- a pool by its gaps: so many unusable entries, then the entry; so many at the end -/
def gap : Nat → List CpInfo → List CpInfo
  | 0, r => r
  | n + 1, r => .unusable :: gap n r
def poolList (es : List (Nat × CpInfo)) (last : Nat) : List CpInfo := es.foldr (fun e r => gap e.1 (e.2 :: r)) (gap last [])
def pool (es : List (Nat × CpInfo)) (last : Nat) : Array CpInfo := ⟨poolList es last⟩
def fileOf (pool : Array CpInfo) (this : Nat) (attrs : Array Attribute := #[]) (ms : Array MethodInfo := #[]) (fl : Nat := 33) (sup : Nat := 0) (ifs : Array Nat := #[]) (fds : Array FieldInfo := #[]) : ClassFile where
  minorVersion := 0
  majorVersion := 65
  constantPool := pool
  accessFlags := fl
  thisClass := this
  superClass := sup
  interfaces := ifs
  fields := fds
  methods := ms
  attributes := attrs
def plain (name : String) (sup : Option ClassId) : Class where
  name := name
  kind := .ordinary
  loader := none
  accessFlags := 33
  super := sup
  interfaces := #[]
  cf := none
  fields := #[]
  methods := #[]
  instanceTypes := #[]
  staticTypes := #[]
  resolved := #[]
  callSites := []
  init := .initialized
  statics := none
  mirror := none

def pool0 : Array CpInfo := pool [(5, u "<init>"), (0, u "()V"), (1, .class_ 10), (1, u "java/lang/Object")] 113

def k0m0 : Method := { name := "<init>", desc := "()V", sig := { parameters := [], returnType := none }, accessFlags := 1, code := none }
/-- java/lang/Object -/
def k0 : Class := { plain "java/lang/Object" none with
  accessFlags := 33
  interfaces := #[]
  cf := some (fileOf pool0 8 #[] #[{ accessFlags := 1, nameIndex := 5, descriptorIndex := 6, attributes := #[] }] 33 0 #[] #[])
  fields := #[]
  methods := #[k0m0]
  instanceTypes := #[]
  staticTypes := #[]
  resolved := Array.replicate 124 none
  statics := none }

def pool1 : Array CpInfo := pool [(2, .class_ 4), (1, u "java/lang/Object"), (0, u "<init>"), (0, u "()V"), (0, .long 256), (1, .methodref 10 11), (0, .class_ 12), (0, .nameAndType 13 14), (0, u "com/example/sheath/sheath/EspGetIntPinLaw"), (0, u "unsigned"), (0, u "(B)J"), (0, .long 16777216), (1, .long 65536), (1, .methodref 20 21), (0, .class_ 22), (0, .nameAndType 23 24), (0, u "com/example/sheath/sheath/Esp"), (0, u "getInt"), (0, u "([BI)I"), (2, u "law"), (0, u "(IIIIII)Z")] 5

def k1m0 : Method := { name := "<init>", desc := "()V", sig := { parameters := [], returnType := none }, accessFlags := 1, code := none }
def k1c1 : Code := { maxStack := 4, maxLocals := 1, code := method_2_code, exceptionTable := #[], attributes := #[] }
def k1m1 : Method := { name := "unsigned", desc := "(B)J", sig := { parameters := [.byte], returnType := some .long }, accessFlags := 10, code := some k1c1 }
def k1c2 : Code := { maxStack := 6, maxLocals := 12, code := code, exceptionTable := #[], attributes := #[] }
def k1m2 : Method := { name := "law", desc := "(IIIIII)Z", sig := { parameters := [.int, .int, .int, .int, .int, .int], returnType := some .boolean }, accessFlags := 9, code := some k1c2 }
/-- com/example/sheath/sheath/EspGetIntPinLaw -/
def k1 : Class := { plain "com/example/sheath/sheath/EspGetIntPinLaw" (some 0) with
  accessFlags := 49
  interfaces := #[]
  cf := some (fileOf pool1 10 #[] #[{ accessFlags := 1, nameIndex := 5, descriptorIndex := 6, attributes := #[] }, { accessFlags := 10, nameIndex := 13, descriptorIndex := 14, attributes := #[] }, { accessFlags := 9, nameIndex := 27, descriptorIndex := 28, attributes := #[] }] 49 2 #[] #[])
  fields := #[]
  methods := #[k1m0, k1m1, k1m2]
  instanceTypes := #[]
  staticTypes := #[]
  resolved := Array.replicate 34 none
  statics := none }

def pool2 : Array CpInfo := pool [(4, .class_ 6), (1, u "java/lang/Object"), (0, u "<init>"), (0, u "()V"), (0, .class_ 10), (0, u "com/example/sheath/sheath/Esp"), (0, u "PROTOCOL"), (0, u "I"), (2, u "HEADER_LENGTH"), (1, u "TRAILER_LENGTH"), (1, u "MAX_DATAGRAM_LENGTH"), (1, u "UDP_HEADER_LENGTH"), (0, u "HOP_LIMIT"), (1, u "MAX_SEQUENCE"), (0, u "J"), (6, u "getInt"), (0, u "([BI)I")] 2

def k2m0 : Method := { name := "<init>", desc := "()V", sig := { parameters := [], returnType := none }, accessFlags := 2, code := none }
def k2c1 : Code := { maxStack := 4, maxLocals := 2, code := prog_2_method_3_code, exceptionTable := #[], attributes := #[] }
def k2m1 : Method := { name := "getInt", desc := "([BI)I", sig := { parameters := [(.array .byte), .int], returnType := some .int }, accessFlags := 8, code := some k2c1 }
/-- com/example/sheath/sheath/Esp -/
def k2 : Class := { plain "com/example/sheath/sheath/Esp" (some 0) with
  accessFlags := 48
  interfaces := #[]
  cf := some (fileOf pool2 9 #[] #[{ accessFlags := 2, nameIndex := 7, descriptorIndex := 8, attributes := #[] }, { accessFlags := 8, nameIndex := 32, descriptorIndex := 33, attributes := #[] }] 48 4 #[] #[{ accessFlags := 24, nameIndex := 11, descriptorIndex := 12, attributes := #[] }, { accessFlags := 24, nameIndex := 15, descriptorIndex := 12, attributes := #[] }, { accessFlags := 24, nameIndex := 17, descriptorIndex := 12, attributes := #[] }, { accessFlags := 24, nameIndex := 19, descriptorIndex := 12, attributes := #[] }, { accessFlags := 24, nameIndex := 21, descriptorIndex := 12, attributes := #[] }, { accessFlags := 24, nameIndex := 22, descriptorIndex := 12, attributes := #[] }, { accessFlags := 24, nameIndex := 24, descriptorIndex := 25, attributes := #[] }])
  fields := #[{ name := "PROTOCOL", type := .int, accessFlags := 24, slot := 0, constantValue := 0 }, { name := "HEADER_LENGTH", type := .int, accessFlags := 24, slot := 1, constantValue := 0 }, { name := "TRAILER_LENGTH", type := .int, accessFlags := 24, slot := 2, constantValue := 0 }, { name := "MAX_DATAGRAM_LENGTH", type := .int, accessFlags := 24, slot := 3, constantValue := 0 }, { name := "UDP_HEADER_LENGTH", type := .int, accessFlags := 24, slot := 4, constantValue := 0 }, { name := "HOP_LIMIT", type := .int, accessFlags := 24, slot := 5, constantValue := 0 }, { name := "MAX_SEQUENCE", type := .long, accessFlags := 24, slot := 6, constantValue := 0 }]
  methods := #[k2m0, k2m1]
  instanceTypes := #[]
  staticTypes := #[.int, .int, .int, .int, .int, .int, .long]
  resolved := Array.replicate 36 none
  statics := none }

def pool3 : Array CpInfo := pool [(1, u "java/lang/Cloneable"), (0, .class_ 1), (0, u "java/lang/Object"), (0, .class_ 3)] 3

/-- java/lang/Cloneable -/
def k3 : Class := { plain "java/lang/Cloneable" (some 0) with
  accessFlags := 1537
  interfaces := #[]
  cf := some (fileOf pool3 2 #[] #[] 1537 4 #[] #[])
  fields := #[]
  methods := #[]
  instanceTypes := #[]
  staticTypes := #[]
  resolved := Array.replicate 8 none
  statics := none }

def pool4 : Array CpInfo := pool [(1, u "java/io/Serializable"), (0, .class_ 1), (0, u "java/lang/Object"), (0, .class_ 3)] 3

/-- java/io/Serializable -/
def k4 : Class := { plain "java/io/Serializable" (some 0) with
  accessFlags := 1537
  interfaces := #[]
  cf := some (fileOf pool4 2 #[] #[] 1537 4 #[] #[])
  fields := #[]
  methods := #[]
  instanceTypes := #[]
  staticTypes := #[]
  resolved := Array.replicate 8 none
  statics := none }

/-- the primitive byte -/
def k5 : Class := { plain "byte" none with kind := .primitive 'B', accessFlags := 0x411 }
/-- [B -/
def k6 : Class := { plain "[B" (some 0) with kind := .array 5 .byte, interfaces := #[3, 4], accessFlags := 1041 }

/-- the primitive int -/
def k7 : Class := { plain "int" none with kind := .primitive 'I', accessFlags := 0x411 }
/-- [I -/
def k8 : Class := { plain "[I" (some 0) with kind := .array 7 .int, interfaces := #[3, 4], accessFlags := 1041 }

def heap : Heap := #[]
def classes : Array Class := #[k0, k1, k2, k3, k4, k5, k6, k7, k8]
def interned : List (Array UInt16 × Addr) := []
def slotsUsed : Nat := 0
def theMethod : MethodId := ⟨1, 2⟩
def args0 : Array Value := #[.int 1, .int 2, .int 3, .int 4, .int 5, .int 6]
def aboutOver (below : List Frame) : State where
  vm := { classes := classes, interned := interned.toArray }
  heap := heap
  slotsUsed := slotsUsed
  threads := #[{ frames := .invoking theMethod args0 :: below }]
def below0 : List Frame := [.native { method := ⟨0, 0⟩, args := #[] }]
def about1 : State := aboutOver below0
def p0 : Program := .bare "" "" ""
def e0 : Env := launch0.env 0 0 0
theorem w_frames : about1.frames = Frame.invoking theMethod args0 :: below0 := rfl
set_option maxRecDepth 65536 in
theorem w_args : argsFit about1.vm theMethod args0 = true := by decide +kernel
set_option maxRecDepth 65536 in
theorem w_heap : heapFits about1 = true := by decide +kernel
set_option maxRecDepth 65536 in
theorem w_runnable : about1.curStatus? = some .runnable := by decide +kernel
set_option maxRecDepth 65536 in
theorem w_alone : about1.alone = true := by decide +kernel
set_option maxRecDepth 65536 in
theorem w_named : about1.methodNamed? x = some theMethod := by decide +kernel
set_option maxRecDepth 65536 in
theorem w_hears : about1.hears theMethod below0 = true := by decide +kernel
set_option maxRecDepth 65536 in
theorem w_ripe : about1.ripe theMethod args0 below0 = true := by decide +kernel
theorem w_running : about1.status = .running := rfl
set_option maxRecDepth 65536 in
theorem w_room : about1.hasRoom e0.platform room_1 = true :=
  launch0.hasRoom_least _ room_1 (by decide +kernel) (by decide +kernel) (by decide +kernel) (by decide +kernel) (by decide +kernel) (by decide +kernel)
theorem allAtoms_all (ts : List Jvm.Cond) (a : Array Jvm.Value) (st : Jvm.State) : (allAtoms ts).before a st = ts.all (fun c => c.before a st) := by
  induction ts with
  | nil => rfl
  | cons c t ih =>
    show (Jvm.Cond.and c (allAtoms t)).before a st = _
    rw [Jvm.Cond.before_and, ih, List.all_cons]
def words1 : List Jvm.Cond := Jvm.Cond.code x code maxLocals ret :: tables_1
/-- a 'code' word, met by the world's own term for the bytes: nothing is compared byte by byte -/
theorem code_word {y : MethodName} {bytes : ByteArray} {mx : Nat} {rt : Option FieldType} {a : Array Value} {s : State} {m : MethodId} {meth : Method} {c : Code} (h1 : s.methodNamed? y = some m) (h2 : s.vm.method? m = some meth) (h3 : meth.code = some c) (h4 : c.code = bytes)
    (h5 : (c.maxLocals == mx && c.exceptionTable.isEmpty && decide (c.maxStack ≤ mostOperands) && decide (meth.sig.returnType = rt) && !meth.locks && decide (parseMethodDescriptor y.desc = some meth.sig)) = true) : (Jvm.Cond.code y bytes mx rt).before a s = true := by
  simp only [Bool.and_eq_true, beq_iff_eq, Bool.not_eq_true', decide_eq_true_eq] at h5
  obtain ⟨⟨⟨⟨⟨g1, g2⟩, g3⟩, g4⟩, g5⟩, g6⟩ := h5
  simp [Cond.before, Cond.holds, Cond.value, h1, h2, h3, h4, g1, g2, g3, g4, g5, g6]
def isCode : Jvm.Cond → Bool
  | .code _ _ _ _ => true
  | _ => false
theorem all_split {L : List Jvm.Cond} {P : Jvm.Cond → Bool} (h1 : L.all (fun c => isCode c || P c) = true) (h2 : ∀ c ∈ L.filter isCode, P c = true) : L.all P = true := by
  refine List.all_eq_true.mpr fun c hc => ?_
  have h := List.all_eq_true.mp h1 c hc
  rcases Bool.eq_false_or_eq_true (isCode c) with hi | hi
  · exact h2 c (List.mem_filter.mpr ⟨hc, hi⟩)
  · simpa [hi] using h
set_option maxRecDepth 65536 in
theorem w_c0 : (Jvm.Cond.code x code maxLocals ret).before args0 about1 = true := code_word (m := ⟨1, 2⟩) (meth := k1m2) (c := k1c2) (by decide +kernel) rfl rfl rfl (by decide +kernel)
set_option maxRecDepth 65536 in
theorem w_c1 : (Jvm.Cond.code ({ cls := "com/example/sheath/sheath/EspGetIntPinLaw", name := "unsigned", desc := "(B)J" } : Jvm.MethodName) method_2_code (1 : Nat) (Option.some Jvm.ClassFile.FieldType.long)).before args0 about1 = true := code_word (m := ⟨1, 1⟩) (meth := k1m1) (c := k1c1) (by decide +kernel) rfl rfl rfl (by decide +kernel)
set_option maxRecDepth 65536 in
theorem w_c2 : (Jvm.Cond.code ({ cls := "com/example/sheath/sheath/Esp", name := "getInt", desc := "([BI)I" } : Jvm.MethodName) prog_2_method_3_code (2 : Nat) (Option.some Jvm.ClassFile.FieldType.int)).before args0 about1 = true := code_word (m := ⟨2, 1⟩) (meth := k2m1) (c := k2c1) (by decide +kernel) rfl rfl rfl (by decide +kernel)
def codes1 : List Jvm.Cond := [Jvm.Cond.code x code maxLocals ret, Jvm.Cond.code ({ cls := "com/example/sheath/sheath/EspGetIntPinLaw", name := "unsigned", desc := "(B)J" } : Jvm.MethodName) method_2_code (1 : Nat) (Option.some Jvm.ClassFile.FieldType.long), Jvm.Cond.code ({ cls := "com/example/sheath/sheath/Esp", name := "getInt", desc := "([BI)I" } : Jvm.MethodName) prog_2_method_3_code (2 : Nat) (Option.some Jvm.ClassFile.FieldType.int)]
set_option maxRecDepth 65536 in
theorem codes_eq : words1.filter isCode = codes1 := rfl
theorem w_codes : ∀ c ∈ words1.filter isCode, c.before args0 about1 = true := by
  rw [codes_eq]
  intro c hc
  simp only [codes1, List.mem_cons, List.not_mem_nil, or_false] at hc
  rcases hc with rfl | rfl | rfl
  · exact w_c0
  · exact w_c1
  · exact w_c2
set_option maxRecDepth 65536 in
theorem w_t1 : words1.all (fun c => isCode c || c.before args0 about1) = true := by decide +kernel
theorem w_tables : (allAtoms (Jvm.Cond.code x code maxLocals ret :: tables_1)).before args0 about1 = true := by
  rw [allAtoms_all]
  show words1.all (fun c => c.before args0 about1) = true
  refine all_split ?_ w_codes
  rw [w_t1]
set_option maxRecDepth 65536 in
theorem w_case : (Jvm.Cond.and given_1 narrow_1).before args0 about1 = true := by decide +kernel
theorem w_applies : (headSpec (Jvm.Cond.code x code maxLocals ret :: tables_1) room_1).applies x e0.platform about1 = true :=
  (Spec.applies_iff w_frames).mpr ⟨w_running, w_runnable, w_alone, w_named, w_hears, w_ripe, w_room, w_tables⟩
theorem atStart : AtStart classFile x code maxLocals ret World_1 tables_1 room_1 Calls_1 rest_1 Pre_1 launch0 p0 e0 about1 theMethod args0 below0 :=
  ⟨lists_1, trivial, launch0.admits_env _ _ _, launch0.least_env, fairChoices_fair.cas, fairChoices_fair.clock, w_frames, w_args, w_heap, w_applies, trivial, trivial, w_case⟩
end start1
theorem witness_1 : WitnessClaimed_1 := ⟨start1.p0, start1.e0, start1.about1, start1.theMethod, start1.args0, start1.below0, start1.atStart⟩
end Jvm.Pilot.@@N@@
