import JvmDerived
import JvmDerived.Pilot.@@N@@Statement
import JvmDerived.Pilot.@@N@@Code
set_option linter.unusedVariables false
set_option linter.unusedSimpArgs false
namespace Jvm.Pilot.@@N@@
open Jvm Jvm.ClassFile Sem Op Lib Jvm.Free Jvm.Stand Jvm.LawKit Jvm.RoadKit Bundle Jvm.Pilot.@@N@@.Jvm.D
section OwnKit
def own_G (p : Program) (e : Env) (below : List Frame) (Φ : State → Outcome → Prop) (T : State) (f : JFrame) : Prop := ∃ s₂ o, Steps p.tables e below (T.setTop f) s₂ ∧ Φ s₂ o
def own_S (Z : State) (n0 : Nat) (bytes : ByteArray) (y : MethodName) (ml : Nat) (ret : Option FieldType) (p : Program) (l : Launch) (e : Env) (R : Room) (s : State) (m : MethodId) (args : Array Value) (below : List Frame) (meth : Method) (c : Code) (T : State) (k sl : Nat) (h : Heap) : Prop :=
  (∃ locs, Stand p l e R s m args below meth c T locs k sl ∧ Fr n0 locs) ∧ T.heap = h ∧ n0 ≤ s.heap.size ∧ p.tables.exec = Jvm.exec ∧ Z.Warmed39 s.vm ∧ c.code = bytes ∧ c.maxLocals = ml ∧ s.vm.findClass y.cls = some m.cls ∧ meth.name = y.name ∧ meth.sig.returnType = ret ∧ meth.locks = false
def own_Q (n0 : Nat) (below : List Frame) (s : State) (R : Room) (w : Option Value) (Θ : Heap → Prop) : State → Outcome → Prop := fun s₂ o => s₂.status = .running ∧ Ended s₂ below o ∧ ∃ v L, o = .returned v ∧ ((v = w ∧ Θ s₂.heap) ∧ Fr n0 L) ∧ FrameEnd s o s₂ L R.cells R.slots
def own_Met (l : Launch) (y : MethodName) (bytes : ByteArray) (ml : Nat) (ret : Option FieldType) (rm : Room) (Z : State) (n0 : Nat) (as : Array Value) (h0 : Heap) (w : Option Value) (Θ : Heap → Prop) : Prop :=
  ∀ ws, MetFree l y (head1 (Jvm.Cond.code y bytes ml ret :: ws) rm) (fun a U => a = as ∧ Z.Warmed39 U.vm ∧ U.heap = h0) (fun _ _ _ _ _ => True) (fun _ U o U' => ∃ v L, o = .returned v ∧ ((v = w ∧ Θ U'.heap) ∧ Fr n0 L) ∧ FrameEnd U o U' L rm.cells rm.slots)
theorem own_met {l : Launch} {y : MethodName} {bytes : ByteArray} {ml : Nat} {ret : Option FieldType} {rm : Room} {Z : State} {n0 : Nat} {as : Array Value} {h0 : Heap} {w : Option Value} {Θ : Heap → Prop} (hp : plainFor y = true) (hn0 : n0 ≤ h0.size)
    (body : ∀ p e s m below meth c T, own_S Z n0 bytes y ml ret p l e rm s m as below meth c T 0 0 h0 → own_G p e below (own_Q n0 below s rm w Θ) T (entryFrame m as ml)) : own_Met l y bytes ml ret rm Z n0 as h0 w Θ := by
  intro ws
  refine MetFree.of_bodySF hp hisR ?_
  intro p e s m args below meth c s₁ Bd hml0 hP hK
  obtain ⟨rfl, hZ, hh⟩ := hP
  obtain ⟨s₂, o, st, h1, h2, h3⟩ := body p e s m below meth c s₁ ⟨⟨[], Stand.of_body Bd, Fr.nil n0⟩, by rw [← hh, Bd.state]; rfl, by rw [hh]; exact hn0, Bd.exec, hZ, Bd.bytes, hml0, findClass_of_methodNamed Bd.named, (name_of_methodNamed Bd.named Bd.method).1, Bd.returns, BodyLoose.notSynchronized Bd⟩
  exact ⟨s₂, o, st, h1, h2, h3⟩
variable {Z : State} {n0 : Nat} {bytes : ByteArray} {y : MethodName} {ml : Nat} {ret : Option FieldType} {p : Program} {l : Launch} {e : Env} {R : Room} {s : State} {m : MethodId} {args : Array Value} {below : List Frame} {meth : Method} {c : Code} {T : State} {k sl : Nat} {h : Heap} {Φ : State → Outcome → Prop} {pc pc' : Nat} {Ls Ls' : Array Slot} {S : List Value} {a0 : Array Value}
theorem own_cast {f f' : JFrame} (q : f = f') (K : own_G p e below Φ T f') : own_G p e below Φ T f := q ▸ K
theorem own_by {T T' : State} {f f' : JFrame} (K : own_G p e below Φ T' f') (st : ∀ t, Steps p.tables e below (T'.setTop f') t → Steps p.tables e below (T.setTop f) t) : own_G p e below Φ T f := by
  obtain ⟨s₂, o, q, r⟩ := K
  exact ⟨s₂, o, st _ q, r⟩
theorem own_S.size (X : own_S Z n0 bytes y ml ret p l e R s m args below meth c T k sl h) : n0 ≤ h.size := by
  obtain ⟨⟨locs, Y, N⟩, hh, hn, hx, hZ, hby, hml, hown, hnm, hret, hlk⟩ := X
  subst hh
  exact Nat.le_trans hn Y.same.2.1
theorem own_iadd (X : own_S Z n0 bytes y ml ret p l e R s m args below meth c T k sl h) {a b r : Int32} (hd : decode bytes pc = .ok (.iadd, 1)) (hpc : pc + 1 = pc') (hr : a + b = r) (K : own_G p e below Φ T (mkF m pc' Ls (.int r :: S))) : own_G p e below Φ T (mkF m pc Ls (.int b :: .int a :: S)) := by
  obtain ⟨⟨locs, Y, N⟩, hh, hn, hx, hZ, hby, hml, hown, hnm, hret, hlk⟩ := X
  subst hpc
  exact own_by K fun t kk => XS.iadd Y.here hx rfl (hb hby hd) rfl (hr ▸ kk)
theorem own_ladd (X : own_S Z n0 bytes y ml ret p l e R s m args below meth c T k sl h) {a b r : Int64} (hd : decode bytes pc = .ok (.ladd, 1)) (hpc : pc + 1 = pc') (hr : a + b = r) (K : own_G p e below Φ T (mkF m pc' Ls (.long r :: S))) : own_G p e below Φ T (mkF m pc Ls (.long b :: .long a :: S)) := by
  obtain ⟨⟨locs, Y, N⟩, hh, hn, hx, hZ, hby, hml, hown, hnm, hret, hlk⟩ := X
  subst hpc
  exact own_by K fun t kk => XS.ladd Y.here hx rfl (hb hby hd) rfl (hr ▸ kk)
theorem own_isub (X : own_S Z n0 bytes y ml ret p l e R s m args below meth c T k sl h) {a b r : Int32} (hd : decode bytes pc = .ok (.isub, 1)) (hpc : pc + 1 = pc') (hr : a - b = r) (K : own_G p e below Φ T (mkF m pc' Ls (.int r :: S))) : own_G p e below Φ T (mkF m pc Ls (.int b :: .int a :: S)) := by
  obtain ⟨⟨locs, Y, N⟩, hh, hn, hx, hZ, hby, hml, hown, hnm, hret, hlk⟩ := X
  subst hpc
  exact own_by K fun t kk => XS.isub Y.here hx rfl (hb hby hd) rfl (hr ▸ kk)
theorem own_lsub (X : own_S Z n0 bytes y ml ret p l e R s m args below meth c T k sl h) {a b r : Int64} (hd : decode bytes pc = .ok (.lsub, 1)) (hpc : pc + 1 = pc') (hr : a - b = r) (K : own_G p e below Φ T (mkF m pc' Ls (.long r :: S))) : own_G p e below Φ T (mkF m pc Ls (.long b :: .long a :: S)) := by
  obtain ⟨⟨locs, Y, N⟩, hh, hn, hx, hZ, hby, hml, hown, hnm, hret, hlk⟩ := X
  subst hpc
  exact own_by K fun t kk => XS.lsub Y.here hx rfl (hb hby hd) rfl (hr ▸ kk)
theorem own_imul (X : own_S Z n0 bytes y ml ret p l e R s m args below meth c T k sl h) {a b r : Int32} (hd : decode bytes pc = .ok (.imul, 1)) (hpc : pc + 1 = pc') (hr : a * b = r) (K : own_G p e below Φ T (mkF m pc' Ls (.int r :: S))) : own_G p e below Φ T (mkF m pc Ls (.int b :: .int a :: S)) := by
  obtain ⟨⟨locs, Y, N⟩, hh, hn, hx, hZ, hby, hml, hown, hnm, hret, hlk⟩ := X
  subst hpc
  exact own_by K fun t kk => XS.imul Y.here hx rfl (hb hby hd) rfl (hr ▸ kk)
theorem own_lmul (X : own_S Z n0 bytes y ml ret p l e R s m args below meth c T k sl h) {a b r : Int64} (hd : decode bytes pc = .ok (.lmul, 1)) (hpc : pc + 1 = pc') (hr : a * b = r) (K : own_G p e below Φ T (mkF m pc' Ls (.long r :: S))) : own_G p e below Φ T (mkF m pc Ls (.long b :: .long a :: S)) := by
  obtain ⟨⟨locs, Y, N⟩, hh, hn, hx, hZ, hby, hml, hown, hnm, hret, hlk⟩ := X
  subst hpc
  exact own_by K fun t kk => XS.lmul Y.here hx rfl (hb hby hd) rfl (hr ▸ kk)
theorem own_iand (X : own_S Z n0 bytes y ml ret p l e R s m args below meth c T k sl h) {a b r : Int32} (hd : decode bytes pc = .ok (.iand, 1)) (hpc : pc + 1 = pc') (hr : a &&& b = r) (K : own_G p e below Φ T (mkF m pc' Ls (.int r :: S))) : own_G p e below Φ T (mkF m pc Ls (.int b :: .int a :: S)) := by
  obtain ⟨⟨locs, Y, N⟩, hh, hn, hx, hZ, hby, hml, hown, hnm, hret, hlk⟩ := X
  subst hpc
  exact own_by K fun t kk => XS.iand Y.here hx rfl (hb hby hd) rfl (hr ▸ kk)
theorem own_land (X : own_S Z n0 bytes y ml ret p l e R s m args below meth c T k sl h) {a b r : Int64} (hd : decode bytes pc = .ok (.land, 1)) (hpc : pc + 1 = pc') (hr : a &&& b = r) (K : own_G p e below Φ T (mkF m pc' Ls (.long r :: S))) : own_G p e below Φ T (mkF m pc Ls (.long b :: .long a :: S)) := by
  obtain ⟨⟨locs, Y, N⟩, hh, hn, hx, hZ, hby, hml, hown, hnm, hret, hlk⟩ := X
  subst hpc
  exact own_by K fun t kk => XS.land Y.here hx rfl (hb hby hd) rfl (hr ▸ kk)
theorem own_ior (X : own_S Z n0 bytes y ml ret p l e R s m args below meth c T k sl h) {a b r : Int32} (hd : decode bytes pc = .ok (.ior, 1)) (hpc : pc + 1 = pc') (hr : a ||| b = r) (K : own_G p e below Φ T (mkF m pc' Ls (.int r :: S))) : own_G p e below Φ T (mkF m pc Ls (.int b :: .int a :: S)) := by
  obtain ⟨⟨locs, Y, N⟩, hh, hn, hx, hZ, hby, hml, hown, hnm, hret, hlk⟩ := X
  subst hpc
  exact own_by K fun t kk => XS.ior Y.here hx rfl (hb hby hd) rfl (hr ▸ kk)
theorem own_lor (X : own_S Z n0 bytes y ml ret p l e R s m args below meth c T k sl h) {a b r : Int64} (hd : decode bytes pc = .ok (.lor, 1)) (hpc : pc + 1 = pc') (hr : a ||| b = r) (K : own_G p e below Φ T (mkF m pc' Ls (.long r :: S))) : own_G p e below Φ T (mkF m pc Ls (.long b :: .long a :: S)) := by
  obtain ⟨⟨locs, Y, N⟩, hh, hn, hx, hZ, hby, hml, hown, hnm, hret, hlk⟩ := X
  subst hpc
  exact own_by K fun t kk => XS.lor Y.here hx rfl (hb hby hd) rfl (hr ▸ kk)
theorem own_ixor (X : own_S Z n0 bytes y ml ret p l e R s m args below meth c T k sl h) {a b r : Int32} (hd : decode bytes pc = .ok (.ixor, 1)) (hpc : pc + 1 = pc') (hr : a ^^^ b = r) (K : own_G p e below Φ T (mkF m pc' Ls (.int r :: S))) : own_G p e below Φ T (mkF m pc Ls (.int b :: .int a :: S)) := by
  obtain ⟨⟨locs, Y, N⟩, hh, hn, hx, hZ, hby, hml, hown, hnm, hret, hlk⟩ := X
  subst hpc
  exact own_by K fun t kk => XS.ixor Y.here hx rfl (hb hby hd) rfl (hr ▸ kk)
theorem own_lxor (X : own_S Z n0 bytes y ml ret p l e R s m args below meth c T k sl h) {a b r : Int64} (hd : decode bytes pc = .ok (.lxor, 1)) (hpc : pc + 1 = pc') (hr : a ^^^ b = r) (K : own_G p e below Φ T (mkF m pc' Ls (.long r :: S))) : own_G p e below Φ T (mkF m pc Ls (.long b :: .long a :: S)) := by
  obtain ⟨⟨locs, Y, N⟩, hh, hn, hx, hZ, hby, hml, hown, hnm, hret, hlk⟩ := X
  subst hpc
  exact own_by K fun t kk => XS.lxor Y.here hx rfl (hb hby hd) rfl (hr ▸ kk)
theorem own_ishl (X : own_S Z n0 bytes y ml ret p l e R s m args below meth c T k sl h) {a r : Int32} {b : Int32} (hd : decode bytes pc = .ok (.ishl, 1)) (hpc : pc + 1 = pc') (hr : (a <<< (b &&& 31)) = r) (K : own_G p e below Φ T (mkF m pc' Ls (.int r :: S))) : own_G p e below Φ T (mkF m pc Ls (.int b :: .int a :: S)) := by
  obtain ⟨⟨locs, Y, N⟩, hh, hn, hx, hZ, hby, hml, hown, hnm, hret, hlk⟩ := X
  subst hpc
  exact own_by K fun t kk => XS.ishl Y.here hx rfl (hb hby hd) rfl (hr ▸ kk)
theorem own_ishr (X : own_S Z n0 bytes y ml ret p l e R s m args below meth c T k sl h) {a r : Int32} {b : Int32} (hd : decode bytes pc = .ok (.ishr, 1)) (hpc : pc + 1 = pc') (hr : (a >>> (b &&& 31)) = r) (K : own_G p e below Φ T (mkF m pc' Ls (.int r :: S))) : own_G p e below Φ T (mkF m pc Ls (.int b :: .int a :: S)) := by
  obtain ⟨⟨locs, Y, N⟩, hh, hn, hx, hZ, hby, hml, hown, hnm, hret, hlk⟩ := X
  subst hpc
  exact own_by K fun t kk => XS.ishr Y.here hx rfl (hb hby hd) rfl (hr ▸ kk)
theorem own_iushr (X : own_S Z n0 bytes y ml ret p l e R s m args below meth c T k sl h) {a r : Int32} {b : Int32} (hd : decode bytes pc = .ok (.iushr, 1)) (hpc : pc + 1 = pc') (hr : ((a.toUInt32 >>> (b &&& 31).toUInt32).toInt32) = r) (K : own_G p e below Φ T (mkF m pc' Ls (.int r :: S))) : own_G p e below Φ T (mkF m pc Ls (.int b :: .int a :: S)) := by
  obtain ⟨⟨locs, Y, N⟩, hh, hn, hx, hZ, hby, hml, hown, hnm, hret, hlk⟩ := X
  subst hpc
  exact own_by K fun t kk => XS.iushr Y.here hx rfl (hb hby hd) rfl (hr ▸ kk)
theorem own_lshl (X : own_S Z n0 bytes y ml ret p l e R s m args below meth c T k sl h) {a r : Int64} {b : Int32} (hd : decode bytes pc = .ok (.lshl, 1)) (hpc : pc + 1 = pc') (hr : (a <<< (b &&& 0x3f).toInt64) = r) (K : own_G p e below Φ T (mkF m pc' Ls (.long r :: S))) : own_G p e below Φ T (mkF m pc Ls (.int b :: .long a :: S)) := by
  obtain ⟨⟨locs, Y, N⟩, hh, hn, hx, hZ, hby, hml, hown, hnm, hret, hlk⟩ := X
  subst hpc
  exact own_by K fun t kk => XS.lshl Y.here hx rfl (hb hby hd) rfl (hr ▸ kk)
theorem own_lshr (X : own_S Z n0 bytes y ml ret p l e R s m args below meth c T k sl h) {a r : Int64} {b : Int32} (hd : decode bytes pc = .ok (.lshr, 1)) (hpc : pc + 1 = pc') (hr : (a >>> (b &&& 0x3f).toInt64) = r) (K : own_G p e below Φ T (mkF m pc' Ls (.long r :: S))) : own_G p e below Φ T (mkF m pc Ls (.int b :: .long a :: S)) := by
  obtain ⟨⟨locs, Y, N⟩, hh, hn, hx, hZ, hby, hml, hown, hnm, hret, hlk⟩ := X
  subst hpc
  exact own_by K fun t kk => XS.lshr Y.here hx rfl (hb hby hd) rfl (hr ▸ kk)
theorem own_lushr (X : own_S Z n0 bytes y ml ret p l e R s m args below meth c T k sl h) {a r : Int64} {b : Int32} (hd : decode bytes pc = .ok (.lushr, 1)) (hpc : pc + 1 = pc') (hr : ((a.toUInt64 >>> (b &&& 0x3f).toInt64.toUInt64).toInt64) = r) (K : own_G p e below Φ T (mkF m pc' Ls (.long r :: S))) : own_G p e below Φ T (mkF m pc Ls (.int b :: .long a :: S)) := by
  obtain ⟨⟨locs, Y, N⟩, hh, hn, hx, hZ, hby, hml, hown, hnm, hret, hlk⟩ := X
  subst hpc
  exact own_by K fun t kk => XS.lushr Y.here hx rfl (hb hby hd) rfl (hr ▸ kk)
theorem own_idiv (X : own_S Z n0 bytes y ml ret p l e R s m args below meth c T k sl h) {a b r : Int32} (hd : decode bytes pc = .ok (.idiv, 1)) (hpc : pc + 1 = pc') (hz : b ≠ 0) (hr : a / b = r) (K : own_G p e below Φ T (mkF m pc' Ls (.int r :: S))) : own_G p e below Φ T (mkF m pc Ls (.int b :: .int a :: S)) := by
  obtain ⟨⟨locs, Y, N⟩, hh, hn, hx, hZ, hby, hml, hown, hnm, hret, hlk⟩ := X
  subst hpc
  exact own_by K fun t kk => XS.idiv Y.here hx rfl (hb hby hd) rfl hz (hr ▸ kk)
theorem own_irem (X : own_S Z n0 bytes y ml ret p l e R s m args below meth c T k sl h) {a b r : Int32} (hd : decode bytes pc = .ok (.irem, 1)) (hpc : pc + 1 = pc') (hz : b ≠ 0) (hr : a - (a / b) * b = r) (K : own_G p e below Φ T (mkF m pc' Ls (.int r :: S))) : own_G p e below Φ T (mkF m pc Ls (.int b :: .int a :: S)) := by
  obtain ⟨⟨locs, Y, N⟩, hh, hn, hx, hZ, hby, hml, hown, hnm, hret, hlk⟩ := X
  subst hpc
  exact own_by K fun t kk => XS.irem Y.here hx rfl (hb hby hd) rfl hz (hr ▸ kk)
theorem own_ldiv (X : own_S Z n0 bytes y ml ret p l e R s m args below meth c T k sl h) {a b r : Int64} (hd : decode bytes pc = .ok (.ldiv, 1)) (hpc : pc + 1 = pc') (hz : b ≠ 0) (hr : a / b = r) (K : own_G p e below Φ T (mkF m pc' Ls (.long r :: S))) : own_G p e below Φ T (mkF m pc Ls (.long b :: .long a :: S)) := by
  obtain ⟨⟨locs, Y, N⟩, hh, hn, hx, hZ, hby, hml, hown, hnm, hret, hlk⟩ := X
  subst hpc
  exact own_by K fun t kk => XS.ldiv Y.here hx rfl (hb hby hd) rfl hz (hr ▸ kk)
theorem own_lrem (X : own_S Z n0 bytes y ml ret p l e R s m args below meth c T k sl h) {a b r : Int64} (hd : decode bytes pc = .ok (.lrem, 1)) (hpc : pc + 1 = pc') (hz : b ≠ 0) (hr : a - (a / b) * b = r) (K : own_G p e below Φ T (mkF m pc' Ls (.long r :: S))) : own_G p e below Φ T (mkF m pc Ls (.long b :: .long a :: S)) := by
  obtain ⟨⟨locs, Y, N⟩, hh, hn, hx, hZ, hby, hml, hown, hnm, hret, hlk⟩ := X
  subst hpc
  exact own_by K fun t kk => XS.lrem Y.here hx rfl (hb hby hd) rfl hz (hr ▸ kk)
theorem own_ineg (X : own_S Z n0 bytes y ml ret p l e R s m args below meth c T k sl h) {a : Int32} {r : Int32} (hd : decode bytes pc = .ok (.ineg, 1)) (hpc : pc + 1 = pc') (hr : -a = r) (K : own_G p e below Φ T (mkF m pc' Ls (.int r :: S))) : own_G p e below Φ T (mkF m pc Ls (.int a :: S)) := by
  obtain ⟨⟨locs, Y, N⟩, hh, hn, hx, hZ, hby, hml, hown, hnm, hret, hlk⟩ := X
  subst hpc
  exact own_by K fun t kk => XS.ineg Y.here hx rfl (hb hby hd) rfl (hr ▸ kk)
theorem own_lneg (X : own_S Z n0 bytes y ml ret p l e R s m args below meth c T k sl h) {a : Int64} {r : Int64} (hd : decode bytes pc = .ok (.lneg, 1)) (hpc : pc + 1 = pc') (hr : -a = r) (K : own_G p e below Φ T (mkF m pc' Ls (.long r :: S))) : own_G p e below Φ T (mkF m pc Ls (.long a :: S)) := by
  obtain ⟨⟨locs, Y, N⟩, hh, hn, hx, hZ, hby, hml, hown, hnm, hret, hlk⟩ := X
  subst hpc
  exact own_by K fun t kk => XS.lneg Y.here hx rfl (hb hby hd) rfl (hr ▸ kk)
theorem own_i2l (X : own_S Z n0 bytes y ml ret p l e R s m args below meth c T k sl h) {a : Int32} {r : Int64} (hd : decode bytes pc = .ok (.i2l, 1)) (hpc : pc + 1 = pc') (hr : a.toInt64 = r) (K : own_G p e below Φ T (mkF m pc' Ls (.long r :: S))) : own_G p e below Φ T (mkF m pc Ls (.int a :: S)) := by
  obtain ⟨⟨locs, Y, N⟩, hh, hn, hx, hZ, hby, hml, hown, hnm, hret, hlk⟩ := X
  subst hpc
  exact own_by K fun t kk => XS.i2l Y.here hx rfl (hb hby hd) rfl (hr ▸ kk)
theorem own_l2i (X : own_S Z n0 bytes y ml ret p l e R s m args below meth c T k sl h) {a : Int64} {r : Int32} (hd : decode bytes pc = .ok (.l2i, 1)) (hpc : pc + 1 = pc') (hr : a.toInt32 = r) (K : own_G p e below Φ T (mkF m pc' Ls (.int r :: S))) : own_G p e below Φ T (mkF m pc Ls (.long a :: S)) := by
  obtain ⟨⟨locs, Y, N⟩, hh, hn, hx, hZ, hby, hml, hown, hnm, hret, hlk⟩ := X
  subst hpc
  exact own_by K fun t kk => XS.l2i Y.here hx rfl (hb hby hd) rfl (hr ▸ kk)
theorem own_i2b (X : own_S Z n0 bytes y ml ret p l e R s m args below meth c T k sl h) {a : Int32} {r : Int32} (hd : decode bytes pc = .ok (.i2b, 1)) (hpc : pc + 1 = pc') (hr : a.toInt8.toInt32 = r) (K : own_G p e below Φ T (mkF m pc' Ls (.int r :: S))) : own_G p e below Φ T (mkF m pc Ls (.int a :: S)) := by
  obtain ⟨⟨locs, Y, N⟩, hh, hn, hx, hZ, hby, hml, hown, hnm, hret, hlk⟩ := X
  subst hpc
  exact own_by K fun t kk => XS.i2b Y.here hx rfl (hb hby hd) rfl (hr ▸ kk)
theorem own_i2s (X : own_S Z n0 bytes y ml ret p l e R s m args below meth c T k sl h) {a : Int32} {r : Int32} (hd : decode bytes pc = .ok (.i2s, 1)) (hpc : pc + 1 = pc') (hr : a.toInt16.toInt32 = r) (K : own_G p e below Φ T (mkF m pc' Ls (.int r :: S))) : own_G p e below Φ T (mkF m pc Ls (.int a :: S)) := by
  obtain ⟨⟨locs, Y, N⟩, hh, hn, hx, hZ, hby, hml, hown, hnm, hret, hlk⟩ := X
  subst hpc
  exact own_by K fun t kk => XS.i2s Y.here hx rfl (hb hby hd) rfl (hr ▸ kk)
theorem own_i2c (X : own_S Z n0 bytes y ml ret p l e R s m args below meth c T k sl h) {a : Int32} {r : Int32} (hd : decode bytes pc = .ok (.i2c, 1)) (hpc : pc + 1 = pc') (hr : a.toUInt32.toUInt16.toUInt32.toInt32 = r) (K : own_G p e below Φ T (mkF m pc' Ls (.int r :: S))) : own_G p e below Φ T (mkF m pc Ls (.int a :: S)) := by
  obtain ⟨⟨locs, Y, N⟩, hh, hn, hx, hZ, hby, hml, hown, hnm, hret, hlk⟩ := X
  subst hpc
  exact own_by K fun t kk => XS.i2c Y.here hx rfl (hb hby hd) rfl (hr ▸ kk)
theorem own_lcmp (X : own_S Z n0 bytes y ml ret p l e R s m args below meth c T k sl h) {a b : Int64} (hd : decode bytes pc = .ok (.lcmp, 1)) (hpc : pc + 1 = pc') (K : own_G p e below Φ T (mkF m pc' Ls (.int (lcmpW a b) :: S))) : own_G p e below Φ T (mkF m pc Ls (.long b :: .long a :: S)) := by
  obtain ⟨⟨locs, Y, N⟩, hh, hn, hx, hZ, hby, hml, hown, hnm, hret, hlk⟩ := X
  subst hpc
  exact own_by K fun t kk => XS.lcmp Y.here hx rfl (hb hby hd) rfl kk
theorem own_iconst (X : own_S Z n0 bytes y ml ret p l e R s m args below meth c T k sl h) {i : Int} {v : Int32} (hd : decode bytes pc = .ok (.iconst i, 1)) (hpc : pc + 1 = pc') (hv : Int32.ofInt i = v) (K : own_G p e below Φ T (mkF m pc' Ls (.int v :: S))) : own_G p e below Φ T (mkF m pc Ls (S)) := by
  obtain ⟨⟨locs, Y, N⟩, hh, hn, hx, hZ, hby, hml, hown, hnm, hret, hlk⟩ := X
  subst hpc
  exact own_by K fun t kk => XS.iconst Y.here hx rfl (hb hby hd) (hv ▸ kk)
theorem own_bipush (X : own_S Z n0 bytes y ml ret p l e R s m args below meth c T k sl h) {i : Int} {v : Int32} (hd : decode bytes pc = .ok (.bipush i, 2)) (hpc : pc + 2 = pc') (hv : (Int8.ofInt i).toInt32 = v) (K : own_G p e below Φ T (mkF m pc' Ls (.int v :: S))) : own_G p e below Φ T (mkF m pc Ls (S)) := by
  obtain ⟨⟨locs, Y, N⟩, hh, hn, hx, hZ, hby, hml, hown, hnm, hret, hlk⟩ := X
  subst hpc
  exact own_by K fun t kk => XS.bipush Y.here hx rfl (hb hby hd) (hv ▸ kk)
theorem own_sipush (X : own_S Z n0 bytes y ml ret p l e R s m args below meth c T k sl h) {i : Int} {v : Int32} (hd : decode bytes pc = .ok (.sipush i, 3)) (hpc : pc + 3 = pc') (hv : (Int16.ofInt i).toInt32 = v) (K : own_G p e below Φ T (mkF m pc' Ls (.int v :: S))) : own_G p e below Φ T (mkF m pc Ls (S)) := by
  obtain ⟨⟨locs, Y, N⟩, hh, hn, hx, hZ, hby, hml, hown, hnm, hret, hlk⟩ := X
  subst hpc
  exact own_by K fun t kk => XS.sipush Y.here hx rfl (hb hby hd) (hv ▸ kk)
theorem own_lconst (X : own_S Z n0 bytes y ml ret p l e R s m args below meth c T k sl h) {i : Fin 2} {v : Int64} (hd : decode bytes pc = .ok (.lconst i, 1)) (hpc : pc + 1 = pc') (hv : Int64.ofNat i = v) (K : own_G p e below Φ T (mkF m pc' Ls (.long v :: S))) : own_G p e below Φ T (mkF m pc Ls (S)) := by
  obtain ⟨⟨locs, Y, N⟩, hh, hn, hx, hZ, hby, hml, hown, hnm, hret, hlk⟩ := X
  subst hpc
  exact own_by K fun t kk => XS.lconst Y.here hx rfl (hb hby hd) (hv ▸ kk)
theorem own_aconst_null (X : own_S Z n0 bytes y ml ret p l e R s m args below meth c T k sl h) (hd : decode bytes pc = .ok (.aconst_null, 1)) (hpc : pc + 1 = pc') (K : own_G p e below Φ T (mkF m pc' Ls (.null :: S))) : own_G p e below Φ T (mkF m pc Ls (S)) := by
  obtain ⟨⟨locs, Y, N⟩, hh, hn, hx, hZ, hby, hml, hown, hnm, hret, hlk⟩ := X
  subst hpc
  exact own_by K fun t kk => XS.aconstNull Y.here hx rfl (hb hby hd) kk
theorem own_iload (X : own_S Z n0 bytes y ml ret p l e R s m args below meth c T k sl h) {i : Nat} {v : Int32} (hd : decode bytes pc = .ok (.iload i, 2)) (hpc : pc + 2 = pc') (hl : Ls[i]? = some (.val (.int v))) (K : own_G p e below Φ T (mkF m pc' Ls (.int v :: S))) : own_G p e below Φ T (mkF m pc Ls (S)) := by
  obtain ⟨⟨locs, Y, N⟩, hh, hn, hx, hZ, hby, hml, hown, hnm, hret, hlk⟩ := X
  subst hpc
  exact own_by K fun t kk => XS.iload Y.here hx rfl (hb hby hd) hl kk
theorem own_iloadN (X : own_S Z n0 bytes y ml ret p l e R s m args below meth c T k sl h) {i : Fin 4} {v : Int32} (hd : decode bytes pc = .ok (.iload_n i, 1)) (hpc : pc + 1 = pc') (hl : Ls[i.val]? = some (.val (.int v))) (K : own_G p e below Φ T (mkF m pc' Ls (.int v :: S))) : own_G p e below Φ T (mkF m pc Ls (S)) := by
  obtain ⟨⟨locs, Y, N⟩, hh, hn, hx, hZ, hby, hml, hown, hnm, hret, hlk⟩ := X
  subst hpc
  exact own_by K fun t kk => XS.iloadN Y.here hx rfl (hb hby hd) hl kk
theorem own_lload (X : own_S Z n0 bytes y ml ret p l e R s m args below meth c T k sl h) {i : Nat} {v : Int64} (hd : decode bytes pc = .ok (.lload i, 2)) (hpc : pc + 2 = pc') (hl : Ls[i]? = some (.val (.long v))) (K : own_G p e below Φ T (mkF m pc' Ls (.long v :: S))) : own_G p e below Φ T (mkF m pc Ls (S)) := by
  obtain ⟨⟨locs, Y, N⟩, hh, hn, hx, hZ, hby, hml, hown, hnm, hret, hlk⟩ := X
  subst hpc
  exact own_by K fun t kk => XS.lload Y.here hx rfl (hb hby hd) hl kk
theorem own_lloadN (X : own_S Z n0 bytes y ml ret p l e R s m args below meth c T k sl h) {i : Fin 4} {v : Int64} (hd : decode bytes pc = .ok (.lload_n i, 1)) (hpc : pc + 1 = pc') (hl : Ls[i.val]? = some (.val (.long v))) (K : own_G p e below Φ T (mkF m pc' Ls (.long v :: S))) : own_G p e below Φ T (mkF m pc Ls (S)) := by
  obtain ⟨⟨locs, Y, N⟩, hh, hn, hx, hZ, hby, hml, hown, hnm, hret, hlk⟩ := X
  subst hpc
  exact own_by K fun t kk => XS.lloadN Y.here hx rfl (hb hby hd) hl kk
theorem own_aload (X : own_S Z n0 bytes y ml ret p l e R s m args below meth c T k sl h) {i : Nat} {v : Value} (hd : decode bytes pc = .ok (.aload i, 2)) (hpc : pc + 2 = pc') (hl : Ls[i]? = some (.val v)) (hv : v.isRef = true) (K : own_G p e below Φ T (mkF m pc' Ls (v :: S))) : own_G p e below Φ T (mkF m pc Ls (S)) := by
  obtain ⟨⟨locs, Y, N⟩, hh, hn, hx, hZ, hby, hml, hown, hnm, hret, hlk⟩ := X
  subst hpc
  exact own_by K fun t kk => XS.aload Y.here hx rfl (hb hby hd) hl hv kk
theorem own_aloadN (X : own_S Z n0 bytes y ml ret p l e R s m args below meth c T k sl h) {i : Fin 4} {v : Value} (hd : decode bytes pc = .ok (.aload_n i, 1)) (hpc : pc + 1 = pc') (hl : Ls[i.val]? = some (.val v)) (hv : v.isRef = true) (K : own_G p e below Φ T (mkF m pc' Ls (v :: S))) : own_G p e below Φ T (mkF m pc Ls (S)) := by
  obtain ⟨⟨locs, Y, N⟩, hh, hn, hx, hZ, hby, hml, hown, hnm, hret, hlk⟩ := X
  subst hpc
  exact own_by K fun t kk => XS.aloadN Y.here hx rfl (hb hby hd) hl hv kk
theorem own_dup (X : own_S Z n0 bytes y ml ret p l e R s m args below meth c T k sl h) {v : Value} (hd : decode bytes pc = .ok (.dup, 1)) (hpc : pc + 1 = pc') (hv : v.category = 1) (K : own_G p e below Φ T (mkF m pc' Ls (v :: v :: S))) : own_G p e below Φ T (mkF m pc Ls (v :: S)) := by
  obtain ⟨⟨locs, Y, N⟩, hh, hn, hx, hZ, hby, hml, hown, hnm, hret, hlk⟩ := X
  subst hpc
  exact own_by K fun t kk => XS.dup Y.here hx rfl (hb hby hd) rfl hv kk
theorem own_dup2 (X : own_S Z n0 bytes y ml ret p l e R s m args below meth c T k sl h) {v w : Value} (hd : decode bytes pc = .ok (.dup2, 1)) (hpc : pc + 1 = pc') (hv : v.category = 1) (hw : w.category = 1) (K : own_G p e below Φ T (mkF m pc' Ls (v :: w :: v :: w :: S))) : own_G p e below Φ T (mkF m pc Ls (v :: w :: S)) := by
  obtain ⟨⟨locs, Y, N⟩, hh, hn, hx, hZ, hby, hml, hown, hnm, hret, hlk⟩ := X
  subst hpc
  exact own_by K fun t kk => XT.dup2 Y.here hx rfl (hb hby hd) rfl hv hw kk
theorem own_pop (X : own_S Z n0 bytes y ml ret p l e R s m args below meth c T k sl h) {v : Value} (hd : decode bytes pc = .ok (.pop, 1)) (hpc : pc + 1 = pc') (hv : v.category = 1) (K : own_G p e below Φ T (mkF m pc' Ls (S))) : own_G p e below Φ T (mkF m pc Ls (v :: S)) := by
  obtain ⟨⟨locs, Y, N⟩, hh, hn, hx, hZ, hby, hml, hown, hnm, hret, hlk⟩ := X
  subst hpc
  exact own_by K fun t kk => XS.pop Y.here hx rfl (hb hby hd) rfl hv kk
theorem own_istore (X : own_S Z n0 bytes y ml ret p l e R s m args below meth c T k sl h) {i : Nat} {v : Int32} (hd : decode bytes pc = .ok (.istore i, 2)) (hpc : pc + 2 = pc') (hl : storeLocals Ls i (.int v) = some Ls') (K : own_G p e below Φ T (mkF m pc' Ls' S)) : own_G p e below Φ T (mkF m pc Ls (.int v :: S)) := by
  obtain ⟨⟨locs, Y, N⟩, hh, hn, hx, hZ, hby, hml, hown, hnm, hret, hlk⟩ := X
  subst hpc
  exact own_by K fun t kk => XS.istore Y.here hx rfl (hb hby hd) rfl hl kk
theorem own_istoreN (X : own_S Z n0 bytes y ml ret p l e R s m args below meth c T k sl h) {i : Fin 4} {v : Int32} (hd : decode bytes pc = .ok (.istore_n i, 1)) (hpc : pc + 1 = pc') (hl : storeLocals Ls i.val (.int v) = some Ls') (K : own_G p e below Φ T (mkF m pc' Ls' S)) : own_G p e below Φ T (mkF m pc Ls (.int v :: S)) := by
  obtain ⟨⟨locs, Y, N⟩, hh, hn, hx, hZ, hby, hml, hown, hnm, hret, hlk⟩ := X
  subst hpc
  exact own_by K fun t kk => XS.istoreN Y.here hx rfl (hb hby hd) rfl hl kk
theorem own_lstore (X : own_S Z n0 bytes y ml ret p l e R s m args below meth c T k sl h) {i : Nat} {v : Int64} (hd : decode bytes pc = .ok (.lstore i, 2)) (hpc : pc + 2 = pc') (hl : storeLocals Ls i (.long v) = some Ls') (K : own_G p e below Φ T (mkF m pc' Ls' S)) : own_G p e below Φ T (mkF m pc Ls (.long v :: S)) := by
  obtain ⟨⟨locs, Y, N⟩, hh, hn, hx, hZ, hby, hml, hown, hnm, hret, hlk⟩ := X
  subst hpc
  exact own_by K fun t kk => XS.lstore Y.here hx rfl (hb hby hd) rfl hl kk
theorem own_lstoreN (X : own_S Z n0 bytes y ml ret p l e R s m args below meth c T k sl h) {i : Fin 4} {v : Int64} (hd : decode bytes pc = .ok (.lstore_n i, 1)) (hpc : pc + 1 = pc') (hl : storeLocals Ls i.val (.long v) = some Ls') (K : own_G p e below Φ T (mkF m pc' Ls' S)) : own_G p e below Φ T (mkF m pc Ls (.long v :: S)) := by
  obtain ⟨⟨locs, Y, N⟩, hh, hn, hx, hZ, hby, hml, hown, hnm, hret, hlk⟩ := X
  subst hpc
  exact own_by K fun t kk => XS.lstoreN Y.here hx rfl (hb hby hd) rfl hl kk
theorem own_astore (X : own_S Z n0 bytes y ml ret p l e R s m args below meth c T k sl h) {i : Nat} {v : Value} (hd : decode bytes pc = .ok (.astore i, 2)) (hpc : pc + 2 = pc') (hv : v.isRef = true) (hl : storeLocals Ls i (v) = some Ls') (K : own_G p e below Φ T (mkF m pc' Ls' S)) : own_G p e below Φ T (mkF m pc Ls (v :: S)) := by
  obtain ⟨⟨locs, Y, N⟩, hh, hn, hx, hZ, hby, hml, hown, hnm, hret, hlk⟩ := X
  subst hpc
  exact own_by K fun t kk => XS.astore Y.here hx rfl (hb hby hd) rfl hv hl kk
theorem own_astoreN (X : own_S Z n0 bytes y ml ret p l e R s m args below meth c T k sl h) {i : Fin 4} {v : Value} (hd : decode bytes pc = .ok (.astore_n i, 1)) (hpc : pc + 1 = pc') (hv : v.isRef = true) (hl : storeLocals Ls i.val (v) = some Ls') (K : own_G p e below Φ T (mkF m pc' Ls' S)) : own_G p e below Φ T (mkF m pc Ls (v :: S)) := by
  obtain ⟨⟨locs, Y, N⟩, hh, hn, hx, hZ, hby, hml, hown, hnm, hret, hlk⟩ := X
  subst hpc
  exact own_by K fun t kk => XS.astoreN Y.here hx rfl (hb hby hd) rfl hv hl kk
theorem own_iinc (X : own_S Z n0 bytes y ml ret p l e R s m args below meth c T k sl h) {i : Nat} {cst : Int} {v : Int32} (hd : decode bytes pc = .ok (.iinc i cst, 3)) (hpc : pc + 3 = pc') (hl : Ls[i]? = some (.val (.int v))) {w : Int32} (hw : v + Int32.ofInt cst = w) (hs : storeLocals Ls i (.int w) = some Ls') (K : own_G p e below Φ T (mkF m pc' Ls' S)) : own_G p e below Φ T (mkF m pc Ls S) := by
  obtain ⟨⟨locs, Y, N⟩, hh, hn, hx, hZ, hby, hml, hown, hnm, hret, hlk⟩ := X
  subst hpc
  exact own_by K fun t kk => XS.iinc Y.here hx rfl (hb hby hd) hl (hw ▸ hs) kk
theorem own_goto (X : own_S Z n0 bytes y ml ret p l e R s m args below meth c T k sl h) {o : Int} (hd : decode bytes pc = .ok (.goto o, 3)) (ho : 0 ≤ (pc : Int) + o) (hp : ((pc : Int) + o).toNat = pc') (K : own_G p e below Φ T (mkF m pc' Ls S)) : own_G p e below Φ T (mkF m pc Ls S) := by
  obtain ⟨⟨locs, Y, N⟩, hh, hn, hx, hZ, hby, hml, hown, hnm, hret, hlk⟩ := X
  exact own_by K fun t kk => XS.goto Y.here hx rfl rfl (hb hby hd) ho hp kk
theorem own_icmp_eq (X : own_S Z n0 bytes y ml ret p l e R s m args below meth c T k sl h) {o : Int} {a b : Int32} {pct : Nat} (hd : decode bytes pc = .ok (.if_icmp .eq o, 3)) (hpc : pc + 3 = pc') (ho : 0 ≤ (pc : Int) + o) (hp : ((pc : Int) + o).toNat = pct) (Ky : a = b → own_G p e below Φ T (mkF m pct Ls S)) (Kn : ¬ a = b → own_G p e below Φ T (mkF m pc' Ls S)) : own_G p e below Φ T (mkF m pc Ls (.int b :: .int a :: S)) := by
  obtain ⟨⟨locs, Y, N⟩, hh, hn, hx, hZ, hby, hml, hown, hnm, hret, hlk⟩ := X
  subst hpc
  by_cases hc : a = b
  · exact own_by (Ky hc) fun t kk => XS.icmpYes Y.here hx rfl rfl (hb hby hd) rfl (teq hc).1 ho hp kk
  · exact own_by (Kn hc) fun t kk => XS.icmpNo Y.here hx rfl (hb hby hd) rfl (feq hc).1 kk
theorem own_if_eq (X : own_S Z n0 bytes y ml ret p l e R s m args below meth c T k sl h) {o : Int} {a : Int32} {pct : Nat} (hd : decode bytes pc = .ok (.ifCond .eq o, 3)) (hpc : pc + 3 = pc') (ho : 0 ≤ (pc : Int) + o) (hp : ((pc : Int) + o).toNat = pct) (Ky : a = 0 → own_G p e below Φ T (mkF m pct Ls S)) (Kn : ¬ a = 0 → own_G p e below Φ T (mkF m pc' Ls S)) : own_G p e below Φ T (mkF m pc Ls (.int a :: S)) := by
  obtain ⟨⟨locs, Y, N⟩, hh, hn, hx, hZ, hby, hml, hown, hnm, hret, hlk⟩ := X
  subst hpc
  by_cases hc : a = 0
  · exact own_by (Ky hc) fun t kk => XS.ifYes Y.here hx rfl rfl (hb hby hd) rfl ((if0 _ _).trans (teq hc).1) ho hp kk
  · exact own_by (Kn hc) fun t kk => XS.ifNo Y.here hx rfl (hb hby hd) rfl ((if0 _ _).trans (feq hc).1) kk
theorem own_icmp_ne (X : own_S Z n0 bytes y ml ret p l e R s m args below meth c T k sl h) {o : Int} {a b : Int32} {pct : Nat} (hd : decode bytes pc = .ok (.if_icmp .ne o, 3)) (hpc : pc + 3 = pc') (ho : 0 ≤ (pc : Int) + o) (hp : ((pc : Int) + o).toNat = pct) (Ky : ¬ a = b → own_G p e below Φ T (mkF m pct Ls S)) (Kn : a = b → own_G p e below Φ T (mkF m pc' Ls S)) : own_G p e below Φ T (mkF m pc Ls (.int b :: .int a :: S)) := by
  obtain ⟨⟨locs, Y, N⟩, hh, hn, hx, hZ, hby, hml, hown, hnm, hret, hlk⟩ := X
  subst hpc
  by_cases hc : ¬ a = b
  · exact own_by (Ky hc) fun t kk => XS.icmpYes Y.here hx rfl rfl (hb hby hd) rfl (feq hc).2 ho hp kk
  · replace hc := Decidable.not_not.mp hc; exact own_by (Kn hc) fun t kk => XS.icmpNo Y.here hx rfl (hb hby hd) rfl (teq hc).2 kk
theorem own_if_ne (X : own_S Z n0 bytes y ml ret p l e R s m args below meth c T k sl h) {o : Int} {a : Int32} {pct : Nat} (hd : decode bytes pc = .ok (.ifCond .ne o, 3)) (hpc : pc + 3 = pc') (ho : 0 ≤ (pc : Int) + o) (hp : ((pc : Int) + o).toNat = pct) (Ky : ¬ a = 0 → own_G p e below Φ T (mkF m pct Ls S)) (Kn : a = 0 → own_G p e below Φ T (mkF m pc' Ls S)) : own_G p e below Φ T (mkF m pc Ls (.int a :: S)) := by
  obtain ⟨⟨locs, Y, N⟩, hh, hn, hx, hZ, hby, hml, hown, hnm, hret, hlk⟩ := X
  subst hpc
  by_cases hc : ¬ a = 0
  · exact own_by (Ky hc) fun t kk => XS.ifYes Y.here hx rfl rfl (hb hby hd) rfl ((if0 _ _).trans (feq hc).2) ho hp kk
  · replace hc := Decidable.not_not.mp hc; exact own_by (Kn hc) fun t kk => XS.ifNo Y.here hx rfl (hb hby hd) rfl ((if0 _ _).trans (teq hc).2) kk
theorem own_icmp_lt (X : own_S Z n0 bytes y ml ret p l e R s m args below meth c T k sl h) {o : Int} {a b : Int32} {pct : Nat} (hd : decode bytes pc = .ok (.if_icmp .lt o, 3)) (hpc : pc + 3 = pc') (ho : 0 ≤ (pc : Int) + o) (hp : ((pc : Int) + o).toNat = pct) (Ky : a < b → own_G p e below Φ T (mkF m pct Ls S)) (Kn : ¬ a < b → own_G p e below Φ T (mkF m pc' Ls S)) : own_G p e below Φ T (mkF m pc Ls (.int b :: .int a :: S)) := by
  obtain ⟨⟨locs, Y, N⟩, hh, hn, hx, hZ, hby, hml, hown, hnm, hret, hlk⟩ := X
  subst hpc
  by_cases hc : a < b
  · exact own_by (Ky hc) fun t kk => XS.icmpYes Y.here hx rfl rfl (hb hby hd) rfl (tlt hc).1 ho hp kk
  · exact own_by (Kn hc) fun t kk => XS.icmpNo Y.here hx rfl (hb hby hd) rfl (flt hc).1 kk
theorem own_if_lt (X : own_S Z n0 bytes y ml ret p l e R s m args below meth c T k sl h) {o : Int} {a : Int32} {pct : Nat} (hd : decode bytes pc = .ok (.ifCond .lt o, 3)) (hpc : pc + 3 = pc') (ho : 0 ≤ (pc : Int) + o) (hp : ((pc : Int) + o).toNat = pct) (Ky : a < 0 → own_G p e below Φ T (mkF m pct Ls S)) (Kn : ¬ a < 0 → own_G p e below Φ T (mkF m pc' Ls S)) : own_G p e below Φ T (mkF m pc Ls (.int a :: S)) := by
  obtain ⟨⟨locs, Y, N⟩, hh, hn, hx, hZ, hby, hml, hown, hnm, hret, hlk⟩ := X
  subst hpc
  by_cases hc : a < 0
  · exact own_by (Ky hc) fun t kk => XS.ifYes Y.here hx rfl rfl (hb hby hd) rfl ((if0 _ _).trans (tlt hc).1) ho hp kk
  · exact own_by (Kn hc) fun t kk => XS.ifNo Y.here hx rfl (hb hby hd) rfl ((if0 _ _).trans (flt hc).1) kk
theorem own_icmp_ge (X : own_S Z n0 bytes y ml ret p l e R s m args below meth c T k sl h) {o : Int} {a b : Int32} {pct : Nat} (hd : decode bytes pc = .ok (.if_icmp .ge o, 3)) (hpc : pc + 3 = pc') (ho : 0 ≤ (pc : Int) + o) (hp : ((pc : Int) + o).toNat = pct) (Ky : ¬ a < b → own_G p e below Φ T (mkF m pct Ls S)) (Kn : a < b → own_G p e below Φ T (mkF m pc' Ls S)) : own_G p e below Φ T (mkF m pc Ls (.int b :: .int a :: S)) := by
  obtain ⟨⟨locs, Y, N⟩, hh, hn, hx, hZ, hby, hml, hown, hnm, hret, hlk⟩ := X
  subst hpc
  by_cases hc : ¬ a < b
  · exact own_by (Ky hc) fun t kk => XS.icmpYes Y.here hx rfl rfl (hb hby hd) rfl (flt hc).2.1 ho hp kk
  · replace hc := Decidable.not_not.mp hc; exact own_by (Kn hc) fun t kk => XS.icmpNo Y.here hx rfl (hb hby hd) rfl (tlt hc).2.1 kk
theorem own_if_ge (X : own_S Z n0 bytes y ml ret p l e R s m args below meth c T k sl h) {o : Int} {a : Int32} {pct : Nat} (hd : decode bytes pc = .ok (.ifCond .ge o, 3)) (hpc : pc + 3 = pc') (ho : 0 ≤ (pc : Int) + o) (hp : ((pc : Int) + o).toNat = pct) (Ky : ¬ a < 0 → own_G p e below Φ T (mkF m pct Ls S)) (Kn : a < 0 → own_G p e below Φ T (mkF m pc' Ls S)) : own_G p e below Φ T (mkF m pc Ls (.int a :: S)) := by
  obtain ⟨⟨locs, Y, N⟩, hh, hn, hx, hZ, hby, hml, hown, hnm, hret, hlk⟩ := X
  subst hpc
  by_cases hc : ¬ a < 0
  · exact own_by (Ky hc) fun t kk => XS.ifYes Y.here hx rfl rfl (hb hby hd) rfl ((if0 _ _).trans (flt hc).2.1) ho hp kk
  · replace hc := Decidable.not_not.mp hc; exact own_by (Kn hc) fun t kk => XS.ifNo Y.here hx rfl (hb hby hd) rfl ((if0 _ _).trans (tlt hc).2.1) kk
theorem own_icmp_gt (X : own_S Z n0 bytes y ml ret p l e R s m args below meth c T k sl h) {o : Int} {a b : Int32} {pct : Nat} (hd : decode bytes pc = .ok (.if_icmp .gt o, 3)) (hpc : pc + 3 = pc') (ho : 0 ≤ (pc : Int) + o) (hp : ((pc : Int) + o).toNat = pct) (Ky : b < a → own_G p e below Φ T (mkF m pct Ls S)) (Kn : ¬ b < a → own_G p e below Φ T (mkF m pc' Ls S)) : own_G p e below Φ T (mkF m pc Ls (.int b :: .int a :: S)) := by
  obtain ⟨⟨locs, Y, N⟩, hh, hn, hx, hZ, hby, hml, hown, hnm, hret, hlk⟩ := X
  subst hpc
  by_cases hc : b < a
  · exact own_by (Ky hc) fun t kk => XS.icmpYes Y.here hx rfl rfl (hb hby hd) rfl (tlt hc).2.2.1 ho hp kk
  · exact own_by (Kn hc) fun t kk => XS.icmpNo Y.here hx rfl (hb hby hd) rfl (flt hc).2.2.1 kk
theorem own_if_gt (X : own_S Z n0 bytes y ml ret p l e R s m args below meth c T k sl h) {o : Int} {a : Int32} {pct : Nat} (hd : decode bytes pc = .ok (.ifCond .gt o, 3)) (hpc : pc + 3 = pc') (ho : 0 ≤ (pc : Int) + o) (hp : ((pc : Int) + o).toNat = pct) (Ky : 0 < a → own_G p e below Φ T (mkF m pct Ls S)) (Kn : ¬ 0 < a → own_G p e below Φ T (mkF m pc' Ls S)) : own_G p e below Φ T (mkF m pc Ls (.int a :: S)) := by
  obtain ⟨⟨locs, Y, N⟩, hh, hn, hx, hZ, hby, hml, hown, hnm, hret, hlk⟩ := X
  subst hpc
  by_cases hc : 0 < a
  · exact own_by (Ky hc) fun t kk => XS.ifYes Y.here hx rfl rfl (hb hby hd) rfl ((if0 _ _).trans (tlt hc).2.2.1) ho hp kk
  · exact own_by (Kn hc) fun t kk => XS.ifNo Y.here hx rfl (hb hby hd) rfl ((if0 _ _).trans (flt hc).2.2.1) kk
theorem own_icmp_le (X : own_S Z n0 bytes y ml ret p l e R s m args below meth c T k sl h) {o : Int} {a b : Int32} {pct : Nat} (hd : decode bytes pc = .ok (.if_icmp .le o, 3)) (hpc : pc + 3 = pc') (ho : 0 ≤ (pc : Int) + o) (hp : ((pc : Int) + o).toNat = pct) (Ky : ¬ b < a → own_G p e below Φ T (mkF m pct Ls S)) (Kn : b < a → own_G p e below Φ T (mkF m pc' Ls S)) : own_G p e below Φ T (mkF m pc Ls (.int b :: .int a :: S)) := by
  obtain ⟨⟨locs, Y, N⟩, hh, hn, hx, hZ, hby, hml, hown, hnm, hret, hlk⟩ := X
  subst hpc
  by_cases hc : ¬ b < a
  · exact own_by (Ky hc) fun t kk => XS.icmpYes Y.here hx rfl rfl (hb hby hd) rfl (flt hc).2.2.2 ho hp kk
  · replace hc := Decidable.not_not.mp hc; exact own_by (Kn hc) fun t kk => XS.icmpNo Y.here hx rfl (hb hby hd) rfl (tlt hc).2.2.2 kk
theorem own_if_le (X : own_S Z n0 bytes y ml ret p l e R s m args below meth c T k sl h) {o : Int} {a : Int32} {pct : Nat} (hd : decode bytes pc = .ok (.ifCond .le o, 3)) (hpc : pc + 3 = pc') (ho : 0 ≤ (pc : Int) + o) (hp : ((pc : Int) + o).toNat = pct) (Ky : ¬ 0 < a → own_G p e below Φ T (mkF m pct Ls S)) (Kn : 0 < a → own_G p e below Φ T (mkF m pc' Ls S)) : own_G p e below Φ T (mkF m pc Ls (.int a :: S)) := by
  obtain ⟨⟨locs, Y, N⟩, hh, hn, hx, hZ, hby, hml, hown, hnm, hret, hlk⟩ := X
  subst hpc
  by_cases hc : ¬ 0 < a
  · exact own_by (Ky hc) fun t kk => XS.ifYes Y.here hx rfl rfl (hb hby hd) rfl ((if0 _ _).trans (flt hc).2.2.2) ho hp kk
  · replace hc := Decidable.not_not.mp hc; exact own_by (Kn hc) fun t kk => XS.ifNo Y.here hx rfl (hb hby hd) rfl ((if0 _ _).trans (tlt hc).2.2.2) kk
theorem own_ifl_eq (X : own_S Z n0 bytes y ml ret p l e R s m args below meth c T k sl h) {o : Int} {a b : Int64} {pct : Nat} (hd : decode bytes pc = .ok (.ifCond .eq o, 3)) (hpc : pc + 3 = pc') (ho : 0 ≤ (pc : Int) + o) (hp : ((pc : Int) + o).toNat = pct) (Ky : a = b → own_G p e below Φ T (mkF m pct Ls S)) (Kn : ¬ a = b → own_G p e below Φ T (mkF m pc' Ls S)) : own_G p e below Φ T (mkF m pc Ls (.int (lcmpW a b) :: S)) :=
  own_if_eq X hd hpc ho hp (fun q => Ky ((lw_eq a b).mp q)) (fun q => Kn (fun r => q ((lw_eq a b).mpr r)))
theorem own_ifl_ne (X : own_S Z n0 bytes y ml ret p l e R s m args below meth c T k sl h) {o : Int} {a b : Int64} {pct : Nat} (hd : decode bytes pc = .ok (.ifCond .ne o, 3)) (hpc : pc + 3 = pc') (ho : 0 ≤ (pc : Int) + o) (hp : ((pc : Int) + o).toNat = pct) (Ky : ¬ a = b → own_G p e below Φ T (mkF m pct Ls S)) (Kn : a = b → own_G p e below Φ T (mkF m pc' Ls S)) : own_G p e below Φ T (mkF m pc Ls (.int (lcmpW a b) :: S)) :=
  own_if_ne X hd hpc ho hp (fun q => Ky (fun r => q ((lw_eq a b).mpr r))) (fun q => Kn ((lw_eq a b).mp q))
theorem own_ifl_lt (X : own_S Z n0 bytes y ml ret p l e R s m args below meth c T k sl h) {o : Int} {a b : Int64} {pct : Nat} (hd : decode bytes pc = .ok (.ifCond .lt o, 3)) (hpc : pc + 3 = pc') (ho : 0 ≤ (pc : Int) + o) (hp : ((pc : Int) + o).toNat = pct) (Ky : a < b → own_G p e below Φ T (mkF m pct Ls S)) (Kn : ¬ a < b → own_G p e below Φ T (mkF m pc' Ls S)) : own_G p e below Φ T (mkF m pc Ls (.int (lcmpW a b) :: S)) :=
  own_if_lt X hd hpc ho hp (fun q => Ky ((lw_lt a b).mp q)) (fun q => Kn (fun r => q ((lw_lt a b).mpr r)))
theorem own_ifl_ge (X : own_S Z n0 bytes y ml ret p l e R s m args below meth c T k sl h) {o : Int} {a b : Int64} {pct : Nat} (hd : decode bytes pc = .ok (.ifCond .ge o, 3)) (hpc : pc + 3 = pc') (ho : 0 ≤ (pc : Int) + o) (hp : ((pc : Int) + o).toNat = pct) (Ky : ¬ a < b → own_G p e below Φ T (mkF m pct Ls S)) (Kn : a < b → own_G p e below Φ T (mkF m pc' Ls S)) : own_G p e below Φ T (mkF m pc Ls (.int (lcmpW a b) :: S)) :=
  own_if_ge X hd hpc ho hp (fun q => Ky (fun r => q ((lw_lt a b).mpr r))) (fun q => Kn ((lw_lt a b).mp q))
theorem own_ifl_gt (X : own_S Z n0 bytes y ml ret p l e R s m args below meth c T k sl h) {o : Int} {a b : Int64} {pct : Nat} (hd : decode bytes pc = .ok (.ifCond .gt o, 3)) (hpc : pc + 3 = pc') (ho : 0 ≤ (pc : Int) + o) (hp : ((pc : Int) + o).toNat = pct) (Ky : b < a → own_G p e below Φ T (mkF m pct Ls S)) (Kn : ¬ b < a → own_G p e below Φ T (mkF m pc' Ls S)) : own_G p e below Φ T (mkF m pc Ls (.int (lcmpW a b) :: S)) :=
  own_if_gt X hd hpc ho hp (fun q => Ky ((lw_gt a b).mp q)) (fun q => Kn (fun r => q ((lw_gt a b).mpr r)))
theorem own_ifl_le (X : own_S Z n0 bytes y ml ret p l e R s m args below meth c T k sl h) {o : Int} {a b : Int64} {pct : Nat} (hd : decode bytes pc = .ok (.ifCond .le o, 3)) (hpc : pc + 3 = pc') (ho : 0 ≤ (pc : Int) + o) (hp : ((pc : Int) + o).toNat = pct) (Ky : ¬ b < a → own_G p e below Φ T (mkF m pct Ls S)) (Kn : b < a → own_G p e below Φ T (mkF m pc' Ls S)) : own_G p e below Φ T (mkF m pc Ls (.int (lcmpW a b) :: S)) :=
  own_if_le X hd hpc ho hp (fun q => Ky (fun r => q ((lw_gt a b).mpr r))) (fun q => Kn ((lw_gt a b).mp q))
theorem own_ldc {i : Nat} {v : Int32} (X : own_S Z n0 bytes y ml ret p l e R s m args below meth c T k sl h) (hw : (Jvm.Cond.constant y.cls i v).before a0 Z = true) (hd : decode bytes pc = .ok (.ldc i, 2)) (hpc : pc + 2 = pc') (K : own_G p e below Φ T (mkF m pc' Ls (.int v :: S))) : own_G p e below Φ T (mkF m pc Ls S) := by
  obtain ⟨⟨locs, Y, N⟩, hh, hn, hx, hZ, hby, hml, hown, hnm, hret, hlk⟩ := X
  subst hpc
  exact own_by K fun t kk => Y.ldcInt hx hown (mvT hZ hw) (g := mkF m pc Ls S) rfl (hb hby hd) t kk
theorem own_ldc2 {i : Nat} {v : Int64} (X : own_S Z n0 bytes y ml ret p l e R s m args below meth c T k sl h) (hw : (Jvm.Cond.constantLong y.cls i v).before a0 Z = true) (hd : decode bytes pc = .ok (.ldc2_w i, 3)) (hpc : pc + 3 = pc') (K : own_G p e below Φ T (mkF m pc' Ls (.long v :: S))) : own_G p e below Φ T (mkF m pc Ls S) := by
  obtain ⟨⟨locs, Y, N⟩, hh, hn, hx, hZ, hby, hml, hown, hnm, hret, hlk⟩ := X
  subst hpc
  exact own_by K fun t kk => Y.ldc2Long hx hown (mvT hZ hw) (g := mkF m pc Ls S) rfl (hb hby hd) t kk
theorem own_ret {w' : Option Value} {Θ : Heap → Prop} {w : Value} {t : FieldType} {i : Instr} (X : own_S Z n0 bytes y ml (some t) p l e R s m args below meth c T k sl h)
    (hd : decode bytes pc = .ok (i, 1)) (hi : (i = .ireturn ∧ (t = .int ∨ t = .boolean ∨ t = .byte ∨ t = .char ∨ t = .short) ∧ ∃ z, w = .int z) ∨ (i = .lreturn ∧ t = .long ∧ ∃ z, w = .long z) ∨ (i = .dreturn ∧ t = .double ∧ ∃ z, w = .double z) ∨ (i = .freturn ∧ t = .float ∧ ∃ z, w = .float z) ∨ (i = .areturn ∧ t.isReference = true ∧ w.isRef = true))
    (hnw : narrow t w = w) (hk : k ≤ R.cells) (hs : sl ≤ R.slots) (hw : some w = w') (hΘ : Θ h) : own_G p e below (own_Q n0 below s R w' Θ) T (mkF m pc Ls (w :: S)) := by
  obtain ⟨⟨locs, Y, N⟩, hh, hn, hx, hZ, hby, hml, hown, hnm, hret, hlk⟩ := X
  obtain ⟨fs, hr, hrun, hended, hW, hsame⟩ := Y.leave (v := some w) (fun h => by rw [hret] at h; cases h) hlk
  refine ⟨_, _, retOut Y hx hret hnw hi (hb hby hd) hr, hrun, hended, _, _, rfl, ⟨⟨hw, ?_⟩, N⟩, ⟨_, rfl⟩, hW, hsame.mono hk hs⟩
  show Θ T.heap
  rw [hh]; exact hΘ
theorem own_retV {w' : Option Value} {Θ : Heap → Prop} (X : own_S Z n0 bytes y ml none p l e R s m args below meth c T k sl h)
    (hd : decode bytes pc = .ok (.return_, 1)) (hk : k ≤ R.cells) (hs : sl ≤ R.slots) (hw : none = w') (hΘ : Θ h) : own_G p e below (own_Q n0 below s R w' Θ) T (mkF m pc Ls []) := by
  obtain ⟨⟨locs, Y, N⟩, hh, hn, hx, hZ, hby, hml, hown, hnm, hret, hlk⟩ := X
  obtain ⟨fs, hr, hrun, hended, hW, hsame⟩ := Y.leave (v := none) (fun _ => rfl) hlk
  refine ⟨_, _, Y.returnOut hx hret (hb hby hd) hr, hrun, hended, _, _, rfl, ⟨⟨hw, ?_⟩, N⟩, ⟨_, rfl⟩, hW, hsame.mono hk hs⟩
  show Θ T.heap
  rw [hh]; exact hΘ
theorem own_retZ {w' : Option Value} {Θ : Heap → Prop} {z : Int32} (X : own_S Z n0 bytes y ml (some .boolean) p l e R s m args below meth c T k sl h) (hd : decode bytes pc = .ok (.ireturn, 1)) (hz : z &&& 1 = z) (hk : k ≤ R.cells) (hs : sl ≤ R.slots) (hw : some (.int z) = w') (hΘ : Θ h) : own_G p e below (own_Q n0 below s R w' Θ) T (mkF m pc Ls (.int z :: S)) :=
  own_ret X hd (Or.inl ⟨rfl, by simp, _, rfl⟩) (by simp [narrow, hz]) hk hs hw hΘ
theorem own_retI {w' : Option Value} {Θ : Heap → Prop} {z : Int32} (X : own_S Z n0 bytes y ml (some .int) p l e R s m args below meth c T k sl h) (hd : decode bytes pc = .ok (.ireturn, 1)) (hk : k ≤ R.cells) (hs : sl ≤ R.slots) (hw : some (.int z) = w') (hΘ : Θ h) : own_G p e below (own_Q n0 below s R w' Θ) T (mkF m pc Ls (.int z :: S)) :=
  own_ret X hd (Or.inl ⟨rfl, by simp, _, rfl⟩) rfl hk hs hw hΘ
theorem own_retB {w' : Option Value} {Θ : Heap → Prop} {z : Int32} (X : own_S Z n0 bytes y ml (some .byte) p l e R s m args below meth c T k sl h) (hd : decode bytes pc = .ok (.ireturn, 1)) (hz : z.toInt8.toInt32 = z) (hk : k ≤ R.cells) (hs : sl ≤ R.slots) (hw : some (.int z) = w') (hΘ : Θ h) : own_G p e below (own_Q n0 below s R w' Θ) T (mkF m pc Ls (.int z :: S)) :=
  own_ret X hd (Or.inl ⟨rfl, by simp, _, rfl⟩) (by simp [narrow, hz]) hk hs hw hΘ
theorem own_retL {w' : Option Value} {Θ : Heap → Prop} {z : Int64} (X : own_S Z n0 bytes y ml (some .long) p l e R s m args below meth c T k sl h) (hd : decode bytes pc = .ok (.lreturn, 1)) (hk : k ≤ R.cells) (hs : sl ≤ R.slots) (hw : some (.long z) = w') (hΘ : Θ h) : own_G p e below (own_Q n0 below s R w' Θ) T (mkF m pc Ls (.long z :: S)) :=
  own_ret X hd (Or.inr (Or.inl ⟨rfl, rfl, _, rfl⟩)) rfl hk hs hw hΘ
theorem own_callS {z : MethodName} {cb : ByteArray} {cml : Nat} {cret : Option FieldType} {crm : Room} {i : Nat} {argsL rest S' : List Value} {w : Option Value} {Θ : Heap → Prop} (X : own_S Z n0 bytes y ml ret p l e R s m args below meth c T k sl h) (M : own_Met l z cb cml cret crm Z n0 argsL.toArray h w Θ)
    (w1 : (Jvm.Cond.methodLink y.cls i z).before a0 Z = true) (w2 : (Jvm.Cond.static z).before a0 Z = true) (w3 : (Jvm.Cond.initialized z.cls).before a0 Z = true) (w4 : (Jvm.Cond.code z cb cml cret).before a0 Z = true) (hz : z.cls ≠ "java/lang/invoke/MethodHandle" ∧ z.cls ≠ "java/lang/invoke/VarHandle")
    {W : Nat} (hf : crm.frames + 1 ≤ R.frames) (hl : W + (cml + 11) + crm.locals ≤ R.locals) (hc0 : crm.cells = 0) (hs0 : crm.slots = 0) (hc : k ≤ R.cells) (hs : sl ≤ R.slots)
    (hlen : ∀ sig, parseMethodDescriptor z.desc = some sig → argsL.length = sig.parameters.length) (hst : S = argsL.reverse ++ rest) (hW : 2 * 0 + (rest.map fun v => v.category).sum ≤ W) (hsz : Ls.size = ml)
    (hd : decode bytes pc = .ok (.invokestatic i, 3)) (hpc : pc + 3 = pc')
    (hS' : w.toList ++ rest = S') (K : ∀ T' h', own_S Z n0 bytes y ml ret p l e R s m args below meth c T' k sl h' → Θ h' → own_G p e below Φ T' (mkF m pc' Ls S')) : own_G p e below Φ T (mkF m pc Ls S) := by
  obtain ⟨⟨locs, Y, N⟩, hh, hn, hx, hZ, hby, hml, hown, hnm, hret, hlk⟩ := X
  subst hpc
  obtain ⟨v, _, ⟨T', L', k', n'⟩, -, X', ⟨Lc, hQ, l1, y1, z1⟩, st⟩ := Jvm.LawKit.callS Y hx (y := z) hown (mvT hZ w1) (mvT hZ w2) (mvT hZ w3) (mvT hZ w4) hz (backOf (W := W) (Q := fun v h' L => (v = w ∧ Θ h') ∧ Fr n0 L) (M []) hZ w4 w3 hf hl) (g := mkF m pc Ls S) rfl (by rw [hml]; exact hsz) (argsL := argsL) (rest := rest) hlen hst hW (hb hby hd) (fun _ _ => ⟨rfl, hh, by rw [hc0]; exact hc, by rw [hs0]; exact hs⟩)
  dsimp only [Pt.U, Pt.locs, Pt.cells, Pt.slots] at X' l1 y1 z1 st hQ
  subst l1 y1 z1
  obtain ⟨⟨rfl, hQ1⟩, hQ2⟩ := hQ
  rw [hc0, hs0] at X'
  subst hS'
  exact own_by (K T' _ ⟨⟨_, X', N.app hQ2⟩, rfl, hn, hx, hZ, hby, hml, hown, hnm, hret, hlk⟩ hQ1) st
theorem own_callI {z : MethodName} {cb : ByteArray} {cml : Nat} {crm : Room} {i : Nat} {a : Addr} {argsL rest S' : List Value} {w : Option Value} {Θ : Heap → Prop} (X : own_S Z n0 bytes y ml ret p l e R s m args below meth c T k sl h) (M : own_Met l z cb cml none crm Z n0 (.ref a :: argsL).toArray h w Θ) (hi : z.name = "<init>")
    (w1 : (Jvm.Cond.methodLink y.cls i z).before a0 Z = true) (w2 : (Jvm.Cond.instanceMethod z).before a0 Z = true) (w3 : (Jvm.Cond.initialized z.cls).before a0 Z = true) (w4 : (Jvm.Cond.code z cb cml none).before a0 Z = true) (hz : z.cls ≠ "java/lang/invoke/MethodHandle" ∧ z.cls ≠ "java/lang/invoke/VarHandle")
    {W : Nat} (hf : crm.frames + 1 ≤ R.frames) (hl : W + (cml + 11) + crm.locals ≤ R.locals) (hc0 : crm.cells = 0) (hs0 : crm.slots = 0) (hc : k ≤ R.cells) (hs : sl ≤ R.slots)
    (hlen : ∀ sig, parseMethodDescriptor z.desc = some sig → argsL.length = sig.parameters.length) (hst : S = argsL.reverse ++ .ref a :: rest) (hW : 2 * 0 + (rest.map fun v => v.category).sum ≤ W) (hsz : Ls.size = ml)
    (hd : decode bytes pc = .ok (.invokespecial i, 3)) (hpc : pc + 3 = pc')
    (hS' : w.toList ++ rest = S') (K : ∀ T' h', own_S Z n0 bytes y ml ret p l e R s m args below meth c T' k sl h' → Θ h' → own_G p e below Φ T' (mkF m pc' Ls S')) : own_G p e below Φ T (mkF m pc Ls S) := by
  obtain ⟨⟨locs, Y, N⟩, hh, hn, hx, hZ, hby, hml, hown, hnm, hret, hlk⟩ := X
  subst hpc
  obtain ⟨v, _, ⟨T', L', k', n'⟩, -, X', ⟨Lc, hQ, l1, y1, z1⟩, st⟩ := Y.specialBack hx (y := z) hi hown (mvT hZ w1) (mvT hZ w2) (mvT hZ w4) hz (backOf (W := W) (Q := fun v h' L => (v = w ∧ Θ h') ∧ Fr n0 L) (M []) hZ w4 w3 hf hl) (g := mkF m pc Ls S) rfl (by rw [hml]; exact hsz) (Steps.refl _) (a := a) (argsL := argsL) (rest := rest) hlen hst hW (hb hby hd) (fun _ _ => ⟨rfl, hh, by rw [hc0]; exact hc, by rw [hs0]; exact hs⟩)
  dsimp only [Pt.U, Pt.locs, Pt.cells, Pt.slots] at X' l1 y1 z1 st hQ
  subst l1 y1 z1
  obtain ⟨⟨rfl, hQ1⟩, hQ2⟩ := hQ
  rw [hc0, hs0] at X'
  subst hS'
  exact own_by (K T' _ ⟨⟨_, X', N.app hQ2⟩, rfl, hn, hx, hZ, hby, hml, hown, hnm, hret, hlk⟩ hQ1) fun t kk => st.trans kk
theorem own_callV {z : MethodName} {cb : ByteArray} {cml : Nat} {cret : Option FieldType} {crm : Room} {i : Nat} {a : Addr} {argsL rest S' : List Value} {w : Option Value} {Θ : Heap → Prop} (X : own_S Z n0 bytes y ml ret p l e R s m args below meth c T k sl h) (M : own_Met l z cb cml cret crm Z n0 (.ref a :: argsL).toArray h w Θ) (E : Exa Z h a z.cls)
    (w1 : (Jvm.Cond.methodLink y.cls i z).before a0 Z = true) (w2 : (Jvm.Cond.declares z).before a0 Z = true) (w5 : (Jvm.Cond.selects z.cls z z).before a0 Z = true) (w6 : (Jvm.Cond.instanceMethod z).before a0 Z = true) (w3 : (Jvm.Cond.initialized z.cls).before a0 Z = true) (w4 : (Jvm.Cond.code z cb cml cret).before a0 Z = true) (hz : z.cls ≠ "java/lang/invoke/MethodHandle" ∧ z.cls ≠ "java/lang/invoke/VarHandle")
    {W : Nat} (hf : crm.frames + 1 ≤ R.frames) (hl : W + (cml + 11) + crm.locals ≤ R.locals) (hc0 : crm.cells = 0) (hs0 : crm.slots = 0) (hc : k ≤ R.cells) (hs : sl ≤ R.slots)
    (hlen : ∀ sig, parseMethodDescriptor z.desc = some sig → argsL.length = sig.parameters.length) (hst : S = argsL.reverse ++ .ref a :: rest) (hW : 2 * 0 + (rest.map fun v => v.category).sum ≤ W) (hsz : Ls.size = ml)
    (hd : decode bytes pc = .ok (.invokevirtual i, 3)) (hpc : pc + 3 = pc')
    (hS' : w.toList ++ rest = S') (K : ∀ T' h', own_S Z n0 bytes y ml ret p l e R s m args below meth c T' k sl h' → Θ h' → own_G p e below Φ T' (mkF m pc' Ls S')) : own_G p e below Φ T (mkF m pc Ls S) := by
  obtain ⟨⟨locs, Y, N⟩, hh, hn, hx, hZ, hby, hml, hown, hnm, hret, hlk⟩ := X
  subst hpc
  obtain ⟨cq, kq, qa, qb, qc⟩ := isOf hZ hh E
  obtain ⟨v, _, ⟨T', L', k', n'⟩, -, X', ⟨Lc, hQ, l1, y1, z1⟩, st⟩ := Y.virtualBack hx (y := z) (z := z) hown (mvT hZ w1) (mvT hZ w2) (notFace_of_selects (args := #[]) (mvT hZ w5)) (mvT hZ w5) (mvT hZ w6) hz (backOf (W := W) (Q := fun v h' L => (v = w ∧ Θ h') ∧ Fr n0 L) (M []) hZ w4 w3 hf hl) qa qc (g := mkF m pc Ls S) rfl (by rw [hml]; exact hsz) (Steps.refl _) (argsL := argsL) (rest := rest) hlen hst hW (hb hby hd) (fun _ _ => ⟨rfl, hh, by rw [hc0]; exact hc, by rw [hs0]; exact hs⟩)
  dsimp only [Pt.U, Pt.locs, Pt.cells, Pt.slots] at X' l1 y1 z1 st hQ
  subst l1 y1 z1
  obtain ⟨⟨rfl, hQ1⟩, hQ2⟩ := hQ
  rw [hc0, hs0] at X'
  subst hS'
  exact own_by (K T' _ ⟨⟨_, X', N.app hQ2⟩, rfl, hn, hx, hZ, hby, hml, hown, hnm, hret, hlk⟩ hQ1) fun t kk => st.trans kk
theorem own_getF (X : own_S Z n0 bytes y ml ret p l e R s m args below meth c T k sl h) {i : Nat} {a : Addr} {O nm d : String} {v : Value} (w : (Jvm.Cond.fieldLink y.cls i O nm d).before a0 Z = true) (F : Fld Z h a O nm d v) (hd : decode bytes pc = .ok (.getfield i, 3)) (hpc : pc + 3 = pc')
    (K : ∀ T', own_S Z n0 bytes y ml ret p l e R s m args below meth c T' k sl h → own_G p e below Φ T' (mkF m pc' Ls (v :: S))) : own_G p e below Φ T (mkF m pc Ls (.ref a :: S)) := by
  obtain ⟨⟨locs, Y, N⟩, hh, hn, hx, hZ, hby, hml, hown, hnm, hret, hlk⟩ := X
  subst hpc
  obtain ⟨T', X', e', st⟩ := getF Y hx hZ hown (host := "") (Or.inl w) Via.refl hh F (g := mkF m pc Ls (.ref a :: S)) rfl rfl (hb hby hd)
  exact own_by (K T' ⟨⟨_, X', N⟩, e', hn, hx, hZ, hby, hml, hown, hnm, hret, hlk⟩) st
theorem own_putF (X : own_S Z n0 bytes y ml ret p l e R s m args below meth c T k sl h) {i kk : Nat} {a : Addr} {O nm d C : String} {v v' old : Value} {ty : FieldType} (w : (Jvm.Cond.fieldLink y.cls i O nm d).before a0 Z = true) (F : Fld Z h a O nm d old) (E : Exa Z h a C) (ha : n0 ≤ a)
    (L : (Jvm.Cond.lays C O nm d).before a0 Z = true ∨ ((Jvm.Cond.laysFinal C O nm d).before a0 Z = true ∧ y.cls = O ∧ y.name = "<init>")) (wi : (Jvm.Cond.instantiable C kk).before a0 Z = true) (hty : parseFieldDescriptor d = some ty) (hv : narrow ty v = v') (hf : fits ty v' = true)
    (hd : decode bytes pc = .ok (.putfield i, 3)) (hpc : pc + 3 = pc')
    (K : ∀ T' h', own_S Z n0 bytes y ml ret p l e R s m args below meth c T' k sl h' → Wr h h' a (Jvm.RoadKit.slotOf Z O nm d) v' → own_G p e below Φ T' (mkF m pc' Ls S)) : own_G p e below Φ T (mkF m pc Ls (v :: .ref a :: S)) := by
  obtain ⟨⟨locs, Y, N⟩, hh, hn, hx, hZ, hby, hml, hown, hnm, hret, hlk⟩ := X
  subst hpc
  obtain ⟨T', h', X', e', W', st⟩ := putFN Y hx hZ hown w Via.refl hh F E (L.imp id fun q => ⟨q.1, q.2.1, hnm.trans q.2.2⟩) wi hty hv hf (g := mkF m pc Ls (v :: .ref a :: S)) rfl rfl (hb hby hd)
  exact own_by (K T' h' ⟨⟨_, X', Fr.snoc X' N ha⟩, e', hn, hx, hZ, hby, hml, hown, hnm, hret, hlk⟩ W') st
theorem own_new (X : own_S Z n0 bytes y ml ret p l e R s m args below meth c T k sl h) {i n : Nat} {C : String} (w : (Jvm.Cond.classLink y.cls i C).before a0 Z = true) (wi : (Jvm.Cond.instantiable C n).before a0 Z = true) (wz : (Jvm.Cond.initialized C).before a0 Z = true) (hd : decode bytes pc = .ok (.new i, 3)) (hpc : pc + 3 = pc') (hc : k + 1 ≤ R.cells) (hs : sl + n ≤ R.slots)
    (K : ∀ T' h' a, own_S Z n0 bytes y ml ret p l e R s m args below meth c T' (k + 1) (sl + n) h' → n0 ≤ a → a = h.size → Ext h h' → Exa Z h' a C → (∀ {O nm d : String} {ty : FieldType}, Laid Z a0 C O nm d → parseFieldDescriptor d = some ty → Fld Z h' a O nm d (defaultValue ty)) → own_G p e below Φ T' (mkF m pc' Ls (.ref a :: S))) : own_G p e below Φ T (mkF m pc Ls S) := by
  have hsz := X.size
  obtain ⟨⟨locs, Y, N⟩, hh, hn, hx, hZ, hby, hml, hown, hnm, hret, hlk⟩ := X
  subst hpc
  obtain ⟨T', h', X', e', E', A', D', -, st⟩ := newO Y hx hZ hown w wi wz hh (g := mkF m pc Ls S) rfl (hb hby hd) hc hs
  exact own_by (K T' h' h.size ⟨⟨_, X', N⟩, e', hn, hx, hZ, hby, hml, hown, hnm, hret, hlk⟩ hsz rfl E' A' D') st
def own_A (Z : State) (h : Heap) (a : Addr) (ty : FieldType) (vs : List Int32) : Prop := ∃ cl : Cell, Arr Z h a cl ty ∧ cl.slots.size = vs.length ∧ ∀ j, j < vs.length → cl.slots[j]? = some (.int (vs.getD j 0))
theorem own_A.ext {h' : Heap} {a : Addr} {ty : FieldType} {vs : List Int32} (A : own_A Z h a ty vs) (E : Ext h h') : own_A Z h' a ty vs := by obtain ⟨cl, q, r⟩ := A; exact ⟨cl, q.ext E, r⟩
theorem own_A.other {h' : Heap} {a b : Addr} {ty : FieldType} {vs : List Int32} {i : Nat} {v : Value} (A : own_A Z h b ty vs) (W : Wr h h' a i v) (q : b ≠ a) : own_A Z h' b ty vs := by obtain ⟨cl, r, t⟩ := A; exact ⟨cl, r.other W q, t⟩
theorem own_A.keep {h' : Heap} {a : Addr} {ty : FieldType} {vs : List Int32} {ws : List Addr} (A : own_A Z h a ty vs) (K : Keep h h' ws) (q : a ∉ ws) : own_A Z h' a ty vs := by obtain ⟨cl, r, t⟩ := A; exact ⟨cl, ⟨K.2.1 a cl r.1 q, r.2⟩, t⟩
theorem own_A.lt {a : Addr} {ty : FieldType} {vs : List Int32} (A : own_A Z h a ty vs) : a < h.size := by obtain ⟨cl, q, r⟩ := A; exact q.lt
def own_in (j : Int32) (n : Nat) : Bool := decide (0 ≤ j.toInt) && Nat.blt j.toNatClampNeg n
theorem own_in_not {j : Int32} {n : Nat} (q : own_in j n = true) : j.toNatClampNeg < n ∧ ¬ (j < 0 ∨ n ≤ j.toNatClampNeg) := by
  simp only [own_in, Bool.and_eq_true, decide_eq_true_eq] at q
  have h2 : j.toNatClampNeg < n := Nat.le_of_ble_eq_true q.2
  refine ⟨h2, ?_⟩
  simp only [Int32.lt_iff_toInt_lt, Int32.reduceToInt]
  omega
theorem own_baload (X : own_S Z n0 bytes y ml ret p l e R s m args below meth c T k sl h) {a : Addr} {vs : List Int32} {j v : Int32} (A : own_A Z h a .byte vs) (hj : own_in j vs.length = true) (hv : vs.getD j.toNatClampNeg 0 = v) (hd : decode bytes pc = .ok (.baload, 1)) (hpc : pc + 1 = pc') (K : own_G p e below Φ T (mkF m pc' Ls (.int v :: S))) : own_G p e below Φ T (mkF m pc Ls (.int j :: .ref a :: S)) := by
  obtain ⟨⟨locs, Y, N⟩, hh, hn, hx, hZ, hby, hml, hown, hnm, hret, hlk⟩ := X
  subst hpc
  obtain ⟨cl, q, r, t⟩ := A
  obtain ⟨j1, j2⟩ := own_in_not hj
  exact own_by K fun t' kk => Y.baloadBytes hx (j := j) (v := .int v) (by rw [hh]; exact q.1) (State.isArrayOf_alike hZ.alike q.2.1) q.2.2 (by rw [r]; exact j2) (by rw [t _ j1, hv]) (g := mkF m pc Ls (.int j :: .ref a :: S)) rfl rfl (hb hby hd) t' kk
theorem own_iaload (X : own_S Z n0 bytes y ml ret p l e R s m args below meth c T k sl h) {a : Addr} {vs : List Int32} {j v : Int32} (A : own_A Z h a .int vs) (hj : own_in j vs.length = true) (hv : vs.getD j.toNatClampNeg 0 = v) (hd : decode bytes pc = .ok (.iaload, 1)) (hpc : pc + 1 = pc') (K : own_G p e below Φ T (mkF m pc' Ls (.int v :: S))) : own_G p e below Φ T (mkF m pc Ls (.int j :: .ref a :: S)) := by
  obtain ⟨⟨locs, Y, N⟩, hh, hn, hx, hZ, hby, hml, hown, hnm, hret, hlk⟩ := X
  subst hpc
  obtain ⟨cl, q, r, t⟩ := A
  obtain ⟨j1, j2⟩ := own_in_not hj
  exact own_by K fun t' kk => Y.iaload hx (j := j) (v := .int v) (by rw [hh]; exact q.1) (State.isArrayOf_alike hZ.alike q.2.1) q.2.2 (by rw [r]; exact j2) (by rw [t _ j1, hv]) (g := mkF m pc Ls (.int j :: .ref a :: S)) rfl rfl (hb hby hd) t' kk
theorem own_len (X : own_S Z n0 bytes y ml ret p l e R s m args below meth c T k sl h) {a : Addr} {ty : FieldType} {vs : List Int32} {v : Int32} (A : own_A Z h a ty vs) (hv : vs.length.toInt32 = v) (hd : decode bytes pc = .ok (.arraylength, 1)) (hpc : pc + 1 = pc') (K : own_G p e below Φ T (mkF m pc' Ls (.int v :: S))) : own_G p e below Φ T (mkF m pc Ls (.ref a :: S)) := by
  obtain ⟨⟨locs, Y, N⟩, hh, hn, hx, hZ, hby, hml, hown, hnm, hret, hlk⟩ := X
  subst hpc
  obtain ⟨cl, q, r, t⟩ := A
  exact own_by K fun t' kk => Y.arraylength hx (by rw [hh]; exact q.1) (State.isArrayOf_alike hZ.alike q.2.1) (g := mkF m pc Ls (.ref a :: S)) rfl rfl (hb hby hd) t' (by rw [r, hv]; exact kk)
theorem own_set {h' : Heap} {a : Addr} {ty : FieldType} {vs : List Int32} {i : Nat} {v : Int32} {cl : Cell} (q : Arr Z h a cl ty) (r : cl.slots.size = vs.length) (t : ∀ j, j < vs.length → cl.slots[j]? = some (.int (vs.getD j 0))) (hi : i < vs.length) (W : Wr h h' a i (.int v)) : own_A Z h' a ty (vs.set i v) := by
  refine ⟨cl.setSlot i (.int v), q.same W, by rw [sz_set, r, List.length_set], fun j hj => ?_⟩
  rw [List.length_set] at hj
  have hc : i < cl.slots.size := by rw [r]; exact hi
  show (cl.slots.setIfInBounds i (.int v))[j]? = _
  rw [Array.getElem?_setIfInBounds]
  by_cases e : i = j
  · subst e
    simp [hc, List.getD_eq_getElem?_getD, hi]
  · simp only [e, if_false]
    rw [t j hj]
    simp [List.getD_eq_getElem?_getD, List.getElem?_set, e]
theorem own_bastore (X : own_S Z n0 bytes y ml ret p l e R s m args below meth c T k sl h) {a : Addr} {vs vs' : List Int32} {j v v' : Int32} (A : own_A Z h a .byte vs) (ha : n0 ≤ a) (hj : own_in j vs.length = true) (hv : v.toInt8.toInt32 = v') (hvs : vs.set j.toNatClampNeg v' = vs') (hd : decode bytes pc = .ok (.bastore, 1)) (hpc : pc + 1 = pc')
    (K : ∀ T' h', own_S Z n0 bytes y ml ret p l e R s m args below meth c T' k sl h' → own_A Z h' a .byte vs' → Wr h h' a j.toNatClampNeg (.int v') → own_G p e below Φ T' (mkF m pc' Ls S)) : own_G p e below Φ T (mkF m pc Ls (.int v :: .int j :: .ref a :: S)) := by
  obtain ⟨⟨locs, Y, N⟩, hh, hn, hx, hZ, hby, hml, hown, hnm, hret, hlk⟩ := X
  subst hpc hvs hv
  obtain ⟨cl, q, r, t⟩ := A
  obtain ⟨j1, j2⟩ := own_in_not hj
  obtain ⟨T', h', X', e', W', st⟩ := stB Y hx hZ hh q (j := j) (x := v) (by rw [r]; exact j2) (g := mkF m pc Ls (.int v :: .int j :: .ref a :: S)) rfl rfl (hb hby hd)
  exact own_by (K T' h' ⟨⟨_, X', Fr.snoc X' N ha⟩, e', hn, hx, hZ, hby, hml, hown, hnm, hret, hlk⟩ (own_set q r t j1 W') W') st
theorem own_iastore (X : own_S Z n0 bytes y ml ret p l e R s m args below meth c T k sl h) {a : Addr} {vs vs' : List Int32} {j v : Int32} (A : own_A Z h a .int vs) (ha : n0 ≤ a) (hj : own_in j vs.length = true) (hvs : vs.set j.toNatClampNeg v = vs') (hd : decode bytes pc = .ok (.iastore, 1)) (hpc : pc + 1 = pc')
    (K : ∀ T' h', own_S Z n0 bytes y ml ret p l e R s m args below meth c T' k sl h' → own_A Z h' a .int vs' → Wr h h' a j.toNatClampNeg (.int v) → own_G p e below Φ T' (mkF m pc' Ls S)) : own_G p e below Φ T (mkF m pc Ls (.int v :: .int j :: .ref a :: S)) := by
  obtain ⟨⟨locs, Y, N⟩, hh, hn, hx, hZ, hby, hml, hown, hnm, hret, hlk⟩ := X
  subst hpc hvs
  obtain ⟨cl, q, r, t⟩ := A
  obtain ⟨j1, j2⟩ := own_in_not hj
  obtain ⟨T', h', X', e', W', st⟩ := stI Y hx hZ hh q (j := j) (x := v) (by rw [r]; exact j2) (g := mkF m pc Ls (.int v :: .int j :: .ref a :: S)) rfl rfl (hb hby hd)
  exact own_by (K T' h' ⟨⟨_, X', Fr.snoc X' N ha⟩, e', hn, hx, hZ, hby, hml, hown, hnm, hret, hlk⟩ (own_set q r t j1 W') W') st
theorem own_newarr (X : own_S Z n0 bytes y ml ret p l e R s m args below meth c T k sl h) {aty : ArrayType} {n : Int32} {len : Nat} {vs : List Int32} (w : (Jvm.Cond.arrayClass (newarray.typeOf aty)).before a0 Z = true) (hty : defaultValue (newarray.typeOf aty) = .int 0) (hn0 : ¬ n < 0) (hlen : n.toNatClampNeg = len) (hvs : List.replicate len 0 = vs) (hbig : len * 8 ≤ 536870912) (hd : decode bytes pc = .ok (.newarray aty, 2)) (hpc : pc + 2 = pc') (hc : k + 1 ≤ R.cells) (hs : sl + len ≤ R.slots)
    (K : ∀ T' h' a, own_S Z n0 bytes y ml ret p l e R s m args below meth c T' (k + 1) (sl + len) h' → n0 ≤ a → a = h.size → Ext h h' → own_A Z h' a (newarray.typeOf aty) vs → own_G p e below Φ T' (mkF m pc' Ls (.ref a :: S))) : own_G p e below Φ T (mkF m pc Ls (.int n :: S)) := by
  have hsz := X.size
  obtain ⟨⟨locs, Y, N⟩, hh, hn, hx, hZ, hby, hml, hown, hnm, hret, hlk⟩ := X
  subst hpc hvs hlen
  obtain ⟨T', h', cA, X', e', E', A', st⟩ := newP Y hx hZ w hh (g := mkF m pc Ls (.int n :: S)) rfl (hb hby hd) rfl hn0 (cap := n.toNatClampNeg) (Nat.le_refl _) hbig hc hs
  refine own_by (K T' h' h.size ⟨⟨_, X', N⟩, e', hn, hx, hZ, hby, hml, hown, hnm, hret, hlk⟩ hsz rfl E' ⟨_, A', by rw [sz_new, List.length_replicate], fun j hj => ?_⟩) st
  rw [List.length_replicate] at hj
  simp [newA, hj, hty, List.getD_eq_getElem?_getD]
theorem own_b8 (v : Int32) : (v.toInt8.toInt32).toInt8.toInt32 = v.toInt8.toInt32 := by simp
end OwnKit
def own_fb (fill : Int64) (j : Int32) : Int32 := ((((fill.toUInt64 >>> (((8 : Int32) * j) &&& 0x3f).toInt64.toUInt64).toInt64) &&& (255 : Int64)).toInt32).toInt8.toInt32
theorem own_fb_b (fill : Int64) (j : Int32) : (own_fb fill j).toInt8.toInt32 = own_fb fill j := own_b8 _
theorem own_rem5 {a v : Int32} (e : ((a &&& (2147483647 : Int32)) - ((a &&& (2147483647 : Int32)) / (5 : Int32)) * (5 : Int32)) = v) : v = 0 ∨ v = 1 ∨ v = 2 ∨ v = 3 ∨ v = 4 := by
  have h := c_mask a 2147483647 31 (by decide) (by decide)
  have h2 := c_irem (a &&& 2147483647) 5 5 (by decide)
  rw [irem_eq_mod] at e
  rw [e] at h2
  have k1 : ∀ n : Int32, v = n ↔ v.toInt = n.toInt := fun n => Int32.toInt_inj.symm
  simp only [k1, Int32.reduceToInt]
  omega
theorem own_fb_m (fill : Int64) (j : Int32) : own_fb fill j &&& (255 : Int32) = (((fill.toUInt64 >>> (((8 : Int32) * j) &&& 0x3f).toInt64.toUInt64).toInt64) &&& (255 : Int64)).toInt32 := by
  have h0 := c_maskL ((fill.toUInt64 >>> (((8 : Int32) * j) &&& 0x3f).toInt64.toUInt64).toInt64) 255 8 (by decide) (by decide)
  unfold own_fb
  generalize (((fill.toUInt64 >>> (((8 : Int32) * j) &&& 0x3f).toInt64.toUInt64).toInt64) &&& (255 : Int64)) = t at *
  have h1 := c_l2i t
  have h2 := c_i2b t.toInt32
  have h3 := c_mask t.toInt32.toInt8.toInt32 255 8 (by decide) (by decide)
  have h4 := rng32 t.toInt32
  apply Int32.toInt_inj.mp
  omega
theorem own_u (value : Int32) : (value.toInt64 &&& (4294967295 : Int64)).toInt = value.toInt % 4294967296 := by
  have h := c_maskL value.toInt64 4294967295 32 (by decide) (by decide)
  rw [c_i2l] at h
  rw [h]; rfl
theorem own_p0 (value : Int32) : (((value.toUInt32 >>> ((24 : Int32) &&& 31).toUInt32).toInt32).toInt8.toInt32) &&& (255 : Int32) = ((((value.toInt64 &&& (4294967295 : Int64)) / (16777216 : Int64)) - (((value.toInt64 &&& (4294967295 : Int64)) / (16777216 : Int64)) / (256 : Int64)) * (256 : Int64)).toInt32) := by
  have hu := own_u value
  generalize (value.toInt64 &&& (4294967295 : Int64)) = u at *
  have hd := c_ldiv u 16777216 16777216 (by decide) (by decide)
  generalize u / (16777216 : Int64) = q at *
  have hr := c_lrem q 256 256 (by decide)
  have hl := c_l2i (q - (q / 256) * 256)
  have R1 := rng32 ((q - (q / 256) * 256).toInt32)
  have R2 := rng32 value
  have h1 := c_iushr value 24 24 (by decide) (by decide)
  generalize ((value.toUInt32 >>> ((24 : Int32) &&& 31).toUInt32).toInt32) = t at *
  have h2 := c_i2b t
  have h3 := c_mask t.toInt8.toInt32 255 8 (by decide) (by decide)
  apply Int32.toInt_inj.mp
  omega
theorem own_p1 (value : Int32) : (((value.toUInt32 >>> ((16 : Int32) &&& 31).toUInt32).toInt32).toInt8.toInt32) &&& (255 : Int32) = ((((value.toInt64 &&& (4294967295 : Int64)) / (65536 : Int64)) - (((value.toInt64 &&& (4294967295 : Int64)) / (65536 : Int64)) / (256 : Int64)) * (256 : Int64)).toInt32) := by
  have hu := own_u value
  generalize (value.toInt64 &&& (4294967295 : Int64)) = u at *
  have hd := c_ldiv u 65536 65536 (by decide) (by decide)
  generalize u / (65536 : Int64) = q at *
  have hr := c_lrem q 256 256 (by decide)
  have hl := c_l2i (q - (q / 256) * 256)
  have R1 := rng32 ((q - (q / 256) * 256).toInt32)
  have R2 := rng32 value
  have h1 := c_iushr value 16 16 (by decide) (by decide)
  generalize ((value.toUInt32 >>> ((16 : Int32) &&& 31).toUInt32).toInt32) = t at *
  have h2 := c_i2b t
  have h3 := c_mask t.toInt8.toInt32 255 8 (by decide) (by decide)
  apply Int32.toInt_inj.mp
  omega
theorem own_p2 (value : Int32) : (((value.toUInt32 >>> ((8 : Int32) &&& 31).toUInt32).toInt32).toInt8.toInt32) &&& (255 : Int32) = ((((value.toInt64 &&& (4294967295 : Int64)) / (256 : Int64)) - (((value.toInt64 &&& (4294967295 : Int64)) / (256 : Int64)) / (256 : Int64)) * (256 : Int64)).toInt32) := by
  have hu := own_u value
  generalize (value.toInt64 &&& (4294967295 : Int64)) = u at *
  have hd := c_ldiv u 256 256 (by decide) (by decide)
  generalize u / (256 : Int64) = q at *
  have hr := c_lrem q 256 256 (by decide)
  have hl := c_l2i (q - (q / 256) * 256)
  have R1 := rng32 ((q - (q / 256) * 256).toInt32)
  have R2 := rng32 value
  have h1 := c_iushr value 8 8 (by decide) (by decide)
  generalize ((value.toUInt32 >>> ((8 : Int32) &&& 31).toUInt32).toInt32) = t at *
  have h2 := c_i2b t
  have h3 := c_mask t.toInt8.toInt32 255 8 (by decide) (by decide)
  apply Int32.toInt_inj.mp
  omega
theorem own_p3 (value : Int32) : (value.toInt8.toInt32) &&& (255 : Int32) = ((((value.toInt64 &&& (4294967295 : Int64)) / (1 : Int64)) - (((value.toInt64 &&& (4294967295 : Int64)) / (1 : Int64)) / (256 : Int64)) * (256 : Int64)).toInt32) := by
  have hu := own_u value
  generalize (value.toInt64 &&& (4294967295 : Int64)) = u at *
  have hd := c_ldiv u 1 1 (by decide) (by decide)
  generalize u / (1 : Int64) = q at *
  have hr := c_lrem q 256 256 (by decide)
  have hl := c_l2i (q - (q / 256) * 256)
  have R1 := rng32 ((q - (q / 256) * 256).toInt32)
  have R2 := rng32 value
  have h2 := c_i2b value
  have h3 := c_mask value.toInt8.toInt32 255 8 (by decide) (by decide)
  apply Int32.toInt_inj.mp
  omega
theorem d1_0 : decode method_2_code 0 = .ok (.lload_n 0, 1) := by decide +kernel
theorem d1_1 : decode method_2_code 1 = .ok (.bipush 8, 2) := by decide +kernel
theorem d1_3 : decode method_2_code 3 = .ok (.iload_n 2, 1) := by decide +kernel
theorem d1_4 : decode method_2_code 4 = .ok (.imul, 1) := by decide +kernel
theorem d1_5 : decode method_2_code 5 = .ok (.lushr, 1) := by decide +kernel
theorem d1_6 : decode method_2_code 6 = .ok (.ldc2_w 7, 3) := by decide +kernel
theorem d1_9 : decode method_2_code 9 = .ok (.land, 1) := by decide +kernel
theorem d1_10 : decode method_2_code 10 = .ok (.l2i, 1) := by decide +kernel
theorem d1_11 : decode method_2_code 11 = .ok (.i2b, 1) := by decide +kernel
theorem d1_12 : decode method_2_code 12 = .ok (.ireturn, 1) := by decide +kernel
theorem pn_rm1 : plainFor (⟨"com/example/sheath/sheath/EspPutIntPinLaw", "fillByte", "(JI)B"⟩ : MethodName) = true := plainFor_of_name (by first | (simp [plainName, overriddenIn]; done) | decide +kernel)
theorem ef_rm1 (m : MethodId) (x0 : Int64) (x1 : Int32) : entryFrame m #[(.long x0), (.int x1)] 3 = mkF m 0 #[.val (.long x0), .second, .val (.int x1)] [] := by first | (simp [entryFrame, mkF, argsToLocals, Value.category]; done) | rfl
set_option maxRecDepth 65536 in
set_option maxHeartbeats 4000000 in
theorem rm1 (l : Launch) (Z : State) (a0 : Array Value) (hw : ∀ d ∈ tables_1, d.before a0 Z = true) (n0 : Nat) (fill : Int64) (j : Int32) (h0 : Heap) (hn0 : n0 ≤ h0.size) :
    own_Met l (⟨"com/example/sheath/sheath/EspPutIntPinLaw", "fillByte", "(JI)B"⟩ : MethodName) method_2_code 3 (some .byte) ({ frames := 0, cells := 0, slots := 0, locals := 0 } : Room) Z n0 #[(.long fill), (.int j)] h0 (some (.int (own_fb fill j))) (fun h' => h' = h0) := by
  refine own_met pn_rm1 hn0 ?_
  intro p e s m below meth c T X
  refine own_cast (ef_rm1 m fill j) ?_
  generalize hΦ : own_Q n0 below s _ _ _ = Φ
  refine own_lloadN X (pc' := 1) d1_0 rfl rfl ?_
  refine own_bipush X (v := (8 : Int32)) (pc' := 3) d1_1 rfl (by decide) ?_
  refine own_iloadN X (pc' := 4) d1_3 rfl rfl ?_
  refine own_imul X (r := ((8 : Int32) * j)) (pc' := 5) d1_4 rfl rfl ?_
  refine own_lushr X (r := ((fill.toUInt64 >>> (((8 : Int32) * j) &&& 0x3f).toInt64.toUInt64).toInt64)) (pc' := 6) d1_5 rfl rfl ?_
  refine own_ldc2 X (pc' := 9) (hw _ (List.mem_of_getElem? (i := 6) rfl)) d1_6 rfl ?_
  refine own_land X (r := (((fill.toUInt64 >>> (((8 : Int32) * j) &&& 0x3f).toInt64.toUInt64).toInt64) &&& (255 : Int64))) (pc' := 10) d1_9 rfl rfl ?_
  refine own_l2i X (r := ((((fill.toUInt64 >>> (((8 : Int32) * j) &&& 0x3f).toInt64.toUInt64).toInt64) &&& (255 : Int64)).toInt32)) (pc' := 11) d1_10 rfl rfl ?_
  refine own_i2b X (r := (((((fill.toUInt64 >>> (((8 : Int32) * j) &&& 0x3f).toInt64.toUInt64).toInt64) &&& (255 : Int64)).toInt32).toInt8.toInt32)) (pc' := 12) d1_11 rfl rfl ?_
  subst hΦ
  exact own_retB X d1_12 (own_b8 _) (by decide) (by decide) rfl rfl
theorem d2_0 : decode prog_2_method_2_code 0 = .ok (.aload_n 0, 1) := by decide +kernel
theorem d2_1 : decode prog_2_method_2_code 1 = .ok (.iload_n 1, 1) := by decide +kernel
theorem d2_2 : decode prog_2_method_2_code 2 = .ok (.iload_n 2, 1) := by decide +kernel
theorem d2_3 : decode prog_2_method_2_code 3 = .ok (.bipush 24, 2) := by decide +kernel
theorem d2_5 : decode prog_2_method_2_code 5 = .ok (.iushr, 1) := by decide +kernel
theorem d2_6 : decode prog_2_method_2_code 6 = .ok (.i2b, 1) := by decide +kernel
theorem d2_7 : decode prog_2_method_2_code 7 = .ok (.bastore, 1) := by decide +kernel
theorem d2_8 : decode prog_2_method_2_code 8 = .ok (.aload_n 0, 1) := by decide +kernel
theorem d2_9 : decode prog_2_method_2_code 9 = .ok (.iload_n 1, 1) := by decide +kernel
theorem d2_10 : decode prog_2_method_2_code 10 = .ok (.iconst 1, 1) := by decide +kernel
theorem d2_11 : decode prog_2_method_2_code 11 = .ok (.iadd, 1) := by decide +kernel
theorem d2_12 : decode prog_2_method_2_code 12 = .ok (.iload_n 2, 1) := by decide +kernel
theorem d2_13 : decode prog_2_method_2_code 13 = .ok (.bipush 16, 2) := by decide +kernel
theorem d2_15 : decode prog_2_method_2_code 15 = .ok (.iushr, 1) := by decide +kernel
theorem d2_16 : decode prog_2_method_2_code 16 = .ok (.i2b, 1) := by decide +kernel
theorem d2_17 : decode prog_2_method_2_code 17 = .ok (.bastore, 1) := by decide +kernel
theorem d2_18 : decode prog_2_method_2_code 18 = .ok (.aload_n 0, 1) := by decide +kernel
theorem d2_19 : decode prog_2_method_2_code 19 = .ok (.iload_n 1, 1) := by decide +kernel
theorem d2_20 : decode prog_2_method_2_code 20 = .ok (.iconst 2, 1) := by decide +kernel
theorem d2_21 : decode prog_2_method_2_code 21 = .ok (.iadd, 1) := by decide +kernel
theorem d2_22 : decode prog_2_method_2_code 22 = .ok (.iload_n 2, 1) := by decide +kernel
theorem d2_23 : decode prog_2_method_2_code 23 = .ok (.bipush 8, 2) := by decide +kernel
theorem d2_25 : decode prog_2_method_2_code 25 = .ok (.iushr, 1) := by decide +kernel
theorem d2_26 : decode prog_2_method_2_code 26 = .ok (.i2b, 1) := by decide +kernel
theorem d2_27 : decode prog_2_method_2_code 27 = .ok (.bastore, 1) := by decide +kernel
theorem d2_28 : decode prog_2_method_2_code 28 = .ok (.aload_n 0, 1) := by decide +kernel
theorem d2_29 : decode prog_2_method_2_code 29 = .ok (.iload_n 1, 1) := by decide +kernel
theorem d2_30 : decode prog_2_method_2_code 30 = .ok (.iconst 3, 1) := by decide +kernel
theorem d2_31 : decode prog_2_method_2_code 31 = .ok (.iadd, 1) := by decide +kernel
theorem d2_32 : decode prog_2_method_2_code 32 = .ok (.iload_n 2, 1) := by decide +kernel
theorem d2_33 : decode prog_2_method_2_code 33 = .ok (.i2b, 1) := by decide +kernel
theorem d2_34 : decode prog_2_method_2_code 34 = .ok (.bastore, 1) := by decide +kernel
theorem d2_35 : decode prog_2_method_2_code 35 = .ok (.return_, 1) := by decide +kernel
theorem pn_rm2 : plainFor (⟨"com/example/sheath/sheath/Esp", "putInt", "([BII)V"⟩ : MethodName) = true := plainFor_of_name (by first | (simp [plainName, overriddenIn]; done) | decide +kernel)
theorem ef_rm2 (m : MethodId) (x0 : Addr) (x1 : Int32) (x2 : Int32) : entryFrame m #[(.ref x0), (.int x1), (.int x2)] 3 = mkF m 0 #[.val (.ref x0), .val (.int x1), .val (.int x2)] [] := by first | (simp [entryFrame, mkF, argsToLocals, Value.category]; done) | rfl
set_option maxRecDepth 65536 in
set_option maxHeartbeats 4000000 in
theorem rm2 (l : Launch) (Z : State) (a0 : Array Value) (hw : ∀ d ∈ tables_1, d.before a0 Z = true) (n0 : Nat) (a : Addr) (j : Int32) (value : Int32) (h0 : Heap) (hn0 : n0 ≤ h0.size) (vs : List Int32) (A : own_A Z h0 a .byte vs) (ge : n0 ≤ a) (g0 : own_in j vs.length = true) (g1 : own_in (j + (1 : Int32)) vs.length = true) (g2 : own_in (j + (2 : Int32)) vs.length = true) (g3 : own_in (j + (3 : Int32)) vs.length = true) :
    own_Met l (⟨"com/example/sheath/sheath/Esp", "putInt", "([BII)V"⟩ : MethodName) prog_2_method_2_code 3 none ({ frames := 0, cells := 0, slots := 0, locals := 0 } : Room) Z n0 #[(.ref a), (.int j), (.int value)] h0 none (fun h' => own_A Z h' a .byte ((((vs.set (j).toNatClampNeg (((value.toUInt32 >>> ((24 : Int32) &&& 31).toUInt32).toInt32).toInt8.toInt32)).set ((j + (1 : Int32))).toNatClampNeg (((value.toUInt32 >>> ((16 : Int32) &&& 31).toUInt32).toInt32).toInt8.toInt32)).set ((j + (2 : Int32))).toNatClampNeg (((value.toUInt32 >>> ((8 : Int32) &&& 31).toUInt32).toInt32).toInt8.toInt32)).set ((j + (3 : Int32))).toNatClampNeg (value.toInt8.toInt32)) ∧ Keep h0 h' [a]) := by
  refine own_met pn_rm2 hn0 ?_
  intro p e s m below meth c T X
  refine own_cast (ef_rm2 m a j value) ?_
  generalize hΦ : own_Q n0 below s _ _ _ = Φ
  have K0 := Keep.refl h0 [a]
  refine own_aloadN X (pc' := 1) d2_0 rfl rfl rfl ?_
  refine own_iloadN X (pc' := 2) d2_1 rfl rfl ?_
  refine own_iloadN X (pc' := 3) d2_2 rfl rfl ?_
  refine own_bipush X (v := (24 : Int32)) (pc' := 5) d2_3 rfl (by decide) ?_
  refine own_iushr X (r := ((value.toUInt32 >>> ((24 : Int32) &&& 31).toUInt32).toInt32)) (pc' := 6) d2_5 rfl rfl ?_
  refine own_i2b X (r := (((value.toUInt32 >>> ((24 : Int32) &&& 31).toUInt32).toInt32).toInt8.toInt32)) (pc' := 7) d2_6 rfl rfl ?_
  refine own_bastore X (vs' := (vs.set (j).toNatClampNeg (((value.toUInt32 >>> ((24 : Int32) &&& 31).toUInt32).toInt32).toInt8.toInt32))) (pc' := 8) A ge (by simpa using g0) (own_b8 _) rfl d2_7 rfl ?_
  intro T1 h1 X1 A1 W1
  have K2 := K0.wr W1 (Or.inl (by simp))
  refine own_aloadN X1 (pc' := 9) d2_8 rfl rfl rfl ?_
  refine own_iloadN X1 (pc' := 10) d2_9 rfl rfl ?_
  refine own_iconst X1 (v := (1 : Int32)) (pc' := 11) d2_10 rfl (by decide) ?_
  refine own_iadd X1 (r := (j + (1 : Int32))) (pc' := 12) d2_11 rfl rfl ?_
  refine own_iloadN X1 (pc' := 13) d2_12 rfl rfl ?_
  refine own_bipush X1 (v := (16 : Int32)) (pc' := 15) d2_13 rfl (by decide) ?_
  refine own_iushr X1 (r := ((value.toUInt32 >>> ((16 : Int32) &&& 31).toUInt32).toInt32)) (pc' := 16) d2_15 rfl rfl ?_
  refine own_i2b X1 (r := (((value.toUInt32 >>> ((16 : Int32) &&& 31).toUInt32).toInt32).toInt8.toInt32)) (pc' := 17) d2_16 rfl rfl ?_
  refine own_bastore X1 (vs' := ((vs.set (j).toNatClampNeg (((value.toUInt32 >>> ((24 : Int32) &&& 31).toUInt32).toInt32).toInt8.toInt32)).set ((j + (1 : Int32))).toNatClampNeg (((value.toUInt32 >>> ((16 : Int32) &&& 31).toUInt32).toInt32).toInt8.toInt32))) (pc' := 18) A1 ge (by simpa using g1) (own_b8 _) rfl d2_17 rfl ?_
  intro T3 h3 X3 A3 W3
  have K4 := K2.wr W3 (Or.inl (by simp))
  refine own_aloadN X3 (pc' := 19) d2_18 rfl rfl rfl ?_
  refine own_iloadN X3 (pc' := 20) d2_19 rfl rfl ?_
  refine own_iconst X3 (v := (2 : Int32)) (pc' := 21) d2_20 rfl (by decide) ?_
  refine own_iadd X3 (r := (j + (2 : Int32))) (pc' := 22) d2_21 rfl rfl ?_
  refine own_iloadN X3 (pc' := 23) d2_22 rfl rfl ?_
  refine own_bipush X3 (v := (8 : Int32)) (pc' := 25) d2_23 rfl (by decide) ?_
  refine own_iushr X3 (r := ((value.toUInt32 >>> ((8 : Int32) &&& 31).toUInt32).toInt32)) (pc' := 26) d2_25 rfl rfl ?_
  refine own_i2b X3 (r := (((value.toUInt32 >>> ((8 : Int32) &&& 31).toUInt32).toInt32).toInt8.toInt32)) (pc' := 27) d2_26 rfl rfl ?_
  refine own_bastore X3 (vs' := (((vs.set (j).toNatClampNeg (((value.toUInt32 >>> ((24 : Int32) &&& 31).toUInt32).toInt32).toInt8.toInt32)).set ((j + (1 : Int32))).toNatClampNeg (((value.toUInt32 >>> ((16 : Int32) &&& 31).toUInt32).toInt32).toInt8.toInt32)).set ((j + (2 : Int32))).toNatClampNeg (((value.toUInt32 >>> ((8 : Int32) &&& 31).toUInt32).toInt32).toInt8.toInt32))) (pc' := 28) A3 ge (by simpa using g2) (own_b8 _) rfl d2_27 rfl ?_
  intro T5 h5 X5 A5 W5
  have K6 := K4.wr W5 (Or.inl (by simp))
  refine own_aloadN X5 (pc' := 29) d2_28 rfl rfl rfl ?_
  refine own_iloadN X5 (pc' := 30) d2_29 rfl rfl ?_
  refine own_iconst X5 (v := (3 : Int32)) (pc' := 31) d2_30 rfl (by decide) ?_
  refine own_iadd X5 (r := (j + (3 : Int32))) (pc' := 32) d2_31 rfl rfl ?_
  refine own_iloadN X5 (pc' := 33) d2_32 rfl rfl ?_
  refine own_i2b X5 (r := (value.toInt8.toInt32)) (pc' := 34) d2_33 rfl rfl ?_
  refine own_bastore X5 (vs' := ((((vs.set (j).toNatClampNeg (((value.toUInt32 >>> ((24 : Int32) &&& 31).toUInt32).toInt32).toInt8.toInt32)).set ((j + (1 : Int32))).toNatClampNeg (((value.toUInt32 >>> ((16 : Int32) &&& 31).toUInt32).toInt32).toInt8.toInt32)).set ((j + (2 : Int32))).toNatClampNeg (((value.toUInt32 >>> ((8 : Int32) &&& 31).toUInt32).toInt32).toInt8.toInt32)).set ((j + (3 : Int32))).toNatClampNeg (value.toInt8.toInt32))) (pc' := 35) A5 ge (by simpa using g3) (own_b8 _) rfl d2_34 rfl ?_
  intro T7 h7 X7 A7 W7
  have K8 := K6.wr W7 (Or.inl (by simp))
  subst hΦ
  exact own_retV X7 d2_35 (by decide) (by decide) rfl ⟨A7, K8⟩
theorem d3_0 : decode method_3_code 0 = .ok (.aload_n 0, 1) := by decide +kernel
theorem d3_1 : decode method_3_code 1 = .ok (.iload_n 1, 1) := by decide +kernel
theorem d3_2 : decode method_3_code 2 = .ok (.baload, 1) := by decide +kernel
theorem d3_3 : decode method_3_code 3 = .ok (.sipush 255, 3) := by decide +kernel
theorem d3_6 : decode method_3_code 6 = .ok (.iand, 1) := by decide +kernel
theorem d3_7 : decode method_3_code 7 = .ok (.istore 6, 2) := by decide +kernel
theorem d3_9 : decode method_3_code 9 = .ok (.iload_n 1, 1) := by decide +kernel
theorem d3_10 : decode method_3_code 10 = .ok (.iload_n 2, 1) := by decide +kernel
theorem d3_11 : decode method_3_code 11 = .ok (.isub, 1) := by decide +kernel
theorem d3_12 : decode method_3_code 12 = .ok (.istore 7, 2) := by decide +kernel
theorem d3_14 : decode method_3_code 14 = .ok (.iload 7, 2) := by decide +kernel
theorem d3_16 : decode method_3_code 16 = .ok (.ifCond .lt 9, 3) := by decide +kernel
theorem d3_25 : decode method_3_code 25 = .ok (.iload 6, 2) := by decide +kernel
theorem d3_27 : decode method_3_code 27 = .ok (.lload 4, 2) := by decide +kernel
theorem d3_29 : decode method_3_code 29 = .ok (.bipush 8, 2) := by decide +kernel
theorem d3_31 : decode method_3_code 31 = .ok (.iload_n 1, 1) := by decide +kernel
theorem d3_32 : decode method_3_code 32 = .ok (.imul, 1) := by decide +kernel
theorem d3_33 : decode method_3_code 33 = .ok (.lushr, 1) := by decide +kernel
theorem d3_34 : decode method_3_code 34 = .ok (.ldc2_w 7, 3) := by decide +kernel
theorem d3_37 : decode method_3_code 37 = .ok (.land, 1) := by decide +kernel
theorem d3_38 : decode method_3_code 38 = .ok (.l2i, 1) := by decide +kernel
theorem d3_39 : decode method_3_code 39 = .ok (.if_icmp .ne 7, 3) := by decide +kernel
theorem d3_42 : decode method_3_code 42 = .ok (.iconst 1, 1) := by decide +kernel
theorem d3_43 : decode method_3_code 43 = .ok (.goto 4, 3) := by decide +kernel
theorem d3_47 : decode method_3_code 47 = .ok (.ireturn, 1) := by decide +kernel
theorem pn_rm3A : plainFor (⟨"com/example/sheath/sheath/EspPutIntPinLaw", "ok", "([BIIIJ)Z"⟩ : MethodName) = true := plainFor_of_name (by first | (simp [plainName, overriddenIn]; done) | decide +kernel)
theorem ef_rm3A (m : MethodId) (x0 : Addr) (x1 : Int32) (x2 : Int32) (x3 : Int32) (x4 : Int64) : entryFrame m #[(.ref x0), (.int x1), (.int x2), (.int x3), (.long x4)] 12 = mkF m 0 #[.val (.ref x0), .val (.int x1), .val (.int x2), .val (.int x3), .val (.long x4), .second, .unset, .unset, .unset, .unset, .unset, .unset] [] := by first | (simp [entryFrame, mkF, argsToLocals, Value.category]; done) | rfl
set_option maxRecDepth 65536 in
set_option maxHeartbeats 4000000 in
theorem rm3A (l : Launch) (Z : State) (a0 : Array Value) (hw : ∀ d ∈ tables_1, d.before a0 Z = true) (n0 : Nat) (a : Addr) (j : Int32) (off : Int32) (value : Int32) (fill : Int64) (h0 : Heap) (hn0 : n0 ≤ h0.size) (vs : List Int32) (A : own_A Z h0 a .byte vs) (u : Int32) (g : own_in j vs.length = true) (f : vs.getD j.toNatClampNeg 0 = u) (hi : j - off < 0) (hv : u &&& (255 : Int32) = (((fill.toUInt64 >>> (((8 : Int32) * j) &&& 0x3f).toInt64.toUInt64).toInt64) &&& (255 : Int64)).toInt32) :
    own_Met l (⟨"com/example/sheath/sheath/EspPutIntPinLaw", "ok", "([BIIIJ)Z"⟩ : MethodName) method_3_code 12 (some .boolean) ({ frames := 0, cells := 0, slots := 0, locals := 0 } : Room) Z n0 #[(.ref a), (.int j), (.int off), (.int value), (.long fill)] h0 (some (.int 1)) (fun h' => h' = h0) := by
  refine own_met pn_rm3A hn0 ?_
  intro p e s m below meth c T X
  refine own_cast (ef_rm3A m a j off value fill) ?_
  generalize hΦ : own_Q n0 below s _ _ _ = Φ
  refine own_aloadN X (pc' := 1) d3_0 rfl rfl rfl ?_
  refine own_iloadN X (pc' := 2) d3_1 rfl rfl ?_
  refine own_baload X (v := u) (pc' := 3) A g f d3_2 rfl ?_
  refine own_sipush X (v := (255 : Int32)) (pc' := 6) d3_3 rfl (by decide) ?_
  refine own_iand X (r := (u &&& (255 : Int32))) (pc' := 7) d3_6 rfl rfl ?_
  refine own_istore X (pc' := 9) (Ls' := #[.val (.ref a), .val (.int j), .val (.int off), .val (.int value), .val (.long fill), .second, .val (.int (u &&& (255 : Int32))), .unset, .unset, .unset, .unset, .unset]) d3_7 rfl rfl ?_
  refine own_iloadN X (pc' := 10) d3_9 rfl rfl ?_
  refine own_iloadN X (pc' := 11) d3_10 rfl rfl ?_
  refine own_isub X (r := (j - off)) (pc' := 12) d3_11 rfl rfl ?_
  refine own_istore X (pc' := 14) (Ls' := #[.val (.ref a), .val (.int j), .val (.int off), .val (.int value), .val (.long fill), .second, .val (.int (u &&& (255 : Int32))), .val (.int (j - off)), .unset, .unset, .unset, .unset]) d3_12 rfl rfl ?_
  refine own_iload X (pc' := 16) d3_14 rfl rfl ?_
  refine own_if_lt X (pct := 25) (pc' := 19) d3_16 rfl (by decide) (by decide) (fun _ => ?_) (fun hc => absurd hc (fun q => q hi))
  refine own_iload X (pc' := 27) d3_25 rfl rfl ?_
  refine own_lload X (pc' := 29) d3_27 rfl rfl ?_
  refine own_bipush X (v := (8 : Int32)) (pc' := 31) d3_29 rfl (by decide) ?_
  refine own_iloadN X (pc' := 32) d3_31 rfl rfl ?_
  refine own_imul X (r := ((8 : Int32) * j)) (pc' := 33) d3_32 rfl rfl ?_
  refine own_lushr X (r := ((fill.toUInt64 >>> (((8 : Int32) * j) &&& 0x3f).toInt64.toUInt64).toInt64)) (pc' := 34) d3_33 rfl rfl ?_
  refine own_ldc2 X (pc' := 37) (hw _ (List.mem_of_getElem? (i := 6) rfl)) d3_34 rfl ?_
  refine own_land X (r := (((fill.toUInt64 >>> (((8 : Int32) * j) &&& 0x3f).toInt64.toUInt64).toInt64) &&& (255 : Int64))) (pc' := 38) d3_37 rfl rfl ?_
  refine own_l2i X (r := ((((fill.toUInt64 >>> (((8 : Int32) * j) &&& 0x3f).toInt64.toUInt64).toInt64) &&& (255 : Int64)).toInt32)) (pc' := 39) d3_38 rfl rfl ?_
  refine own_icmp_ne X (pct := 46) (pc' := 42) d3_39 rfl (by decide) (by decide) (fun hc => absurd hc (fun q => q hv)) (fun _ => ?_)
  refine own_iconst X (v := (1 : Int32)) (pc' := 43) d3_42 rfl (by decide) ?_
  refine own_goto X (pc' := 47) d3_43 (by decide) (by decide) ?_
  subst hΦ
  exact own_retZ X d3_47 (by decide) (by decide) (by decide) rfl rfl
theorem d3_19 : decode method_3_code 19 = .ok (.iload 7, 2) := by decide +kernel
theorem d3_21 : decode method_3_code 21 = .ok (.iconst 3, 1) := by decide +kernel
theorem d3_22 : decode method_3_code 22 = .ok (.if_icmp .le 26, 3) := by decide +kernel
theorem pn_rm3B : plainFor (⟨"com/example/sheath/sheath/EspPutIntPinLaw", "ok", "([BIIIJ)Z"⟩ : MethodName) = true := plainFor_of_name (by first | (simp [plainName, overriddenIn]; done) | decide +kernel)
theorem ef_rm3B (m : MethodId) (x0 : Addr) (x1 : Int32) (x2 : Int32) (x3 : Int32) (x4 : Int64) : entryFrame m #[(.ref x0), (.int x1), (.int x2), (.int x3), (.long x4)] 12 = mkF m 0 #[.val (.ref x0), .val (.int x1), .val (.int x2), .val (.int x3), .val (.long x4), .second, .unset, .unset, .unset, .unset, .unset, .unset] [] := by first | (simp [entryFrame, mkF, argsToLocals, Value.category]; done) | rfl
set_option maxRecDepth 65536 in
set_option maxHeartbeats 4000000 in
theorem rm3B (l : Launch) (Z : State) (a0 : Array Value) (hw : ∀ d ∈ tables_1, d.before a0 Z = true) (n0 : Nat) (a : Addr) (j : Int32) (off : Int32) (value : Int32) (fill : Int64) (h0 : Heap) (hn0 : n0 ≤ h0.size) (vs : List Int32) (A : own_A Z h0 a .byte vs) (u : Int32) (g : own_in j vs.length = true) (f : vs.getD j.toNatClampNeg 0 = u) (h2 : ¬ j - off < 0) (hi : 3 < j - off) (hv : u &&& (255 : Int32) = (((fill.toUInt64 >>> (((8 : Int32) * j) &&& 0x3f).toInt64.toUInt64).toInt64) &&& (255 : Int64)).toInt32) :
    own_Met l (⟨"com/example/sheath/sheath/EspPutIntPinLaw", "ok", "([BIIIJ)Z"⟩ : MethodName) method_3_code 12 (some .boolean) ({ frames := 0, cells := 0, slots := 0, locals := 0 } : Room) Z n0 #[(.ref a), (.int j), (.int off), (.int value), (.long fill)] h0 (some (.int 1)) (fun h' => h' = h0) := by
  refine own_met pn_rm3B hn0 ?_
  intro p e s m below meth c T X
  refine own_cast (ef_rm3B m a j off value fill) ?_
  generalize hΦ : own_Q n0 below s _ _ _ = Φ
  refine own_aloadN X (pc' := 1) d3_0 rfl rfl rfl ?_
  refine own_iloadN X (pc' := 2) d3_1 rfl rfl ?_
  refine own_baload X (v := u) (pc' := 3) A g f d3_2 rfl ?_
  refine own_sipush X (v := (255 : Int32)) (pc' := 6) d3_3 rfl (by decide) ?_
  refine own_iand X (r := (u &&& (255 : Int32))) (pc' := 7) d3_6 rfl rfl ?_
  refine own_istore X (pc' := 9) (Ls' := #[.val (.ref a), .val (.int j), .val (.int off), .val (.int value), .val (.long fill), .second, .val (.int (u &&& (255 : Int32))), .unset, .unset, .unset, .unset, .unset]) d3_7 rfl rfl ?_
  refine own_iloadN X (pc' := 10) d3_9 rfl rfl ?_
  refine own_iloadN X (pc' := 11) d3_10 rfl rfl ?_
  refine own_isub X (r := (j - off)) (pc' := 12) d3_11 rfl rfl ?_
  refine own_istore X (pc' := 14) (Ls' := #[.val (.ref a), .val (.int j), .val (.int off), .val (.int value), .val (.long fill), .second, .val (.int (u &&& (255 : Int32))), .val (.int (j - off)), .unset, .unset, .unset, .unset]) d3_12 rfl rfl ?_
  refine own_iload X (pc' := 16) d3_14 rfl rfl ?_
  refine own_if_lt X (pct := 25) (pc' := 19) d3_16 rfl (by decide) (by decide) (fun hc => absurd hc h2) (fun _ => ?_)
  refine own_iload X (pc' := 21) d3_19 rfl rfl ?_
  refine own_iconst X (v := (3 : Int32)) (pc' := 22) d3_21 rfl (by decide) ?_
  refine own_icmp_le X (pct := 48) (pc' := 25) d3_22 rfl (by decide) (by decide) (fun hc => absurd hc (fun q => q hi)) (fun _ => ?_)
  refine own_iload X (pc' := 27) d3_25 rfl rfl ?_
  refine own_lload X (pc' := 29) d3_27 rfl rfl ?_
  refine own_bipush X (v := (8 : Int32)) (pc' := 31) d3_29 rfl (by decide) ?_
  refine own_iloadN X (pc' := 32) d3_31 rfl rfl ?_
  refine own_imul X (r := ((8 : Int32) * j)) (pc' := 33) d3_32 rfl rfl ?_
  refine own_lushr X (r := ((fill.toUInt64 >>> (((8 : Int32) * j) &&& 0x3f).toInt64.toUInt64).toInt64)) (pc' := 34) d3_33 rfl rfl ?_
  refine own_ldc2 X (pc' := 37) (hw _ (List.mem_of_getElem? (i := 6) rfl)) d3_34 rfl ?_
  refine own_land X (r := (((fill.toUInt64 >>> (((8 : Int32) * j) &&& 0x3f).toInt64.toUInt64).toInt64) &&& (255 : Int64))) (pc' := 38) d3_37 rfl rfl ?_
  refine own_l2i X (r := ((((fill.toUInt64 >>> (((8 : Int32) * j) &&& 0x3f).toInt64.toUInt64).toInt64) &&& (255 : Int64)).toInt32)) (pc' := 39) d3_38 rfl rfl ?_
  refine own_icmp_ne X (pct := 46) (pc' := 42) d3_39 rfl (by decide) (by decide) (fun hc => absurd hc (fun q => q hv)) (fun _ => ?_)
  refine own_iconst X (v := (1 : Int32)) (pc' := 43) d3_42 rfl (by decide) ?_
  refine own_goto X (pc' := 47) d3_43 (by decide) (by decide) ?_
  subst hΦ
  exact own_retZ X d3_47 (by decide) (by decide) (by decide) rfl rfl
theorem d3_48 : decode method_3_code 48 = .ok (.iload_n 3, 1) := by decide +kernel
theorem d3_49 : decode method_3_code 49 = .ok (.i2l, 1) := by decide +kernel
theorem d3_50 : decode method_3_code 50 = .ok (.ldc2_w 9, 3) := by decide +kernel
theorem d3_53 : decode method_3_code 53 = .ok (.land, 1) := by decide +kernel
theorem d3_54 : decode method_3_code 54 = .ok (.lstore 8, 2) := by decide +kernel
theorem d3_56 : decode method_3_code 56 = .ok (.iload 7, 2) := by decide +kernel
theorem d3_58 : decode method_3_code 58 = .ok (.ifCond .ne 11, 3) := by decide +kernel
theorem d3_61 : decode method_3_code 61 = .ok (.ldc2_w 11, 3) := by decide +kernel
theorem d3_64 : decode method_3_code 64 = .ok (.lstore 10, 2) := by decide +kernel
theorem d3_66 : decode method_3_code 66 = .ok (.goto 34, 3) := by decide +kernel
theorem d3_100 : decode method_3_code 100 = .ok (.iload 6, 2) := by decide +kernel
theorem d3_102 : decode method_3_code 102 = .ok (.lload 8, 2) := by decide +kernel
theorem d3_104 : decode method_3_code 104 = .ok (.lload 10, 2) := by decide +kernel
theorem d3_106 : decode method_3_code 106 = .ok (.ldiv, 1) := by decide +kernel
theorem d3_107 : decode method_3_code 107 = .ok (.ldc2_w 15, 3) := by decide +kernel
theorem d3_110 : decode method_3_code 110 = .ok (.lrem, 1) := by decide +kernel
theorem d3_111 : decode method_3_code 111 = .ok (.l2i, 1) := by decide +kernel
theorem d3_112 : decode method_3_code 112 = .ok (.if_icmp .ne 7, 3) := by decide +kernel
theorem d3_115 : decode method_3_code 115 = .ok (.iconst 1, 1) := by decide +kernel
theorem d3_116 : decode method_3_code 116 = .ok (.goto 4, 3) := by decide +kernel
theorem d3_120 : decode method_3_code 120 = .ok (.ireturn, 1) := by decide +kernel
theorem pn_rm3_0 : plainFor (⟨"com/example/sheath/sheath/EspPutIntPinLaw", "ok", "([BIIIJ)Z"⟩ : MethodName) = true := plainFor_of_name (by first | (simp [plainName, overriddenIn]; done) | decide +kernel)
theorem ef_rm3_0 (m : MethodId) (x0 : Addr) (x1 : Int32) (x2 : Int32) (x3 : Int32) (x4 : Int64) : entryFrame m #[(.ref x0), (.int x1), (.int x2), (.int x3), (.long x4)] 12 = mkF m 0 #[.val (.ref x0), .val (.int x1), .val (.int x2), .val (.int x3), .val (.long x4), .second, .unset, .unset, .unset, .unset, .unset, .unset] [] := by first | (simp [entryFrame, mkF, argsToLocals, Value.category]; done) | rfl
set_option maxRecDepth 65536 in
set_option maxHeartbeats 4000000 in
theorem rm3_0 (l : Launch) (Z : State) (a0 : Array Value) (hw : ∀ d ∈ tables_1, d.before a0 Z = true) (n0 : Nat) (a : Addr) (j : Int32) (off : Int32) (value : Int32) (fill : Int64) (h0 : Heap) (hn0 : n0 ≤ h0.size) (vs : List Int32) (A : own_A Z h0 a .byte vs) (u : Int32) (g : own_in j vs.length = true) (f : vs.getD j.toNatClampNeg 0 = u) (hi : j - off = (0 : Int32)) (hv : u &&& (255 : Int32) = ((((value.toInt64 &&& (4294967295 : Int64)) / (16777216 : Int64)) - (((value.toInt64 &&& (4294967295 : Int64)) / (16777216 : Int64)) / (256 : Int64)) * (256 : Int64)).toInt32)) :
    own_Met l (⟨"com/example/sheath/sheath/EspPutIntPinLaw", "ok", "([BIIIJ)Z"⟩ : MethodName) method_3_code 12 (some .boolean) ({ frames := 0, cells := 0, slots := 0, locals := 0 } : Room) Z n0 #[(.ref a), (.int j), (.int off), (.int value), (.long fill)] h0 (some (.int 1)) (fun h' => h' = h0) := by
  refine own_met pn_rm3_0 hn0 ?_
  intro p e s m below meth c T X
  refine own_cast (ef_rm3_0 m a j off value fill) ?_
  generalize hΦ : own_Q n0 below s _ _ _ = Φ
  refine own_aloadN X (pc' := 1) d3_0 rfl rfl rfl ?_
  refine own_iloadN X (pc' := 2) d3_1 rfl rfl ?_
  refine own_baload X (v := u) (pc' := 3) A g f d3_2 rfl ?_
  refine own_sipush X (v := (255 : Int32)) (pc' := 6) d3_3 rfl (by decide) ?_
  refine own_iand X (r := (u &&& (255 : Int32))) (pc' := 7) d3_6 rfl rfl ?_
  refine own_istore X (pc' := 9) (Ls' := #[.val (.ref a), .val (.int j), .val (.int off), .val (.int value), .val (.long fill), .second, .val (.int (u &&& (255 : Int32))), .unset, .unset, .unset, .unset, .unset]) d3_7 rfl rfl ?_
  refine own_iloadN X (pc' := 10) d3_9 rfl rfl ?_
  refine own_iloadN X (pc' := 11) d3_10 rfl rfl ?_
  refine own_isub X (r := (j - off)) (pc' := 12) d3_11 rfl rfl ?_
  refine own_istore X (pc' := 14) (Ls' := #[.val (.ref a), .val (.int j), .val (.int off), .val (.int value), .val (.long fill), .second, .val (.int (u &&& (255 : Int32))), .val (.int (j - off)), .unset, .unset, .unset, .unset]) d3_12 rfl rfl ?_
  rw [hi]
  refine own_iload X (pc' := 16) d3_14 rfl rfl ?_
  refine own_if_lt X (pct := 25) (pc' := 19) d3_16 rfl (by decide) (by decide) (fun hc => absurd hc (by decide)) (fun _ => ?_)
  refine own_iload X (pc' := 21) d3_19 rfl rfl ?_
  refine own_iconst X (v := (3 : Int32)) (pc' := 22) d3_21 rfl (by decide) ?_
  refine own_icmp_le X (pct := 48) (pc' := 25) d3_22 rfl (by decide) (by decide) (fun _ => ?_) (fun hc => absurd hc (by decide))
  refine own_iloadN X (pc' := 49) d3_48 rfl rfl ?_
  refine own_i2l X (r := (value.toInt64)) (pc' := 50) d3_49 rfl rfl ?_
  refine own_ldc2 X (pc' := 53) (hw _ (List.mem_of_getElem? (i := 14) rfl)) d3_50 rfl ?_
  refine own_land X (r := ((value.toInt64) &&& (4294967295 : Int64))) (pc' := 54) d3_53 rfl rfl ?_
  refine own_lstore X (pc' := 56) (Ls' := #[.val (.ref a), .val (.int j), .val (.int off), .val (.int value), .val (.long fill), .second, .val (.int (u &&& (255 : Int32))), .val (.int (0 : Int32)), .val (.long ((value.toInt64) &&& (4294967295 : Int64))), .second, .unset, .unset]) d3_54 rfl rfl ?_
  refine own_iload X (pc' := 58) d3_56 rfl rfl ?_
  refine own_if_ne X (pct := 69) (pc' := 61) d3_58 rfl (by decide) (by decide) (fun hc => absurd hc (by decide)) (fun _ => ?_)
  refine own_ldc2 X (pc' := 64) (hw _ (List.mem_of_getElem? (i := 15) rfl)) d3_61 rfl ?_
  refine own_lstore X (pc' := 66) (Ls' := #[.val (.ref a), .val (.int j), .val (.int off), .val (.int value), .val (.long fill), .second, .val (.int (u &&& (255 : Int32))), .val (.int (0 : Int32)), .val (.long ((value.toInt64) &&& (4294967295 : Int64))), .second, .val (.long (16777216 : Int64)), .second]) d3_64 rfl rfl ?_
  refine own_goto X (pc' := 100) d3_66 (by decide) (by decide) ?_
  refine own_iload X (pc' := 102) d3_100 rfl rfl ?_
  refine own_lload X (pc' := 104) d3_102 rfl rfl ?_
  refine own_lload X (pc' := 106) d3_104 rfl rfl ?_
  refine own_ldiv X (r := (((value.toInt64) &&& (4294967295 : Int64)) / (16777216 : Int64))) (pc' := 107) d3_106 rfl (by decide) rfl ?_
  refine own_ldc2 X (pc' := 110) (hw _ (List.mem_of_getElem? (i := 16) rfl)) d3_107 rfl ?_
  refine own_lrem X (r := ((((value.toInt64) &&& (4294967295 : Int64)) / (16777216 : Int64)) - ((((value.toInt64) &&& (4294967295 : Int64)) / (16777216 : Int64)) / (256 : Int64)) * (256 : Int64))) (pc' := 111) d3_110 rfl (by decide) rfl ?_
  refine own_l2i X (r := (((((value.toInt64) &&& (4294967295 : Int64)) / (16777216 : Int64)) - ((((value.toInt64) &&& (4294967295 : Int64)) / (16777216 : Int64)) / (256 : Int64)) * (256 : Int64)).toInt32)) (pc' := 112) d3_111 rfl rfl ?_
  refine own_icmp_ne X (pct := 119) (pc' := 115) d3_112 rfl (by decide) (by decide) (fun hc => absurd hc (fun q => q hv)) (fun _ => ?_)
  refine own_iconst X (v := (1 : Int32)) (pc' := 116) d3_115 rfl (by decide) ?_
  refine own_goto X (pc' := 120) d3_116 (by decide) (by decide) ?_
  subst hΦ
  exact own_retZ X d3_120 (by decide) (by decide) (by decide) rfl rfl
theorem d3_69 : decode method_3_code 69 = .ok (.iload 7, 2) := by decide +kernel
theorem d3_71 : decode method_3_code 71 = .ok (.iconst 1, 1) := by decide +kernel
theorem d3_72 : decode method_3_code 72 = .ok (.if_icmp .ne 11, 3) := by decide +kernel
theorem d3_75 : decode method_3_code 75 = .ok (.ldc2_w 13, 3) := by decide +kernel
theorem d3_78 : decode method_3_code 78 = .ok (.lstore 10, 2) := by decide +kernel
theorem d3_80 : decode method_3_code 80 = .ok (.goto 20, 3) := by decide +kernel
theorem pn_rm3_1 : plainFor (⟨"com/example/sheath/sheath/EspPutIntPinLaw", "ok", "([BIIIJ)Z"⟩ : MethodName) = true := plainFor_of_name (by first | (simp [plainName, overriddenIn]; done) | decide +kernel)
theorem ef_rm3_1 (m : MethodId) (x0 : Addr) (x1 : Int32) (x2 : Int32) (x3 : Int32) (x4 : Int64) : entryFrame m #[(.ref x0), (.int x1), (.int x2), (.int x3), (.long x4)] 12 = mkF m 0 #[.val (.ref x0), .val (.int x1), .val (.int x2), .val (.int x3), .val (.long x4), .second, .unset, .unset, .unset, .unset, .unset, .unset] [] := by first | (simp [entryFrame, mkF, argsToLocals, Value.category]; done) | rfl
set_option maxRecDepth 65536 in
set_option maxHeartbeats 4000000 in
theorem rm3_1 (l : Launch) (Z : State) (a0 : Array Value) (hw : ∀ d ∈ tables_1, d.before a0 Z = true) (n0 : Nat) (a : Addr) (j : Int32) (off : Int32) (value : Int32) (fill : Int64) (h0 : Heap) (hn0 : n0 ≤ h0.size) (vs : List Int32) (A : own_A Z h0 a .byte vs) (u : Int32) (g : own_in j vs.length = true) (f : vs.getD j.toNatClampNeg 0 = u) (hi : j - off = (1 : Int32)) (hv : u &&& (255 : Int32) = ((((value.toInt64 &&& (4294967295 : Int64)) / (65536 : Int64)) - (((value.toInt64 &&& (4294967295 : Int64)) / (65536 : Int64)) / (256 : Int64)) * (256 : Int64)).toInt32)) :
    own_Met l (⟨"com/example/sheath/sheath/EspPutIntPinLaw", "ok", "([BIIIJ)Z"⟩ : MethodName) method_3_code 12 (some .boolean) ({ frames := 0, cells := 0, slots := 0, locals := 0 } : Room) Z n0 #[(.ref a), (.int j), (.int off), (.int value), (.long fill)] h0 (some (.int 1)) (fun h' => h' = h0) := by
  refine own_met pn_rm3_1 hn0 ?_
  intro p e s m below meth c T X
  refine own_cast (ef_rm3_1 m a j off value fill) ?_
  generalize hΦ : own_Q n0 below s _ _ _ = Φ
  refine own_aloadN X (pc' := 1) d3_0 rfl rfl rfl ?_
  refine own_iloadN X (pc' := 2) d3_1 rfl rfl ?_
  refine own_baload X (v := u) (pc' := 3) A g f d3_2 rfl ?_
  refine own_sipush X (v := (255 : Int32)) (pc' := 6) d3_3 rfl (by decide) ?_
  refine own_iand X (r := (u &&& (255 : Int32))) (pc' := 7) d3_6 rfl rfl ?_
  refine own_istore X (pc' := 9) (Ls' := #[.val (.ref a), .val (.int j), .val (.int off), .val (.int value), .val (.long fill), .second, .val (.int (u &&& (255 : Int32))), .unset, .unset, .unset, .unset, .unset]) d3_7 rfl rfl ?_
  refine own_iloadN X (pc' := 10) d3_9 rfl rfl ?_
  refine own_iloadN X (pc' := 11) d3_10 rfl rfl ?_
  refine own_isub X (r := (j - off)) (pc' := 12) d3_11 rfl rfl ?_
  refine own_istore X (pc' := 14) (Ls' := #[.val (.ref a), .val (.int j), .val (.int off), .val (.int value), .val (.long fill), .second, .val (.int (u &&& (255 : Int32))), .val (.int (j - off)), .unset, .unset, .unset, .unset]) d3_12 rfl rfl ?_
  rw [hi]
  refine own_iload X (pc' := 16) d3_14 rfl rfl ?_
  refine own_if_lt X (pct := 25) (pc' := 19) d3_16 rfl (by decide) (by decide) (fun hc => absurd hc (by decide)) (fun _ => ?_)
  refine own_iload X (pc' := 21) d3_19 rfl rfl ?_
  refine own_iconst X (v := (3 : Int32)) (pc' := 22) d3_21 rfl (by decide) ?_
  refine own_icmp_le X (pct := 48) (pc' := 25) d3_22 rfl (by decide) (by decide) (fun _ => ?_) (fun hc => absurd hc (by decide))
  refine own_iloadN X (pc' := 49) d3_48 rfl rfl ?_
  refine own_i2l X (r := (value.toInt64)) (pc' := 50) d3_49 rfl rfl ?_
  refine own_ldc2 X (pc' := 53) (hw _ (List.mem_of_getElem? (i := 14) rfl)) d3_50 rfl ?_
  refine own_land X (r := ((value.toInt64) &&& (4294967295 : Int64))) (pc' := 54) d3_53 rfl rfl ?_
  refine own_lstore X (pc' := 56) (Ls' := #[.val (.ref a), .val (.int j), .val (.int off), .val (.int value), .val (.long fill), .second, .val (.int (u &&& (255 : Int32))), .val (.int (1 : Int32)), .val (.long ((value.toInt64) &&& (4294967295 : Int64))), .second, .unset, .unset]) d3_54 rfl rfl ?_
  refine own_iload X (pc' := 58) d3_56 rfl rfl ?_
  refine own_if_ne X (pct := 69) (pc' := 61) d3_58 rfl (by decide) (by decide) (fun _ => ?_) (fun hc => absurd hc (by decide))
  refine own_iload X (pc' := 71) d3_69 rfl rfl ?_
  refine own_iconst X (v := (1 : Int32)) (pc' := 72) d3_71 rfl (by decide) ?_
  refine own_icmp_ne X (pct := 83) (pc' := 75) d3_72 rfl (by decide) (by decide) (fun hc => absurd hc (by decide)) (fun _ => ?_)
  refine own_ldc2 X (pc' := 78) (hw _ (List.mem_of_getElem? (i := 17) rfl)) d3_75 rfl ?_
  refine own_lstore X (pc' := 80) (Ls' := #[.val (.ref a), .val (.int j), .val (.int off), .val (.int value), .val (.long fill), .second, .val (.int (u &&& (255 : Int32))), .val (.int (1 : Int32)), .val (.long ((value.toInt64) &&& (4294967295 : Int64))), .second, .val (.long (65536 : Int64)), .second]) d3_78 rfl rfl ?_
  refine own_goto X (pc' := 100) d3_80 (by decide) (by decide) ?_
  refine own_iload X (pc' := 102) d3_100 rfl rfl ?_
  refine own_lload X (pc' := 104) d3_102 rfl rfl ?_
  refine own_lload X (pc' := 106) d3_104 rfl rfl ?_
  refine own_ldiv X (r := (((value.toInt64) &&& (4294967295 : Int64)) / (65536 : Int64))) (pc' := 107) d3_106 rfl (by decide) rfl ?_
  refine own_ldc2 X (pc' := 110) (hw _ (List.mem_of_getElem? (i := 16) rfl)) d3_107 rfl ?_
  refine own_lrem X (r := ((((value.toInt64) &&& (4294967295 : Int64)) / (65536 : Int64)) - ((((value.toInt64) &&& (4294967295 : Int64)) / (65536 : Int64)) / (256 : Int64)) * (256 : Int64))) (pc' := 111) d3_110 rfl (by decide) rfl ?_
  refine own_l2i X (r := (((((value.toInt64) &&& (4294967295 : Int64)) / (65536 : Int64)) - ((((value.toInt64) &&& (4294967295 : Int64)) / (65536 : Int64)) / (256 : Int64)) * (256 : Int64)).toInt32)) (pc' := 112) d3_111 rfl rfl ?_
  refine own_icmp_ne X (pct := 119) (pc' := 115) d3_112 rfl (by decide) (by decide) (fun hc => absurd hc (fun q => q hv)) (fun _ => ?_)
  refine own_iconst X (v := (1 : Int32)) (pc' := 116) d3_115 rfl (by decide) ?_
  refine own_goto X (pc' := 120) d3_116 (by decide) (by decide) ?_
  subst hΦ
  exact own_retZ X d3_120 (by decide) (by decide) (by decide) rfl rfl
theorem d3_83 : decode method_3_code 83 = .ok (.iload 7, 2) := by decide +kernel
theorem d3_85 : decode method_3_code 85 = .ok (.iconst 2, 1) := by decide +kernel
theorem d3_86 : decode method_3_code 86 = .ok (.if_icmp .ne 11, 3) := by decide +kernel
theorem d3_89 : decode method_3_code 89 = .ok (.ldc2_w 15, 3) := by decide +kernel
theorem d3_92 : decode method_3_code 92 = .ok (.lstore 10, 2) := by decide +kernel
theorem d3_94 : decode method_3_code 94 = .ok (.goto 6, 3) := by decide +kernel
theorem pn_rm3_2 : plainFor (⟨"com/example/sheath/sheath/EspPutIntPinLaw", "ok", "([BIIIJ)Z"⟩ : MethodName) = true := plainFor_of_name (by first | (simp [plainName, overriddenIn]; done) | decide +kernel)
theorem ef_rm3_2 (m : MethodId) (x0 : Addr) (x1 : Int32) (x2 : Int32) (x3 : Int32) (x4 : Int64) : entryFrame m #[(.ref x0), (.int x1), (.int x2), (.int x3), (.long x4)] 12 = mkF m 0 #[.val (.ref x0), .val (.int x1), .val (.int x2), .val (.int x3), .val (.long x4), .second, .unset, .unset, .unset, .unset, .unset, .unset] [] := by first | (simp [entryFrame, mkF, argsToLocals, Value.category]; done) | rfl
set_option maxRecDepth 65536 in
set_option maxHeartbeats 4000000 in
theorem rm3_2 (l : Launch) (Z : State) (a0 : Array Value) (hw : ∀ d ∈ tables_1, d.before a0 Z = true) (n0 : Nat) (a : Addr) (j : Int32) (off : Int32) (value : Int32) (fill : Int64) (h0 : Heap) (hn0 : n0 ≤ h0.size) (vs : List Int32) (A : own_A Z h0 a .byte vs) (u : Int32) (g : own_in j vs.length = true) (f : vs.getD j.toNatClampNeg 0 = u) (hi : j - off = (2 : Int32)) (hv : u &&& (255 : Int32) = ((((value.toInt64 &&& (4294967295 : Int64)) / (256 : Int64)) - (((value.toInt64 &&& (4294967295 : Int64)) / (256 : Int64)) / (256 : Int64)) * (256 : Int64)).toInt32)) :
    own_Met l (⟨"com/example/sheath/sheath/EspPutIntPinLaw", "ok", "([BIIIJ)Z"⟩ : MethodName) method_3_code 12 (some .boolean) ({ frames := 0, cells := 0, slots := 0, locals := 0 } : Room) Z n0 #[(.ref a), (.int j), (.int off), (.int value), (.long fill)] h0 (some (.int 1)) (fun h' => h' = h0) := by
  refine own_met pn_rm3_2 hn0 ?_
  intro p e s m below meth c T X
  refine own_cast (ef_rm3_2 m a j off value fill) ?_
  generalize hΦ : own_Q n0 below s _ _ _ = Φ
  refine own_aloadN X (pc' := 1) d3_0 rfl rfl rfl ?_
  refine own_iloadN X (pc' := 2) d3_1 rfl rfl ?_
  refine own_baload X (v := u) (pc' := 3) A g f d3_2 rfl ?_
  refine own_sipush X (v := (255 : Int32)) (pc' := 6) d3_3 rfl (by decide) ?_
  refine own_iand X (r := (u &&& (255 : Int32))) (pc' := 7) d3_6 rfl rfl ?_
  refine own_istore X (pc' := 9) (Ls' := #[.val (.ref a), .val (.int j), .val (.int off), .val (.int value), .val (.long fill), .second, .val (.int (u &&& (255 : Int32))), .unset, .unset, .unset, .unset, .unset]) d3_7 rfl rfl ?_
  refine own_iloadN X (pc' := 10) d3_9 rfl rfl ?_
  refine own_iloadN X (pc' := 11) d3_10 rfl rfl ?_
  refine own_isub X (r := (j - off)) (pc' := 12) d3_11 rfl rfl ?_
  refine own_istore X (pc' := 14) (Ls' := #[.val (.ref a), .val (.int j), .val (.int off), .val (.int value), .val (.long fill), .second, .val (.int (u &&& (255 : Int32))), .val (.int (j - off)), .unset, .unset, .unset, .unset]) d3_12 rfl rfl ?_
  rw [hi]
  refine own_iload X (pc' := 16) d3_14 rfl rfl ?_
  refine own_if_lt X (pct := 25) (pc' := 19) d3_16 rfl (by decide) (by decide) (fun hc => absurd hc (by decide)) (fun _ => ?_)
  refine own_iload X (pc' := 21) d3_19 rfl rfl ?_
  refine own_iconst X (v := (3 : Int32)) (pc' := 22) d3_21 rfl (by decide) ?_
  refine own_icmp_le X (pct := 48) (pc' := 25) d3_22 rfl (by decide) (by decide) (fun _ => ?_) (fun hc => absurd hc (by decide))
  refine own_iloadN X (pc' := 49) d3_48 rfl rfl ?_
  refine own_i2l X (r := (value.toInt64)) (pc' := 50) d3_49 rfl rfl ?_
  refine own_ldc2 X (pc' := 53) (hw _ (List.mem_of_getElem? (i := 14) rfl)) d3_50 rfl ?_
  refine own_land X (r := ((value.toInt64) &&& (4294967295 : Int64))) (pc' := 54) d3_53 rfl rfl ?_
  refine own_lstore X (pc' := 56) (Ls' := #[.val (.ref a), .val (.int j), .val (.int off), .val (.int value), .val (.long fill), .second, .val (.int (u &&& (255 : Int32))), .val (.int (2 : Int32)), .val (.long ((value.toInt64) &&& (4294967295 : Int64))), .second, .unset, .unset]) d3_54 rfl rfl ?_
  refine own_iload X (pc' := 58) d3_56 rfl rfl ?_
  refine own_if_ne X (pct := 69) (pc' := 61) d3_58 rfl (by decide) (by decide) (fun _ => ?_) (fun hc => absurd hc (by decide))
  refine own_iload X (pc' := 71) d3_69 rfl rfl ?_
  refine own_iconst X (v := (1 : Int32)) (pc' := 72) d3_71 rfl (by decide) ?_
  refine own_icmp_ne X (pct := 83) (pc' := 75) d3_72 rfl (by decide) (by decide) (fun _ => ?_) (fun hc => absurd hc (by decide))
  refine own_iload X (pc' := 85) d3_83 rfl rfl ?_
  refine own_iconst X (v := (2 : Int32)) (pc' := 86) d3_85 rfl (by decide) ?_
  refine own_icmp_ne X (pct := 97) (pc' := 89) d3_86 rfl (by decide) (by decide) (fun hc => absurd hc (by decide)) (fun _ => ?_)
  refine own_ldc2 X (pc' := 92) (hw _ (List.mem_of_getElem? (i := 16) rfl)) d3_89 rfl ?_
  refine own_lstore X (pc' := 94) (Ls' := #[.val (.ref a), .val (.int j), .val (.int off), .val (.int value), .val (.long fill), .second, .val (.int (u &&& (255 : Int32))), .val (.int (2 : Int32)), .val (.long ((value.toInt64) &&& (4294967295 : Int64))), .second, .val (.long (256 : Int64)), .second]) d3_92 rfl rfl ?_
  refine own_goto X (pc' := 100) d3_94 (by decide) (by decide) ?_
  refine own_iload X (pc' := 102) d3_100 rfl rfl ?_
  refine own_lload X (pc' := 104) d3_102 rfl rfl ?_
  refine own_lload X (pc' := 106) d3_104 rfl rfl ?_
  refine own_ldiv X (r := (((value.toInt64) &&& (4294967295 : Int64)) / (256 : Int64))) (pc' := 107) d3_106 rfl (by decide) rfl ?_
  refine own_ldc2 X (pc' := 110) (hw _ (List.mem_of_getElem? (i := 16) rfl)) d3_107 rfl ?_
  refine own_lrem X (r := ((((value.toInt64) &&& (4294967295 : Int64)) / (256 : Int64)) - ((((value.toInt64) &&& (4294967295 : Int64)) / (256 : Int64)) / (256 : Int64)) * (256 : Int64))) (pc' := 111) d3_110 rfl (by decide) rfl ?_
  refine own_l2i X (r := (((((value.toInt64) &&& (4294967295 : Int64)) / (256 : Int64)) - ((((value.toInt64) &&& (4294967295 : Int64)) / (256 : Int64)) / (256 : Int64)) * (256 : Int64)).toInt32)) (pc' := 112) d3_111 rfl rfl ?_
  refine own_icmp_ne X (pct := 119) (pc' := 115) d3_112 rfl (by decide) (by decide) (fun hc => absurd hc (fun q => q hv)) (fun _ => ?_)
  refine own_iconst X (v := (1 : Int32)) (pc' := 116) d3_115 rfl (by decide) ?_
  refine own_goto X (pc' := 120) d3_116 (by decide) (by decide) ?_
  subst hΦ
  exact own_retZ X d3_120 (by decide) (by decide) (by decide) rfl rfl
theorem d3_97 : decode method_3_code 97 = .ok (.lconst 1, 1) := by decide +kernel
theorem d3_98 : decode method_3_code 98 = .ok (.lstore 10, 2) := by decide +kernel
theorem pn_rm3_3 : plainFor (⟨"com/example/sheath/sheath/EspPutIntPinLaw", "ok", "([BIIIJ)Z"⟩ : MethodName) = true := plainFor_of_name (by first | (simp [plainName, overriddenIn]; done) | decide +kernel)
theorem ef_rm3_3 (m : MethodId) (x0 : Addr) (x1 : Int32) (x2 : Int32) (x3 : Int32) (x4 : Int64) : entryFrame m #[(.ref x0), (.int x1), (.int x2), (.int x3), (.long x4)] 12 = mkF m 0 #[.val (.ref x0), .val (.int x1), .val (.int x2), .val (.int x3), .val (.long x4), .second, .unset, .unset, .unset, .unset, .unset, .unset] [] := by first | (simp [entryFrame, mkF, argsToLocals, Value.category]; done) | rfl
set_option maxRecDepth 65536 in
set_option maxHeartbeats 4000000 in
theorem rm3_3 (l : Launch) (Z : State) (a0 : Array Value) (hw : ∀ d ∈ tables_1, d.before a0 Z = true) (n0 : Nat) (a : Addr) (j : Int32) (off : Int32) (value : Int32) (fill : Int64) (h0 : Heap) (hn0 : n0 ≤ h0.size) (vs : List Int32) (A : own_A Z h0 a .byte vs) (u : Int32) (g : own_in j vs.length = true) (f : vs.getD j.toNatClampNeg 0 = u) (hi : j - off = (3 : Int32)) (hv : u &&& (255 : Int32) = ((((value.toInt64 &&& (4294967295 : Int64)) / (1 : Int64)) - (((value.toInt64 &&& (4294967295 : Int64)) / (1 : Int64)) / (256 : Int64)) * (256 : Int64)).toInt32)) :
    own_Met l (⟨"com/example/sheath/sheath/EspPutIntPinLaw", "ok", "([BIIIJ)Z"⟩ : MethodName) method_3_code 12 (some .boolean) ({ frames := 0, cells := 0, slots := 0, locals := 0 } : Room) Z n0 #[(.ref a), (.int j), (.int off), (.int value), (.long fill)] h0 (some (.int 1)) (fun h' => h' = h0) := by
  refine own_met pn_rm3_3 hn0 ?_
  intro p e s m below meth c T X
  refine own_cast (ef_rm3_3 m a j off value fill) ?_
  generalize hΦ : own_Q n0 below s _ _ _ = Φ
  refine own_aloadN X (pc' := 1) d3_0 rfl rfl rfl ?_
  refine own_iloadN X (pc' := 2) d3_1 rfl rfl ?_
  refine own_baload X (v := u) (pc' := 3) A g f d3_2 rfl ?_
  refine own_sipush X (v := (255 : Int32)) (pc' := 6) d3_3 rfl (by decide) ?_
  refine own_iand X (r := (u &&& (255 : Int32))) (pc' := 7) d3_6 rfl rfl ?_
  refine own_istore X (pc' := 9) (Ls' := #[.val (.ref a), .val (.int j), .val (.int off), .val (.int value), .val (.long fill), .second, .val (.int (u &&& (255 : Int32))), .unset, .unset, .unset, .unset, .unset]) d3_7 rfl rfl ?_
  refine own_iloadN X (pc' := 10) d3_9 rfl rfl ?_
  refine own_iloadN X (pc' := 11) d3_10 rfl rfl ?_
  refine own_isub X (r := (j - off)) (pc' := 12) d3_11 rfl rfl ?_
  refine own_istore X (pc' := 14) (Ls' := #[.val (.ref a), .val (.int j), .val (.int off), .val (.int value), .val (.long fill), .second, .val (.int (u &&& (255 : Int32))), .val (.int (j - off)), .unset, .unset, .unset, .unset]) d3_12 rfl rfl ?_
  rw [hi]
  refine own_iload X (pc' := 16) d3_14 rfl rfl ?_
  refine own_if_lt X (pct := 25) (pc' := 19) d3_16 rfl (by decide) (by decide) (fun hc => absurd hc (by decide)) (fun _ => ?_)
  refine own_iload X (pc' := 21) d3_19 rfl rfl ?_
  refine own_iconst X (v := (3 : Int32)) (pc' := 22) d3_21 rfl (by decide) ?_
  refine own_icmp_le X (pct := 48) (pc' := 25) d3_22 rfl (by decide) (by decide) (fun _ => ?_) (fun hc => absurd hc (by decide))
  refine own_iloadN X (pc' := 49) d3_48 rfl rfl ?_
  refine own_i2l X (r := (value.toInt64)) (pc' := 50) d3_49 rfl rfl ?_
  refine own_ldc2 X (pc' := 53) (hw _ (List.mem_of_getElem? (i := 14) rfl)) d3_50 rfl ?_
  refine own_land X (r := ((value.toInt64) &&& (4294967295 : Int64))) (pc' := 54) d3_53 rfl rfl ?_
  refine own_lstore X (pc' := 56) (Ls' := #[.val (.ref a), .val (.int j), .val (.int off), .val (.int value), .val (.long fill), .second, .val (.int (u &&& (255 : Int32))), .val (.int (3 : Int32)), .val (.long ((value.toInt64) &&& (4294967295 : Int64))), .second, .unset, .unset]) d3_54 rfl rfl ?_
  refine own_iload X (pc' := 58) d3_56 rfl rfl ?_
  refine own_if_ne X (pct := 69) (pc' := 61) d3_58 rfl (by decide) (by decide) (fun _ => ?_) (fun hc => absurd hc (by decide))
  refine own_iload X (pc' := 71) d3_69 rfl rfl ?_
  refine own_iconst X (v := (1 : Int32)) (pc' := 72) d3_71 rfl (by decide) ?_
  refine own_icmp_ne X (pct := 83) (pc' := 75) d3_72 rfl (by decide) (by decide) (fun _ => ?_) (fun hc => absurd hc (by decide))
  refine own_iload X (pc' := 85) d3_83 rfl rfl ?_
  refine own_iconst X (v := (2 : Int32)) (pc' := 86) d3_85 rfl (by decide) ?_
  refine own_icmp_ne X (pct := 97) (pc' := 89) d3_86 rfl (by decide) (by decide) (fun _ => ?_) (fun hc => absurd hc (by decide))
  refine own_lconst X (v := (1 : Int64)) (pc' := 98) d3_97 rfl (by decide) ?_
  refine own_lstore X (pc' := 100) (Ls' := #[.val (.ref a), .val (.int j), .val (.int off), .val (.int value), .val (.long fill), .second, .val (.int (u &&& (255 : Int32))), .val (.int (3 : Int32)), .val (.long ((value.toInt64) &&& (4294967295 : Int64))), .second, .val (.long (1 : Int64)), .second]) d3_98 rfl rfl ?_
  refine own_iload X (pc' := 102) d3_100 rfl rfl ?_
  refine own_lload X (pc' := 104) d3_102 rfl rfl ?_
  refine own_lload X (pc' := 106) d3_104 rfl rfl ?_
  refine own_ldiv X (r := (((value.toInt64) &&& (4294967295 : Int64)) / (1 : Int64))) (pc' := 107) d3_106 rfl (by decide) rfl ?_
  refine own_ldc2 X (pc' := 110) (hw _ (List.mem_of_getElem? (i := 16) rfl)) d3_107 rfl ?_
  refine own_lrem X (r := ((((value.toInt64) &&& (4294967295 : Int64)) / (1 : Int64)) - ((((value.toInt64) &&& (4294967295 : Int64)) / (1 : Int64)) / (256 : Int64)) * (256 : Int64))) (pc' := 111) d3_110 rfl (by decide) rfl ?_
  refine own_l2i X (r := (((((value.toInt64) &&& (4294967295 : Int64)) / (1 : Int64)) - ((((value.toInt64) &&& (4294967295 : Int64)) / (1 : Int64)) / (256 : Int64)) * (256 : Int64)).toInt32)) (pc' := 112) d3_111 rfl rfl ?_
  refine own_icmp_ne X (pct := 119) (pc' := 115) d3_112 rfl (by decide) (by decide) (fun hc => absurd hc (fun q => q hv)) (fun _ => ?_)
  refine own_iconst X (v := (1 : Int32)) (pc' := 116) d3_115 rfl (by decide) ?_
  refine own_goto X (pc' := 120) d3_116 (by decide) (by decide) ?_
  subst hΦ
  exact own_retZ X d3_120 (by decide) (by decide) (by decide) rfl rfl
theorem pd_0 : parseMethodDescriptor "(JI)B" = some ⟨[.long, .int], some .byte⟩ := by decide +kernel
theorem pd_1 : parseMethodDescriptor "([BII)V" = some ⟨[(.array .byte), .int, .int], none⟩ := by decide +kernel
theorem pd_2 : parseMethodDescriptor "([BIIIJ)Z" = some ⟨[(.array .byte), .int, .int, .int, .long], some .boolean⟩ := by decide +kernel
theorem pn_rm0 : plainFor (⟨"com/example/sheath/sheath/EspPutIntPinLaw", "law", "(IIJ)Z"⟩ : MethodName) = true := plainFor_of_name (by first | (simp [plainName, overriddenIn]; done) | decide +kernel)
theorem ef_rm0 (m : MethodId) (x0 : Int32) (x1 : Int32) (x2 : Int64) : entryFrame m #[(.int x0), (.int x1), (.long x2)] maxLocals = mkF m 0 #[.val (.int x0), .val (.int x1), .val (.long x2), .second, .unset, .unset] [] := by first | (simp [entryFrame, mkF, argsToLocals, Value.category, maxLocals]; done) | rfl
set_option maxRecDepth 65536 in
set_option maxHeartbeats 4000000 in
theorem rm0 (l : Launch) (Z : State) (a0 : Array Value) (hw : ∀ d ∈ tables_1, d.before a0 Z = true) (n0 : Nat) (value : Int32) (kk : Int32) (fill : Int64) (h0 : Heap) (hn0 : n0 ≤ h0.size) :
    own_Met l x code maxLocals ret room_1 Z n0 #[(.int value), (.int kk), (.long fill)] h0 (some (.int 1)) (fun _ => True) := by
  refine own_met pn_rm0 hn0 ?_
  intro p e s m below meth c T X
  refine own_cast (ef_rm0 m value kk fill) ?_
  change own_S Z n0 code x 6 ret p l e room_1 s m _ below meth c T 0 0 h0 at X
  generalize hΦ : own_Q n0 below s _ _ _ = Φ
  refine own_iloadN X (pc' := 1) at_0 rfl rfl ?_
  refine own_ldc X (pc' := 3) (hw _ (List.mem_of_getElem? (i := 0) rfl)) at_1 rfl ?_
  refine own_iand X (r := (kk &&& (2147483647 : Int32))) (pc' := 4) at_3 rfl rfl ?_
  refine own_iconst X (v := (5 : Int32)) (pc' := 5) at_4 rfl (by decide) ?_
  refine own_irem X (r := ((kk &&& (2147483647 : Int32)) - ((kk &&& (2147483647 : Int32)) / (5 : Int32)) * (5 : Int32))) (pc' := 6) at_5 rfl (by decide) rfl ?_
  refine own_istore X (pc' := 8) (Ls' := #[.val (.int value), .val (.int kk), .val (.long fill), .second, .val (.int ((kk &&& (2147483647 : Int32)) - ((kk &&& (2147483647 : Int32)) / (5 : Int32)) * (5 : Int32))), .unset]) at_6 rfl rfl ?_
  generalize e1 : ((kk &&& (2147483647 : Int32)) - ((kk &&& (2147483647 : Int32)) / (5 : Int32)) * (5 : Int32)) = v1
  rcases own_rem5 e1 with rfl | rfl | rfl | rfl | rfl
  · refine own_bipush X (v := (8 : Int32)) (pc' := 10) at_8 rfl (by decide) ?_
    refine own_newarr X (len := 8) (vs := [0, 0, 0, 0, 0, 0, 0, 0]) (pc' := 12) (hw _ (List.mem_of_getElem? (i := 1) rfl)) rfl (by decide) (by decide) rfl (by decide) at_10 rfl (by decide) (by decide) ?_
    intro T2 h2 ad2 X2 ge_ad2 g_ad2 E2 A2
    refine own_astore X2 (pc' := 14) (Ls' := #[.val (.int value), .val (.int kk), .val (.long fill), .second, .val (.int (0 : Int32)), .val (.ref ad2)]) at_12 rfl rfl rfl ?_
    refine own_aload X2 (pc' := 16) at_14 rfl rfl rfl ?_
    refine own_iconst X2 (v := (0 : Int32)) (pc' := 17) at_16 rfl (by decide) ?_
    refine own_lloadN X2 (pc' := 18) at_17 rfl rfl ?_
    refine own_iconst X2 (v := (0 : Int32)) (pc' := 19) at_18 rfl (by decide) ?_
    refine own_callS X2 (W := 2) (argsL := [(.long fill), (.int (0 : Int32))]) (rest := [(.int (0 : Int32)), (.ref ad2)]) (S' := [(.int (own_fb fill (0 : Int32))), (.int (0 : Int32)), (.ref ad2)]) (pc' := 22) (rm1 l Z a0 hw n0 fill (0 : Int32) h2 X2.size) (hw _ (List.mem_of_getElem? (i := 2) rfl)) (hw _ (List.mem_of_getElem? (i := 3) rfl)) (hw _ (List.mem_of_getElem? (i := 4) rfl)) (hw _ (List.mem_of_getElem? (i := 5) rfl)) (by decide) (by decide) (by decide) rfl rfl (by decide) (by decide) (lenOf pd_0 rfl) rfl (by first | decide | exact Nat.le_of_eq rfl) rfl at_19 rfl rfl ?_
    intro T3 h3 X3 qq3
    rw [show h3 = h2 from qq3] at X3
    refine own_bastore X3 (vs' := [(own_fb fill (0 : Int32)), (0 : Int32), (0 : Int32), (0 : Int32), (0 : Int32), (0 : Int32), (0 : Int32), (0 : Int32)]) (pc' := 23) A2 ge_ad2 rfl (own_fb_b _ _) rfl at_22 rfl ?_
    intro T4 h4 X4 A4 W4
    refine own_aload X4 (pc' := 25) at_23 rfl rfl rfl ?_
    refine own_iconst X4 (v := (1 : Int32)) (pc' := 26) at_25 rfl (by decide) ?_
    refine own_lloadN X4 (pc' := 27) at_26 rfl rfl ?_
    refine own_iconst X4 (v := (1 : Int32)) (pc' := 28) at_27 rfl (by decide) ?_
    refine own_callS X4 (W := 2) (argsL := [(.long fill), (.int (1 : Int32))]) (rest := [(.int (1 : Int32)), (.ref ad2)]) (S' := [(.int (own_fb fill (1 : Int32))), (.int (1 : Int32)), (.ref ad2)]) (pc' := 31) (rm1 l Z a0 hw n0 fill (1 : Int32) h4 X4.size) (hw _ (List.mem_of_getElem? (i := 2) rfl)) (hw _ (List.mem_of_getElem? (i := 3) rfl)) (hw _ (List.mem_of_getElem? (i := 4) rfl)) (hw _ (List.mem_of_getElem? (i := 5) rfl)) (by decide) (by decide) (by decide) rfl rfl (by decide) (by decide) (lenOf pd_0 rfl) rfl (by first | decide | exact Nat.le_of_eq rfl) rfl at_28 rfl rfl ?_
    intro T5 h5 X5 qq5
    rw [show h5 = h4 from qq5] at X5
    refine own_bastore X5 (vs' := [(own_fb fill (0 : Int32)), (own_fb fill (1 : Int32)), (0 : Int32), (0 : Int32), (0 : Int32), (0 : Int32), (0 : Int32), (0 : Int32)]) (pc' := 32) A4 ge_ad2 rfl (own_fb_b _ _) rfl at_31 rfl ?_
    intro T6 h6 X6 A6 W6
    refine own_aload X6 (pc' := 34) at_32 rfl rfl rfl ?_
    refine own_iconst X6 (v := (2 : Int32)) (pc' := 35) at_34 rfl (by decide) ?_
    refine own_lloadN X6 (pc' := 36) at_35 rfl rfl ?_
    refine own_iconst X6 (v := (2 : Int32)) (pc' := 37) at_36 rfl (by decide) ?_
    refine own_callS X6 (W := 2) (argsL := [(.long fill), (.int (2 : Int32))]) (rest := [(.int (2 : Int32)), (.ref ad2)]) (S' := [(.int (own_fb fill (2 : Int32))), (.int (2 : Int32)), (.ref ad2)]) (pc' := 40) (rm1 l Z a0 hw n0 fill (2 : Int32) h6 X6.size) (hw _ (List.mem_of_getElem? (i := 2) rfl)) (hw _ (List.mem_of_getElem? (i := 3) rfl)) (hw _ (List.mem_of_getElem? (i := 4) rfl)) (hw _ (List.mem_of_getElem? (i := 5) rfl)) (by decide) (by decide) (by decide) rfl rfl (by decide) (by decide) (lenOf pd_0 rfl) rfl (by first | decide | exact Nat.le_of_eq rfl) rfl at_37 rfl rfl ?_
    intro T7 h7 X7 qq7
    rw [show h7 = h6 from qq7] at X7
    refine own_bastore X7 (vs' := [(own_fb fill (0 : Int32)), (own_fb fill (1 : Int32)), (own_fb fill (2 : Int32)), (0 : Int32), (0 : Int32), (0 : Int32), (0 : Int32), (0 : Int32)]) (pc' := 41) A6 ge_ad2 rfl (own_fb_b _ _) rfl at_40 rfl ?_
    intro T8 h8 X8 A8 W8
    refine own_aload X8 (pc' := 43) at_41 rfl rfl rfl ?_
    refine own_iconst X8 (v := (3 : Int32)) (pc' := 44) at_43 rfl (by decide) ?_
    refine own_lloadN X8 (pc' := 45) at_44 rfl rfl ?_
    refine own_iconst X8 (v := (3 : Int32)) (pc' := 46) at_45 rfl (by decide) ?_
    refine own_callS X8 (W := 2) (argsL := [(.long fill), (.int (3 : Int32))]) (rest := [(.int (3 : Int32)), (.ref ad2)]) (S' := [(.int (own_fb fill (3 : Int32))), (.int (3 : Int32)), (.ref ad2)]) (pc' := 49) (rm1 l Z a0 hw n0 fill (3 : Int32) h8 X8.size) (hw _ (List.mem_of_getElem? (i := 2) rfl)) (hw _ (List.mem_of_getElem? (i := 3) rfl)) (hw _ (List.mem_of_getElem? (i := 4) rfl)) (hw _ (List.mem_of_getElem? (i := 5) rfl)) (by decide) (by decide) (by decide) rfl rfl (by decide) (by decide) (lenOf pd_0 rfl) rfl (by first | decide | exact Nat.le_of_eq rfl) rfl at_46 rfl rfl ?_
    intro T9 h9 X9 qq9
    rw [show h9 = h8 from qq9] at X9
    refine own_bastore X9 (vs' := [(own_fb fill (0 : Int32)), (own_fb fill (1 : Int32)), (own_fb fill (2 : Int32)), (own_fb fill (3 : Int32)), (0 : Int32), (0 : Int32), (0 : Int32), (0 : Int32)]) (pc' := 50) A8 ge_ad2 rfl (own_fb_b _ _) rfl at_49 rfl ?_
    intro T10 h10 X10 A10 W10
    refine own_aload X10 (pc' := 52) at_50 rfl rfl rfl ?_
    refine own_iconst X10 (v := (4 : Int32)) (pc' := 53) at_52 rfl (by decide) ?_
    refine own_lloadN X10 (pc' := 54) at_53 rfl rfl ?_
    refine own_iconst X10 (v := (4 : Int32)) (pc' := 55) at_54 rfl (by decide) ?_
    refine own_callS X10 (W := 2) (argsL := [(.long fill), (.int (4 : Int32))]) (rest := [(.int (4 : Int32)), (.ref ad2)]) (S' := [(.int (own_fb fill (4 : Int32))), (.int (4 : Int32)), (.ref ad2)]) (pc' := 58) (rm1 l Z a0 hw n0 fill (4 : Int32) h10 X10.size) (hw _ (List.mem_of_getElem? (i := 2) rfl)) (hw _ (List.mem_of_getElem? (i := 3) rfl)) (hw _ (List.mem_of_getElem? (i := 4) rfl)) (hw _ (List.mem_of_getElem? (i := 5) rfl)) (by decide) (by decide) (by decide) rfl rfl (by decide) (by decide) (lenOf pd_0 rfl) rfl (by first | decide | exact Nat.le_of_eq rfl) rfl at_55 rfl rfl ?_
    intro T11 h11 X11 qq11
    rw [show h11 = h10 from qq11] at X11
    refine own_bastore X11 (vs' := [(own_fb fill (0 : Int32)), (own_fb fill (1 : Int32)), (own_fb fill (2 : Int32)), (own_fb fill (3 : Int32)), (own_fb fill (4 : Int32)), (0 : Int32), (0 : Int32), (0 : Int32)]) (pc' := 59) A10 ge_ad2 rfl (own_fb_b _ _) rfl at_58 rfl ?_
    intro T12 h12 X12 A12 W12
    refine own_aload X12 (pc' := 61) at_59 rfl rfl rfl ?_
    refine own_iconst X12 (v := (5 : Int32)) (pc' := 62) at_61 rfl (by decide) ?_
    refine own_lloadN X12 (pc' := 63) at_62 rfl rfl ?_
    refine own_iconst X12 (v := (5 : Int32)) (pc' := 64) at_63 rfl (by decide) ?_
    refine own_callS X12 (W := 2) (argsL := [(.long fill), (.int (5 : Int32))]) (rest := [(.int (5 : Int32)), (.ref ad2)]) (S' := [(.int (own_fb fill (5 : Int32))), (.int (5 : Int32)), (.ref ad2)]) (pc' := 67) (rm1 l Z a0 hw n0 fill (5 : Int32) h12 X12.size) (hw _ (List.mem_of_getElem? (i := 2) rfl)) (hw _ (List.mem_of_getElem? (i := 3) rfl)) (hw _ (List.mem_of_getElem? (i := 4) rfl)) (hw _ (List.mem_of_getElem? (i := 5) rfl)) (by decide) (by decide) (by decide) rfl rfl (by decide) (by decide) (lenOf pd_0 rfl) rfl (by first | decide | exact Nat.le_of_eq rfl) rfl at_64 rfl rfl ?_
    intro T13 h13 X13 qq13
    rw [show h13 = h12 from qq13] at X13
    refine own_bastore X13 (vs' := [(own_fb fill (0 : Int32)), (own_fb fill (1 : Int32)), (own_fb fill (2 : Int32)), (own_fb fill (3 : Int32)), (own_fb fill (4 : Int32)), (own_fb fill (5 : Int32)), (0 : Int32), (0 : Int32)]) (pc' := 68) A12 ge_ad2 rfl (own_fb_b _ _) rfl at_67 rfl ?_
    intro T14 h14 X14 A14 W14
    refine own_aload X14 (pc' := 70) at_68 rfl rfl rfl ?_
    refine own_bipush X14 (v := (6 : Int32)) (pc' := 72) at_70 rfl (by decide) ?_
    refine own_lloadN X14 (pc' := 73) at_72 rfl rfl ?_
    refine own_bipush X14 (v := (6 : Int32)) (pc' := 75) at_73 rfl (by decide) ?_
    refine own_callS X14 (W := 2) (argsL := [(.long fill), (.int (6 : Int32))]) (rest := [(.int (6 : Int32)), (.ref ad2)]) (S' := [(.int (own_fb fill (6 : Int32))), (.int (6 : Int32)), (.ref ad2)]) (pc' := 78) (rm1 l Z a0 hw n0 fill (6 : Int32) h14 X14.size) (hw _ (List.mem_of_getElem? (i := 2) rfl)) (hw _ (List.mem_of_getElem? (i := 3) rfl)) (hw _ (List.mem_of_getElem? (i := 4) rfl)) (hw _ (List.mem_of_getElem? (i := 5) rfl)) (by decide) (by decide) (by decide) rfl rfl (by decide) (by decide) (lenOf pd_0 rfl) rfl (by first | decide | exact Nat.le_of_eq rfl) rfl at_75 rfl rfl ?_
    intro T15 h15 X15 qq15
    rw [show h15 = h14 from qq15] at X15
    refine own_bastore X15 (vs' := [(own_fb fill (0 : Int32)), (own_fb fill (1 : Int32)), (own_fb fill (2 : Int32)), (own_fb fill (3 : Int32)), (own_fb fill (4 : Int32)), (own_fb fill (5 : Int32)), (own_fb fill (6 : Int32)), (0 : Int32)]) (pc' := 79) A14 ge_ad2 rfl (own_fb_b _ _) rfl at_78 rfl ?_
    intro T16 h16 X16 A16 W16
    refine own_aload X16 (pc' := 81) at_79 rfl rfl rfl ?_
    refine own_bipush X16 (v := (7 : Int32)) (pc' := 83) at_81 rfl (by decide) ?_
    refine own_lloadN X16 (pc' := 84) at_83 rfl rfl ?_
    refine own_bipush X16 (v := (7 : Int32)) (pc' := 86) at_84 rfl (by decide) ?_
    refine own_callS X16 (W := 2) (argsL := [(.long fill), (.int (7 : Int32))]) (rest := [(.int (7 : Int32)), (.ref ad2)]) (S' := [(.int (own_fb fill (7 : Int32))), (.int (7 : Int32)), (.ref ad2)]) (pc' := 89) (rm1 l Z a0 hw n0 fill (7 : Int32) h16 X16.size) (hw _ (List.mem_of_getElem? (i := 2) rfl)) (hw _ (List.mem_of_getElem? (i := 3) rfl)) (hw _ (List.mem_of_getElem? (i := 4) rfl)) (hw _ (List.mem_of_getElem? (i := 5) rfl)) (by decide) (by decide) (by decide) rfl rfl (by decide) (by decide) (lenOf pd_0 rfl) rfl (by first | decide | exact Nat.le_of_eq rfl) rfl at_86 rfl rfl ?_
    intro T17 h17 X17 qq17
    rw [show h17 = h16 from qq17] at X17
    refine own_bastore X17 (vs' := [(own_fb fill (0 : Int32)), (own_fb fill (1 : Int32)), (own_fb fill (2 : Int32)), (own_fb fill (3 : Int32)), (own_fb fill (4 : Int32)), (own_fb fill (5 : Int32)), (own_fb fill (6 : Int32)), (own_fb fill (7 : Int32))]) (pc' := 90) A16 ge_ad2 rfl (own_fb_b _ _) rfl at_89 rfl ?_
    intro T18 h18 X18 A18 W18
    refine own_aload X18 (pc' := 92) at_90 rfl rfl rfl ?_
    refine own_iload X18 (pc' := 94) at_92 rfl rfl ?_
    refine own_iloadN X18 (pc' := 95) at_94 rfl rfl ?_
    refine own_callS X18 (W := 0) (argsL := [(.ref ad2), (.int (0 : Int32)), (.int value)]) (rest := []) (S' := []) (pc' := 98) (rm2 l Z a0 hw n0 ad2 (0 : Int32) value h18 X18.size _ A18 ge_ad2 rfl rfl rfl rfl) (hw _ (List.mem_of_getElem? (i := 7) rfl)) (hw _ (List.mem_of_getElem? (i := 8) rfl)) (hw _ (List.mem_of_getElem? (i := 9) rfl)) (hw _ (List.mem_of_getElem? (i := 10) rfl)) (by decide) (by decide) (by decide) rfl rfl (by decide) (by decide) (lenOf pd_1 rfl) rfl (by first | decide | exact Nat.le_of_eq rfl) rfl at_95 rfl rfl ?_
    intro T19 h19 X19 qq19
    obtain ⟨A20, K20⟩ := qq19
    replace A20 : own_A Z h19 ad2 .byte [(((value.toUInt32 >>> ((24 : Int32) &&& 31).toUInt32).toInt32).toInt8.toInt32), (((value.toUInt32 >>> ((16 : Int32) &&& 31).toUInt32).toInt32).toInt8.toInt32), (((value.toUInt32 >>> ((8 : Int32) &&& 31).toUInt32).toInt32).toInt8.toInt32), (value.toInt8.toInt32), (own_fb fill (4 : Int32)), (own_fb fill (5 : Int32)), (own_fb fill (6 : Int32)), (own_fb fill (7 : Int32))] := A20
    refine own_aload X19 (pc' := 100) at_98 rfl rfl rfl ?_
    refine own_iconst X19 (v := (0 : Int32)) (pc' := 101) at_100 rfl (by decide) ?_
    refine own_iload X19 (pc' := 103) at_101 rfl rfl ?_
    refine own_iloadN X19 (pc' := 104) at_103 rfl rfl ?_
    refine own_lloadN X19 (pc' := 105) at_104 rfl rfl ?_
    refine own_callS X19 (W := 0) (argsL := [(.ref ad2), (.int (0 : Int32)), (.int (0 : Int32)), (.int value), (.long fill)]) (rest := []) (S' := [(.int (1 : Int32))]) (pc' := 108) (rm3_0 l Z a0 hw n0 ad2 (0 : Int32) (0 : Int32) value fill h19 X19.size _ A20 (((value.toUInt32 >>> ((24 : Int32) &&& 31).toUInt32).toInt32).toInt8.toInt32) rfl rfl (by decide) (own_p0 _)) (hw _ (List.mem_of_getElem? (i := 11) rfl)) (hw _ (List.mem_of_getElem? (i := 12) rfl)) (hw _ (List.mem_of_getElem? (i := 4) rfl)) (hw _ (List.mem_of_getElem? (i := 13) rfl)) (by decide) (by decide) (by decide) rfl rfl (by decide) (by decide) (lenOf pd_2 rfl) rfl (by first | decide | exact Nat.le_of_eq rfl) rfl at_105 rfl rfl ?_
    intro T21 h21 X21 qq21
    rw [show h21 = h19 from qq21] at X21
    refine own_if_eq X21 (pct := 208) (pc' := 111) at_108 rfl (by decide) (by decide) (fun hc => absurd hc (by decide)) (fun _ => ?_)
    refine own_aload X21 (pc' := 113) at_111 rfl rfl rfl ?_
    refine own_iconst X21 (v := (1 : Int32)) (pc' := 114) at_113 rfl (by decide) ?_
    refine own_iload X21 (pc' := 116) at_114 rfl rfl ?_
    refine own_iloadN X21 (pc' := 117) at_116 rfl rfl ?_
    refine own_lloadN X21 (pc' := 118) at_117 rfl rfl ?_
    refine own_callS X21 (W := 0) (argsL := [(.ref ad2), (.int (1 : Int32)), (.int (0 : Int32)), (.int value), (.long fill)]) (rest := []) (S' := [(.int (1 : Int32))]) (pc' := 121) (rm3_1 l Z a0 hw n0 ad2 (1 : Int32) (0 : Int32) value fill h19 X21.size _ A20 (((value.toUInt32 >>> ((16 : Int32) &&& 31).toUInt32).toInt32).toInt8.toInt32) rfl rfl (by decide) (own_p1 _)) (hw _ (List.mem_of_getElem? (i := 11) rfl)) (hw _ (List.mem_of_getElem? (i := 12) rfl)) (hw _ (List.mem_of_getElem? (i := 4) rfl)) (hw _ (List.mem_of_getElem? (i := 13) rfl)) (by decide) (by decide) (by decide) rfl rfl (by decide) (by decide) (lenOf pd_2 rfl) rfl (by first | decide | exact Nat.le_of_eq rfl) rfl at_118 rfl rfl ?_
    intro T22 h22 X22 qq22
    rw [show h22 = h19 from qq22] at X22
    refine own_if_eq X22 (pct := 208) (pc' := 124) at_121 rfl (by decide) (by decide) (fun hc => absurd hc (by decide)) (fun _ => ?_)
    refine own_aload X22 (pc' := 126) at_124 rfl rfl rfl ?_
    refine own_iconst X22 (v := (2 : Int32)) (pc' := 127) at_126 rfl (by decide) ?_
    refine own_iload X22 (pc' := 129) at_127 rfl rfl ?_
    refine own_iloadN X22 (pc' := 130) at_129 rfl rfl ?_
    refine own_lloadN X22 (pc' := 131) at_130 rfl rfl ?_
    refine own_callS X22 (W := 0) (argsL := [(.ref ad2), (.int (2 : Int32)), (.int (0 : Int32)), (.int value), (.long fill)]) (rest := []) (S' := [(.int (1 : Int32))]) (pc' := 134) (rm3_2 l Z a0 hw n0 ad2 (2 : Int32) (0 : Int32) value fill h19 X22.size _ A20 (((value.toUInt32 >>> ((8 : Int32) &&& 31).toUInt32).toInt32).toInt8.toInt32) rfl rfl (by decide) (own_p2 _)) (hw _ (List.mem_of_getElem? (i := 11) rfl)) (hw _ (List.mem_of_getElem? (i := 12) rfl)) (hw _ (List.mem_of_getElem? (i := 4) rfl)) (hw _ (List.mem_of_getElem? (i := 13) rfl)) (by decide) (by decide) (by decide) rfl rfl (by decide) (by decide) (lenOf pd_2 rfl) rfl (by first | decide | exact Nat.le_of_eq rfl) rfl at_131 rfl rfl ?_
    intro T23 h23 X23 qq23
    rw [show h23 = h19 from qq23] at X23
    refine own_if_eq X23 (pct := 208) (pc' := 137) at_134 rfl (by decide) (by decide) (fun hc => absurd hc (by decide)) (fun _ => ?_)
    refine own_aload X23 (pc' := 139) at_137 rfl rfl rfl ?_
    refine own_iconst X23 (v := (3 : Int32)) (pc' := 140) at_139 rfl (by decide) ?_
    refine own_iload X23 (pc' := 142) at_140 rfl rfl ?_
    refine own_iloadN X23 (pc' := 143) at_142 rfl rfl ?_
    refine own_lloadN X23 (pc' := 144) at_143 rfl rfl ?_
    refine own_callS X23 (W := 0) (argsL := [(.ref ad2), (.int (3 : Int32)), (.int (0 : Int32)), (.int value), (.long fill)]) (rest := []) (S' := [(.int (1 : Int32))]) (pc' := 147) (rm3_3 l Z a0 hw n0 ad2 (3 : Int32) (0 : Int32) value fill h19 X23.size _ A20 (value.toInt8.toInt32) rfl rfl (by decide) (own_p3 _)) (hw _ (List.mem_of_getElem? (i := 11) rfl)) (hw _ (List.mem_of_getElem? (i := 12) rfl)) (hw _ (List.mem_of_getElem? (i := 4) rfl)) (hw _ (List.mem_of_getElem? (i := 13) rfl)) (by decide) (by decide) (by decide) rfl rfl (by decide) (by decide) (lenOf pd_2 rfl) rfl (by first | decide | exact Nat.le_of_eq rfl) rfl at_144 rfl rfl ?_
    intro T24 h24 X24 qq24
    rw [show h24 = h19 from qq24] at X24
    refine own_if_eq X24 (pct := 208) (pc' := 150) at_147 rfl (by decide) (by decide) (fun hc => absurd hc (by decide)) (fun _ => ?_)
    refine own_aload X24 (pc' := 152) at_150 rfl rfl rfl ?_
    refine own_iconst X24 (v := (4 : Int32)) (pc' := 153) at_152 rfl (by decide) ?_
    refine own_iload X24 (pc' := 155) at_153 rfl rfl ?_
    refine own_iloadN X24 (pc' := 156) at_155 rfl rfl ?_
    refine own_lloadN X24 (pc' := 157) at_156 rfl rfl ?_
    refine own_callS X24 (W := 0) (argsL := [(.ref ad2), (.int (4 : Int32)), (.int (0 : Int32)), (.int value), (.long fill)]) (rest := []) (S' := [(.int (1 : Int32))]) (pc' := 160) (rm3B l Z a0 hw n0 ad2 (4 : Int32) (0 : Int32) value fill h19 X24.size _ A20 (own_fb fill (4 : Int32)) rfl rfl (by decide) (by decide) (own_fb_m _ _)) (hw _ (List.mem_of_getElem? (i := 11) rfl)) (hw _ (List.mem_of_getElem? (i := 12) rfl)) (hw _ (List.mem_of_getElem? (i := 4) rfl)) (hw _ (List.mem_of_getElem? (i := 13) rfl)) (by decide) (by decide) (by decide) rfl rfl (by decide) (by decide) (lenOf pd_2 rfl) rfl (by first | decide | exact Nat.le_of_eq rfl) rfl at_157 rfl rfl ?_
    intro T25 h25 X25 qq25
    rw [show h25 = h19 from qq25] at X25
    refine own_if_eq X25 (pct := 208) (pc' := 163) at_160 rfl (by decide) (by decide) (fun hc => absurd hc (by decide)) (fun _ => ?_)
    refine own_aload X25 (pc' := 165) at_163 rfl rfl rfl ?_
    refine own_iconst X25 (v := (5 : Int32)) (pc' := 166) at_165 rfl (by decide) ?_
    refine own_iload X25 (pc' := 168) at_166 rfl rfl ?_
    refine own_iloadN X25 (pc' := 169) at_168 rfl rfl ?_
    refine own_lloadN X25 (pc' := 170) at_169 rfl rfl ?_
    refine own_callS X25 (W := 0) (argsL := [(.ref ad2), (.int (5 : Int32)), (.int (0 : Int32)), (.int value), (.long fill)]) (rest := []) (S' := [(.int (1 : Int32))]) (pc' := 173) (rm3B l Z a0 hw n0 ad2 (5 : Int32) (0 : Int32) value fill h19 X25.size _ A20 (own_fb fill (5 : Int32)) rfl rfl (by decide) (by decide) (own_fb_m _ _)) (hw _ (List.mem_of_getElem? (i := 11) rfl)) (hw _ (List.mem_of_getElem? (i := 12) rfl)) (hw _ (List.mem_of_getElem? (i := 4) rfl)) (hw _ (List.mem_of_getElem? (i := 13) rfl)) (by decide) (by decide) (by decide) rfl rfl (by decide) (by decide) (lenOf pd_2 rfl) rfl (by first | decide | exact Nat.le_of_eq rfl) rfl at_170 rfl rfl ?_
    intro T26 h26 X26 qq26
    rw [show h26 = h19 from qq26] at X26
    refine own_if_eq X26 (pct := 208) (pc' := 176) at_173 rfl (by decide) (by decide) (fun hc => absurd hc (by decide)) (fun _ => ?_)
    refine own_aload X26 (pc' := 178) at_176 rfl rfl rfl ?_
    refine own_bipush X26 (v := (6 : Int32)) (pc' := 180) at_178 rfl (by decide) ?_
    refine own_iload X26 (pc' := 182) at_180 rfl rfl ?_
    refine own_iloadN X26 (pc' := 183) at_182 rfl rfl ?_
    refine own_lloadN X26 (pc' := 184) at_183 rfl rfl ?_
    refine own_callS X26 (W := 0) (argsL := [(.ref ad2), (.int (6 : Int32)), (.int (0 : Int32)), (.int value), (.long fill)]) (rest := []) (S' := [(.int (1 : Int32))]) (pc' := 187) (rm3B l Z a0 hw n0 ad2 (6 : Int32) (0 : Int32) value fill h19 X26.size _ A20 (own_fb fill (6 : Int32)) rfl rfl (by decide) (by decide) (own_fb_m _ _)) (hw _ (List.mem_of_getElem? (i := 11) rfl)) (hw _ (List.mem_of_getElem? (i := 12) rfl)) (hw _ (List.mem_of_getElem? (i := 4) rfl)) (hw _ (List.mem_of_getElem? (i := 13) rfl)) (by decide) (by decide) (by decide) rfl rfl (by decide) (by decide) (lenOf pd_2 rfl) rfl (by first | decide | exact Nat.le_of_eq rfl) rfl at_184 rfl rfl ?_
    intro T27 h27 X27 qq27
    rw [show h27 = h19 from qq27] at X27
    refine own_if_eq X27 (pct := 208) (pc' := 190) at_187 rfl (by decide) (by decide) (fun hc => absurd hc (by decide)) (fun _ => ?_)
    refine own_aload X27 (pc' := 192) at_190 rfl rfl rfl ?_
    refine own_bipush X27 (v := (7 : Int32)) (pc' := 194) at_192 rfl (by decide) ?_
    refine own_iload X27 (pc' := 196) at_194 rfl rfl ?_
    refine own_iloadN X27 (pc' := 197) at_196 rfl rfl ?_
    refine own_lloadN X27 (pc' := 198) at_197 rfl rfl ?_
    refine own_callS X27 (W := 0) (argsL := [(.ref ad2), (.int (7 : Int32)), (.int (0 : Int32)), (.int value), (.long fill)]) (rest := []) (S' := [(.int (1 : Int32))]) (pc' := 201) (rm3B l Z a0 hw n0 ad2 (7 : Int32) (0 : Int32) value fill h19 X27.size _ A20 (own_fb fill (7 : Int32)) rfl rfl (by decide) (by decide) (own_fb_m _ _)) (hw _ (List.mem_of_getElem? (i := 11) rfl)) (hw _ (List.mem_of_getElem? (i := 12) rfl)) (hw _ (List.mem_of_getElem? (i := 4) rfl)) (hw _ (List.mem_of_getElem? (i := 13) rfl)) (by decide) (by decide) (by decide) rfl rfl (by decide) (by decide) (lenOf pd_2 rfl) rfl (by first | decide | exact Nat.le_of_eq rfl) rfl at_198 rfl rfl ?_
    intro T28 h28 X28 qq28
    rw [show h28 = h19 from qq28] at X28
    refine own_if_eq X28 (pct := 208) (pc' := 204) at_201 rfl (by decide) (by decide) (fun hc => absurd hc (by decide)) (fun _ => ?_)
    refine own_iconst X28 (v := (1 : Int32)) (pc' := 205) at_204 rfl (by decide) ?_
    refine own_goto X28 (pc' := 209) at_205 (by decide) (by decide) ?_
    subst hΦ
    exact own_retZ X28 at_209 (by decide) (by decide) (by decide) rfl trivial
  · refine own_bipush X (v := (8 : Int32)) (pc' := 10) at_8 rfl (by decide) ?_
    refine own_newarr X (len := 8) (vs := [0, 0, 0, 0, 0, 0, 0, 0]) (pc' := 12) (hw _ (List.mem_of_getElem? (i := 1) rfl)) rfl (by decide) (by decide) rfl (by decide) at_10 rfl (by decide) (by decide) ?_
    intro T29 h29 ad29 X29 ge_ad29 g_ad29 E29 A29
    refine own_astore X29 (pc' := 14) (Ls' := #[.val (.int value), .val (.int kk), .val (.long fill), .second, .val (.int (1 : Int32)), .val (.ref ad29)]) at_12 rfl rfl rfl ?_
    refine own_aload X29 (pc' := 16) at_14 rfl rfl rfl ?_
    refine own_iconst X29 (v := (0 : Int32)) (pc' := 17) at_16 rfl (by decide) ?_
    refine own_lloadN X29 (pc' := 18) at_17 rfl rfl ?_
    refine own_iconst X29 (v := (0 : Int32)) (pc' := 19) at_18 rfl (by decide) ?_
    refine own_callS X29 (W := 2) (argsL := [(.long fill), (.int (0 : Int32))]) (rest := [(.int (0 : Int32)), (.ref ad29)]) (S' := [(.int (own_fb fill (0 : Int32))), (.int (0 : Int32)), (.ref ad29)]) (pc' := 22) (rm1 l Z a0 hw n0 fill (0 : Int32) h29 X29.size) (hw _ (List.mem_of_getElem? (i := 2) rfl)) (hw _ (List.mem_of_getElem? (i := 3) rfl)) (hw _ (List.mem_of_getElem? (i := 4) rfl)) (hw _ (List.mem_of_getElem? (i := 5) rfl)) (by decide) (by decide) (by decide) rfl rfl (by decide) (by decide) (lenOf pd_0 rfl) rfl (by first | decide | exact Nat.le_of_eq rfl) rfl at_19 rfl rfl ?_
    intro T30 h30 X30 qq30
    rw [show h30 = h29 from qq30] at X30
    refine own_bastore X30 (vs' := [(own_fb fill (0 : Int32)), (0 : Int32), (0 : Int32), (0 : Int32), (0 : Int32), (0 : Int32), (0 : Int32), (0 : Int32)]) (pc' := 23) A29 ge_ad29 rfl (own_fb_b _ _) rfl at_22 rfl ?_
    intro T31 h31 X31 A31 W31
    refine own_aload X31 (pc' := 25) at_23 rfl rfl rfl ?_
    refine own_iconst X31 (v := (1 : Int32)) (pc' := 26) at_25 rfl (by decide) ?_
    refine own_lloadN X31 (pc' := 27) at_26 rfl rfl ?_
    refine own_iconst X31 (v := (1 : Int32)) (pc' := 28) at_27 rfl (by decide) ?_
    refine own_callS X31 (W := 2) (argsL := [(.long fill), (.int (1 : Int32))]) (rest := [(.int (1 : Int32)), (.ref ad29)]) (S' := [(.int (own_fb fill (1 : Int32))), (.int (1 : Int32)), (.ref ad29)]) (pc' := 31) (rm1 l Z a0 hw n0 fill (1 : Int32) h31 X31.size) (hw _ (List.mem_of_getElem? (i := 2) rfl)) (hw _ (List.mem_of_getElem? (i := 3) rfl)) (hw _ (List.mem_of_getElem? (i := 4) rfl)) (hw _ (List.mem_of_getElem? (i := 5) rfl)) (by decide) (by decide) (by decide) rfl rfl (by decide) (by decide) (lenOf pd_0 rfl) rfl (by first | decide | exact Nat.le_of_eq rfl) rfl at_28 rfl rfl ?_
    intro T32 h32 X32 qq32
    rw [show h32 = h31 from qq32] at X32
    refine own_bastore X32 (vs' := [(own_fb fill (0 : Int32)), (own_fb fill (1 : Int32)), (0 : Int32), (0 : Int32), (0 : Int32), (0 : Int32), (0 : Int32), (0 : Int32)]) (pc' := 32) A31 ge_ad29 rfl (own_fb_b _ _) rfl at_31 rfl ?_
    intro T33 h33 X33 A33 W33
    refine own_aload X33 (pc' := 34) at_32 rfl rfl rfl ?_
    refine own_iconst X33 (v := (2 : Int32)) (pc' := 35) at_34 rfl (by decide) ?_
    refine own_lloadN X33 (pc' := 36) at_35 rfl rfl ?_
    refine own_iconst X33 (v := (2 : Int32)) (pc' := 37) at_36 rfl (by decide) ?_
    refine own_callS X33 (W := 2) (argsL := [(.long fill), (.int (2 : Int32))]) (rest := [(.int (2 : Int32)), (.ref ad29)]) (S' := [(.int (own_fb fill (2 : Int32))), (.int (2 : Int32)), (.ref ad29)]) (pc' := 40) (rm1 l Z a0 hw n0 fill (2 : Int32) h33 X33.size) (hw _ (List.mem_of_getElem? (i := 2) rfl)) (hw _ (List.mem_of_getElem? (i := 3) rfl)) (hw _ (List.mem_of_getElem? (i := 4) rfl)) (hw _ (List.mem_of_getElem? (i := 5) rfl)) (by decide) (by decide) (by decide) rfl rfl (by decide) (by decide) (lenOf pd_0 rfl) rfl (by first | decide | exact Nat.le_of_eq rfl) rfl at_37 rfl rfl ?_
    intro T34 h34 X34 qq34
    rw [show h34 = h33 from qq34] at X34
    refine own_bastore X34 (vs' := [(own_fb fill (0 : Int32)), (own_fb fill (1 : Int32)), (own_fb fill (2 : Int32)), (0 : Int32), (0 : Int32), (0 : Int32), (0 : Int32), (0 : Int32)]) (pc' := 41) A33 ge_ad29 rfl (own_fb_b _ _) rfl at_40 rfl ?_
    intro T35 h35 X35 A35 W35
    refine own_aload X35 (pc' := 43) at_41 rfl rfl rfl ?_
    refine own_iconst X35 (v := (3 : Int32)) (pc' := 44) at_43 rfl (by decide) ?_
    refine own_lloadN X35 (pc' := 45) at_44 rfl rfl ?_
    refine own_iconst X35 (v := (3 : Int32)) (pc' := 46) at_45 rfl (by decide) ?_
    refine own_callS X35 (W := 2) (argsL := [(.long fill), (.int (3 : Int32))]) (rest := [(.int (3 : Int32)), (.ref ad29)]) (S' := [(.int (own_fb fill (3 : Int32))), (.int (3 : Int32)), (.ref ad29)]) (pc' := 49) (rm1 l Z a0 hw n0 fill (3 : Int32) h35 X35.size) (hw _ (List.mem_of_getElem? (i := 2) rfl)) (hw _ (List.mem_of_getElem? (i := 3) rfl)) (hw _ (List.mem_of_getElem? (i := 4) rfl)) (hw _ (List.mem_of_getElem? (i := 5) rfl)) (by decide) (by decide) (by decide) rfl rfl (by decide) (by decide) (lenOf pd_0 rfl) rfl (by first | decide | exact Nat.le_of_eq rfl) rfl at_46 rfl rfl ?_
    intro T36 h36 X36 qq36
    rw [show h36 = h35 from qq36] at X36
    refine own_bastore X36 (vs' := [(own_fb fill (0 : Int32)), (own_fb fill (1 : Int32)), (own_fb fill (2 : Int32)), (own_fb fill (3 : Int32)), (0 : Int32), (0 : Int32), (0 : Int32), (0 : Int32)]) (pc' := 50) A35 ge_ad29 rfl (own_fb_b _ _) rfl at_49 rfl ?_
    intro T37 h37 X37 A37 W37
    refine own_aload X37 (pc' := 52) at_50 rfl rfl rfl ?_
    refine own_iconst X37 (v := (4 : Int32)) (pc' := 53) at_52 rfl (by decide) ?_
    refine own_lloadN X37 (pc' := 54) at_53 rfl rfl ?_
    refine own_iconst X37 (v := (4 : Int32)) (pc' := 55) at_54 rfl (by decide) ?_
    refine own_callS X37 (W := 2) (argsL := [(.long fill), (.int (4 : Int32))]) (rest := [(.int (4 : Int32)), (.ref ad29)]) (S' := [(.int (own_fb fill (4 : Int32))), (.int (4 : Int32)), (.ref ad29)]) (pc' := 58) (rm1 l Z a0 hw n0 fill (4 : Int32) h37 X37.size) (hw _ (List.mem_of_getElem? (i := 2) rfl)) (hw _ (List.mem_of_getElem? (i := 3) rfl)) (hw _ (List.mem_of_getElem? (i := 4) rfl)) (hw _ (List.mem_of_getElem? (i := 5) rfl)) (by decide) (by decide) (by decide) rfl rfl (by decide) (by decide) (lenOf pd_0 rfl) rfl (by first | decide | exact Nat.le_of_eq rfl) rfl at_55 rfl rfl ?_
    intro T38 h38 X38 qq38
    rw [show h38 = h37 from qq38] at X38
    refine own_bastore X38 (vs' := [(own_fb fill (0 : Int32)), (own_fb fill (1 : Int32)), (own_fb fill (2 : Int32)), (own_fb fill (3 : Int32)), (own_fb fill (4 : Int32)), (0 : Int32), (0 : Int32), (0 : Int32)]) (pc' := 59) A37 ge_ad29 rfl (own_fb_b _ _) rfl at_58 rfl ?_
    intro T39 h39 X39 A39 W39
    refine own_aload X39 (pc' := 61) at_59 rfl rfl rfl ?_
    refine own_iconst X39 (v := (5 : Int32)) (pc' := 62) at_61 rfl (by decide) ?_
    refine own_lloadN X39 (pc' := 63) at_62 rfl rfl ?_
    refine own_iconst X39 (v := (5 : Int32)) (pc' := 64) at_63 rfl (by decide) ?_
    refine own_callS X39 (W := 2) (argsL := [(.long fill), (.int (5 : Int32))]) (rest := [(.int (5 : Int32)), (.ref ad29)]) (S' := [(.int (own_fb fill (5 : Int32))), (.int (5 : Int32)), (.ref ad29)]) (pc' := 67) (rm1 l Z a0 hw n0 fill (5 : Int32) h39 X39.size) (hw _ (List.mem_of_getElem? (i := 2) rfl)) (hw _ (List.mem_of_getElem? (i := 3) rfl)) (hw _ (List.mem_of_getElem? (i := 4) rfl)) (hw _ (List.mem_of_getElem? (i := 5) rfl)) (by decide) (by decide) (by decide) rfl rfl (by decide) (by decide) (lenOf pd_0 rfl) rfl (by first | decide | exact Nat.le_of_eq rfl) rfl at_64 rfl rfl ?_
    intro T40 h40 X40 qq40
    rw [show h40 = h39 from qq40] at X40
    refine own_bastore X40 (vs' := [(own_fb fill (0 : Int32)), (own_fb fill (1 : Int32)), (own_fb fill (2 : Int32)), (own_fb fill (3 : Int32)), (own_fb fill (4 : Int32)), (own_fb fill (5 : Int32)), (0 : Int32), (0 : Int32)]) (pc' := 68) A39 ge_ad29 rfl (own_fb_b _ _) rfl at_67 rfl ?_
    intro T41 h41 X41 A41 W41
    refine own_aload X41 (pc' := 70) at_68 rfl rfl rfl ?_
    refine own_bipush X41 (v := (6 : Int32)) (pc' := 72) at_70 rfl (by decide) ?_
    refine own_lloadN X41 (pc' := 73) at_72 rfl rfl ?_
    refine own_bipush X41 (v := (6 : Int32)) (pc' := 75) at_73 rfl (by decide) ?_
    refine own_callS X41 (W := 2) (argsL := [(.long fill), (.int (6 : Int32))]) (rest := [(.int (6 : Int32)), (.ref ad29)]) (S' := [(.int (own_fb fill (6 : Int32))), (.int (6 : Int32)), (.ref ad29)]) (pc' := 78) (rm1 l Z a0 hw n0 fill (6 : Int32) h41 X41.size) (hw _ (List.mem_of_getElem? (i := 2) rfl)) (hw _ (List.mem_of_getElem? (i := 3) rfl)) (hw _ (List.mem_of_getElem? (i := 4) rfl)) (hw _ (List.mem_of_getElem? (i := 5) rfl)) (by decide) (by decide) (by decide) rfl rfl (by decide) (by decide) (lenOf pd_0 rfl) rfl (by first | decide | exact Nat.le_of_eq rfl) rfl at_75 rfl rfl ?_
    intro T42 h42 X42 qq42
    rw [show h42 = h41 from qq42] at X42
    refine own_bastore X42 (vs' := [(own_fb fill (0 : Int32)), (own_fb fill (1 : Int32)), (own_fb fill (2 : Int32)), (own_fb fill (3 : Int32)), (own_fb fill (4 : Int32)), (own_fb fill (5 : Int32)), (own_fb fill (6 : Int32)), (0 : Int32)]) (pc' := 79) A41 ge_ad29 rfl (own_fb_b _ _) rfl at_78 rfl ?_
    intro T43 h43 X43 A43 W43
    refine own_aload X43 (pc' := 81) at_79 rfl rfl rfl ?_
    refine own_bipush X43 (v := (7 : Int32)) (pc' := 83) at_81 rfl (by decide) ?_
    refine own_lloadN X43 (pc' := 84) at_83 rfl rfl ?_
    refine own_bipush X43 (v := (7 : Int32)) (pc' := 86) at_84 rfl (by decide) ?_
    refine own_callS X43 (W := 2) (argsL := [(.long fill), (.int (7 : Int32))]) (rest := [(.int (7 : Int32)), (.ref ad29)]) (S' := [(.int (own_fb fill (7 : Int32))), (.int (7 : Int32)), (.ref ad29)]) (pc' := 89) (rm1 l Z a0 hw n0 fill (7 : Int32) h43 X43.size) (hw _ (List.mem_of_getElem? (i := 2) rfl)) (hw _ (List.mem_of_getElem? (i := 3) rfl)) (hw _ (List.mem_of_getElem? (i := 4) rfl)) (hw _ (List.mem_of_getElem? (i := 5) rfl)) (by decide) (by decide) (by decide) rfl rfl (by decide) (by decide) (lenOf pd_0 rfl) rfl (by first | decide | exact Nat.le_of_eq rfl) rfl at_86 rfl rfl ?_
    intro T44 h44 X44 qq44
    rw [show h44 = h43 from qq44] at X44
    refine own_bastore X44 (vs' := [(own_fb fill (0 : Int32)), (own_fb fill (1 : Int32)), (own_fb fill (2 : Int32)), (own_fb fill (3 : Int32)), (own_fb fill (4 : Int32)), (own_fb fill (5 : Int32)), (own_fb fill (6 : Int32)), (own_fb fill (7 : Int32))]) (pc' := 90) A43 ge_ad29 rfl (own_fb_b _ _) rfl at_89 rfl ?_
    intro T45 h45 X45 A45 W45
    refine own_aload X45 (pc' := 92) at_90 rfl rfl rfl ?_
    refine own_iload X45 (pc' := 94) at_92 rfl rfl ?_
    refine own_iloadN X45 (pc' := 95) at_94 rfl rfl ?_
    refine own_callS X45 (W := 0) (argsL := [(.ref ad29), (.int (1 : Int32)), (.int value)]) (rest := []) (S' := []) (pc' := 98) (rm2 l Z a0 hw n0 ad29 (1 : Int32) value h45 X45.size _ A45 ge_ad29 rfl rfl rfl rfl) (hw _ (List.mem_of_getElem? (i := 7) rfl)) (hw _ (List.mem_of_getElem? (i := 8) rfl)) (hw _ (List.mem_of_getElem? (i := 9) rfl)) (hw _ (List.mem_of_getElem? (i := 10) rfl)) (by decide) (by decide) (by decide) rfl rfl (by decide) (by decide) (lenOf pd_1 rfl) rfl (by first | decide | exact Nat.le_of_eq rfl) rfl at_95 rfl rfl ?_
    intro T46 h46 X46 qq46
    obtain ⟨A47, K47⟩ := qq46
    replace A47 : own_A Z h46 ad29 .byte [(own_fb fill (0 : Int32)), (((value.toUInt32 >>> ((24 : Int32) &&& 31).toUInt32).toInt32).toInt8.toInt32), (((value.toUInt32 >>> ((16 : Int32) &&& 31).toUInt32).toInt32).toInt8.toInt32), (((value.toUInt32 >>> ((8 : Int32) &&& 31).toUInt32).toInt32).toInt8.toInt32), (value.toInt8.toInt32), (own_fb fill (5 : Int32)), (own_fb fill (6 : Int32)), (own_fb fill (7 : Int32))] := A47
    refine own_aload X46 (pc' := 100) at_98 rfl rfl rfl ?_
    refine own_iconst X46 (v := (0 : Int32)) (pc' := 101) at_100 rfl (by decide) ?_
    refine own_iload X46 (pc' := 103) at_101 rfl rfl ?_
    refine own_iloadN X46 (pc' := 104) at_103 rfl rfl ?_
    refine own_lloadN X46 (pc' := 105) at_104 rfl rfl ?_
    refine own_callS X46 (W := 0) (argsL := [(.ref ad29), (.int (0 : Int32)), (.int (1 : Int32)), (.int value), (.long fill)]) (rest := []) (S' := [(.int (1 : Int32))]) (pc' := 108) (rm3A l Z a0 hw n0 ad29 (0 : Int32) (1 : Int32) value fill h46 X46.size _ A47 (own_fb fill (0 : Int32)) rfl rfl (by decide) (own_fb_m _ _)) (hw _ (List.mem_of_getElem? (i := 11) rfl)) (hw _ (List.mem_of_getElem? (i := 12) rfl)) (hw _ (List.mem_of_getElem? (i := 4) rfl)) (hw _ (List.mem_of_getElem? (i := 13) rfl)) (by decide) (by decide) (by decide) rfl rfl (by decide) (by decide) (lenOf pd_2 rfl) rfl (by first | decide | exact Nat.le_of_eq rfl) rfl at_105 rfl rfl ?_
    intro T48 h48 X48 qq48
    rw [show h48 = h46 from qq48] at X48
    refine own_if_eq X48 (pct := 208) (pc' := 111) at_108 rfl (by decide) (by decide) (fun hc => absurd hc (by decide)) (fun _ => ?_)
    refine own_aload X48 (pc' := 113) at_111 rfl rfl rfl ?_
    refine own_iconst X48 (v := (1 : Int32)) (pc' := 114) at_113 rfl (by decide) ?_
    refine own_iload X48 (pc' := 116) at_114 rfl rfl ?_
    refine own_iloadN X48 (pc' := 117) at_116 rfl rfl ?_
    refine own_lloadN X48 (pc' := 118) at_117 rfl rfl ?_
    refine own_callS X48 (W := 0) (argsL := [(.ref ad29), (.int (1 : Int32)), (.int (1 : Int32)), (.int value), (.long fill)]) (rest := []) (S' := [(.int (1 : Int32))]) (pc' := 121) (rm3_0 l Z a0 hw n0 ad29 (1 : Int32) (1 : Int32) value fill h46 X48.size _ A47 (((value.toUInt32 >>> ((24 : Int32) &&& 31).toUInt32).toInt32).toInt8.toInt32) rfl rfl (by decide) (own_p0 _)) (hw _ (List.mem_of_getElem? (i := 11) rfl)) (hw _ (List.mem_of_getElem? (i := 12) rfl)) (hw _ (List.mem_of_getElem? (i := 4) rfl)) (hw _ (List.mem_of_getElem? (i := 13) rfl)) (by decide) (by decide) (by decide) rfl rfl (by decide) (by decide) (lenOf pd_2 rfl) rfl (by first | decide | exact Nat.le_of_eq rfl) rfl at_118 rfl rfl ?_
    intro T49 h49 X49 qq49
    rw [show h49 = h46 from qq49] at X49
    refine own_if_eq X49 (pct := 208) (pc' := 124) at_121 rfl (by decide) (by decide) (fun hc => absurd hc (by decide)) (fun _ => ?_)
    refine own_aload X49 (pc' := 126) at_124 rfl rfl rfl ?_
    refine own_iconst X49 (v := (2 : Int32)) (pc' := 127) at_126 rfl (by decide) ?_
    refine own_iload X49 (pc' := 129) at_127 rfl rfl ?_
    refine own_iloadN X49 (pc' := 130) at_129 rfl rfl ?_
    refine own_lloadN X49 (pc' := 131) at_130 rfl rfl ?_
    refine own_callS X49 (W := 0) (argsL := [(.ref ad29), (.int (2 : Int32)), (.int (1 : Int32)), (.int value), (.long fill)]) (rest := []) (S' := [(.int (1 : Int32))]) (pc' := 134) (rm3_1 l Z a0 hw n0 ad29 (2 : Int32) (1 : Int32) value fill h46 X49.size _ A47 (((value.toUInt32 >>> ((16 : Int32) &&& 31).toUInt32).toInt32).toInt8.toInt32) rfl rfl (by decide) (own_p1 _)) (hw _ (List.mem_of_getElem? (i := 11) rfl)) (hw _ (List.mem_of_getElem? (i := 12) rfl)) (hw _ (List.mem_of_getElem? (i := 4) rfl)) (hw _ (List.mem_of_getElem? (i := 13) rfl)) (by decide) (by decide) (by decide) rfl rfl (by decide) (by decide) (lenOf pd_2 rfl) rfl (by first | decide | exact Nat.le_of_eq rfl) rfl at_131 rfl rfl ?_
    intro T50 h50 X50 qq50
    rw [show h50 = h46 from qq50] at X50
    refine own_if_eq X50 (pct := 208) (pc' := 137) at_134 rfl (by decide) (by decide) (fun hc => absurd hc (by decide)) (fun _ => ?_)
    refine own_aload X50 (pc' := 139) at_137 rfl rfl rfl ?_
    refine own_iconst X50 (v := (3 : Int32)) (pc' := 140) at_139 rfl (by decide) ?_
    refine own_iload X50 (pc' := 142) at_140 rfl rfl ?_
    refine own_iloadN X50 (pc' := 143) at_142 rfl rfl ?_
    refine own_lloadN X50 (pc' := 144) at_143 rfl rfl ?_
    refine own_callS X50 (W := 0) (argsL := [(.ref ad29), (.int (3 : Int32)), (.int (1 : Int32)), (.int value), (.long fill)]) (rest := []) (S' := [(.int (1 : Int32))]) (pc' := 147) (rm3_2 l Z a0 hw n0 ad29 (3 : Int32) (1 : Int32) value fill h46 X50.size _ A47 (((value.toUInt32 >>> ((8 : Int32) &&& 31).toUInt32).toInt32).toInt8.toInt32) rfl rfl (by decide) (own_p2 _)) (hw _ (List.mem_of_getElem? (i := 11) rfl)) (hw _ (List.mem_of_getElem? (i := 12) rfl)) (hw _ (List.mem_of_getElem? (i := 4) rfl)) (hw _ (List.mem_of_getElem? (i := 13) rfl)) (by decide) (by decide) (by decide) rfl rfl (by decide) (by decide) (lenOf pd_2 rfl) rfl (by first | decide | exact Nat.le_of_eq rfl) rfl at_144 rfl rfl ?_
    intro T51 h51 X51 qq51
    rw [show h51 = h46 from qq51] at X51
    refine own_if_eq X51 (pct := 208) (pc' := 150) at_147 rfl (by decide) (by decide) (fun hc => absurd hc (by decide)) (fun _ => ?_)
    refine own_aload X51 (pc' := 152) at_150 rfl rfl rfl ?_
    refine own_iconst X51 (v := (4 : Int32)) (pc' := 153) at_152 rfl (by decide) ?_
    refine own_iload X51 (pc' := 155) at_153 rfl rfl ?_
    refine own_iloadN X51 (pc' := 156) at_155 rfl rfl ?_
    refine own_lloadN X51 (pc' := 157) at_156 rfl rfl ?_
    refine own_callS X51 (W := 0) (argsL := [(.ref ad29), (.int (4 : Int32)), (.int (1 : Int32)), (.int value), (.long fill)]) (rest := []) (S' := [(.int (1 : Int32))]) (pc' := 160) (rm3_3 l Z a0 hw n0 ad29 (4 : Int32) (1 : Int32) value fill h46 X51.size _ A47 (value.toInt8.toInt32) rfl rfl (by decide) (own_p3 _)) (hw _ (List.mem_of_getElem? (i := 11) rfl)) (hw _ (List.mem_of_getElem? (i := 12) rfl)) (hw _ (List.mem_of_getElem? (i := 4) rfl)) (hw _ (List.mem_of_getElem? (i := 13) rfl)) (by decide) (by decide) (by decide) rfl rfl (by decide) (by decide) (lenOf pd_2 rfl) rfl (by first | decide | exact Nat.le_of_eq rfl) rfl at_157 rfl rfl ?_
    intro T52 h52 X52 qq52
    rw [show h52 = h46 from qq52] at X52
    refine own_if_eq X52 (pct := 208) (pc' := 163) at_160 rfl (by decide) (by decide) (fun hc => absurd hc (by decide)) (fun _ => ?_)
    refine own_aload X52 (pc' := 165) at_163 rfl rfl rfl ?_
    refine own_iconst X52 (v := (5 : Int32)) (pc' := 166) at_165 rfl (by decide) ?_
    refine own_iload X52 (pc' := 168) at_166 rfl rfl ?_
    refine own_iloadN X52 (pc' := 169) at_168 rfl rfl ?_
    refine own_lloadN X52 (pc' := 170) at_169 rfl rfl ?_
    refine own_callS X52 (W := 0) (argsL := [(.ref ad29), (.int (5 : Int32)), (.int (1 : Int32)), (.int value), (.long fill)]) (rest := []) (S' := [(.int (1 : Int32))]) (pc' := 173) (rm3B l Z a0 hw n0 ad29 (5 : Int32) (1 : Int32) value fill h46 X52.size _ A47 (own_fb fill (5 : Int32)) rfl rfl (by decide) (by decide) (own_fb_m _ _)) (hw _ (List.mem_of_getElem? (i := 11) rfl)) (hw _ (List.mem_of_getElem? (i := 12) rfl)) (hw _ (List.mem_of_getElem? (i := 4) rfl)) (hw _ (List.mem_of_getElem? (i := 13) rfl)) (by decide) (by decide) (by decide) rfl rfl (by decide) (by decide) (lenOf pd_2 rfl) rfl (by first | decide | exact Nat.le_of_eq rfl) rfl at_170 rfl rfl ?_
    intro T53 h53 X53 qq53
    rw [show h53 = h46 from qq53] at X53
    refine own_if_eq X53 (pct := 208) (pc' := 176) at_173 rfl (by decide) (by decide) (fun hc => absurd hc (by decide)) (fun _ => ?_)
    refine own_aload X53 (pc' := 178) at_176 rfl rfl rfl ?_
    refine own_bipush X53 (v := (6 : Int32)) (pc' := 180) at_178 rfl (by decide) ?_
    refine own_iload X53 (pc' := 182) at_180 rfl rfl ?_
    refine own_iloadN X53 (pc' := 183) at_182 rfl rfl ?_
    refine own_lloadN X53 (pc' := 184) at_183 rfl rfl ?_
    refine own_callS X53 (W := 0) (argsL := [(.ref ad29), (.int (6 : Int32)), (.int (1 : Int32)), (.int value), (.long fill)]) (rest := []) (S' := [(.int (1 : Int32))]) (pc' := 187) (rm3B l Z a0 hw n0 ad29 (6 : Int32) (1 : Int32) value fill h46 X53.size _ A47 (own_fb fill (6 : Int32)) rfl rfl (by decide) (by decide) (own_fb_m _ _)) (hw _ (List.mem_of_getElem? (i := 11) rfl)) (hw _ (List.mem_of_getElem? (i := 12) rfl)) (hw _ (List.mem_of_getElem? (i := 4) rfl)) (hw _ (List.mem_of_getElem? (i := 13) rfl)) (by decide) (by decide) (by decide) rfl rfl (by decide) (by decide) (lenOf pd_2 rfl) rfl (by first | decide | exact Nat.le_of_eq rfl) rfl at_184 rfl rfl ?_
    intro T54 h54 X54 qq54
    rw [show h54 = h46 from qq54] at X54
    refine own_if_eq X54 (pct := 208) (pc' := 190) at_187 rfl (by decide) (by decide) (fun hc => absurd hc (by decide)) (fun _ => ?_)
    refine own_aload X54 (pc' := 192) at_190 rfl rfl rfl ?_
    refine own_bipush X54 (v := (7 : Int32)) (pc' := 194) at_192 rfl (by decide) ?_
    refine own_iload X54 (pc' := 196) at_194 rfl rfl ?_
    refine own_iloadN X54 (pc' := 197) at_196 rfl rfl ?_
    refine own_lloadN X54 (pc' := 198) at_197 rfl rfl ?_
    refine own_callS X54 (W := 0) (argsL := [(.ref ad29), (.int (7 : Int32)), (.int (1 : Int32)), (.int value), (.long fill)]) (rest := []) (S' := [(.int (1 : Int32))]) (pc' := 201) (rm3B l Z a0 hw n0 ad29 (7 : Int32) (1 : Int32) value fill h46 X54.size _ A47 (own_fb fill (7 : Int32)) rfl rfl (by decide) (by decide) (own_fb_m _ _)) (hw _ (List.mem_of_getElem? (i := 11) rfl)) (hw _ (List.mem_of_getElem? (i := 12) rfl)) (hw _ (List.mem_of_getElem? (i := 4) rfl)) (hw _ (List.mem_of_getElem? (i := 13) rfl)) (by decide) (by decide) (by decide) rfl rfl (by decide) (by decide) (lenOf pd_2 rfl) rfl (by first | decide | exact Nat.le_of_eq rfl) rfl at_198 rfl rfl ?_
    intro T55 h55 X55 qq55
    rw [show h55 = h46 from qq55] at X55
    refine own_if_eq X55 (pct := 208) (pc' := 204) at_201 rfl (by decide) (by decide) (fun hc => absurd hc (by decide)) (fun _ => ?_)
    refine own_iconst X55 (v := (1 : Int32)) (pc' := 205) at_204 rfl (by decide) ?_
    refine own_goto X55 (pc' := 209) at_205 (by decide) (by decide) ?_
    subst hΦ
    exact own_retZ X55 at_209 (by decide) (by decide) (by decide) rfl trivial
  · refine own_bipush X (v := (8 : Int32)) (pc' := 10) at_8 rfl (by decide) ?_
    refine own_newarr X (len := 8) (vs := [0, 0, 0, 0, 0, 0, 0, 0]) (pc' := 12) (hw _ (List.mem_of_getElem? (i := 1) rfl)) rfl (by decide) (by decide) rfl (by decide) at_10 rfl (by decide) (by decide) ?_
    intro T56 h56 ad56 X56 ge_ad56 g_ad56 E56 A56
    refine own_astore X56 (pc' := 14) (Ls' := #[.val (.int value), .val (.int kk), .val (.long fill), .second, .val (.int (2 : Int32)), .val (.ref ad56)]) at_12 rfl rfl rfl ?_
    refine own_aload X56 (pc' := 16) at_14 rfl rfl rfl ?_
    refine own_iconst X56 (v := (0 : Int32)) (pc' := 17) at_16 rfl (by decide) ?_
    refine own_lloadN X56 (pc' := 18) at_17 rfl rfl ?_
    refine own_iconst X56 (v := (0 : Int32)) (pc' := 19) at_18 rfl (by decide) ?_
    refine own_callS X56 (W := 2) (argsL := [(.long fill), (.int (0 : Int32))]) (rest := [(.int (0 : Int32)), (.ref ad56)]) (S' := [(.int (own_fb fill (0 : Int32))), (.int (0 : Int32)), (.ref ad56)]) (pc' := 22) (rm1 l Z a0 hw n0 fill (0 : Int32) h56 X56.size) (hw _ (List.mem_of_getElem? (i := 2) rfl)) (hw _ (List.mem_of_getElem? (i := 3) rfl)) (hw _ (List.mem_of_getElem? (i := 4) rfl)) (hw _ (List.mem_of_getElem? (i := 5) rfl)) (by decide) (by decide) (by decide) rfl rfl (by decide) (by decide) (lenOf pd_0 rfl) rfl (by first | decide | exact Nat.le_of_eq rfl) rfl at_19 rfl rfl ?_
    intro T57 h57 X57 qq57
    rw [show h57 = h56 from qq57] at X57
    refine own_bastore X57 (vs' := [(own_fb fill (0 : Int32)), (0 : Int32), (0 : Int32), (0 : Int32), (0 : Int32), (0 : Int32), (0 : Int32), (0 : Int32)]) (pc' := 23) A56 ge_ad56 rfl (own_fb_b _ _) rfl at_22 rfl ?_
    intro T58 h58 X58 A58 W58
    refine own_aload X58 (pc' := 25) at_23 rfl rfl rfl ?_
    refine own_iconst X58 (v := (1 : Int32)) (pc' := 26) at_25 rfl (by decide) ?_
    refine own_lloadN X58 (pc' := 27) at_26 rfl rfl ?_
    refine own_iconst X58 (v := (1 : Int32)) (pc' := 28) at_27 rfl (by decide) ?_
    refine own_callS X58 (W := 2) (argsL := [(.long fill), (.int (1 : Int32))]) (rest := [(.int (1 : Int32)), (.ref ad56)]) (S' := [(.int (own_fb fill (1 : Int32))), (.int (1 : Int32)), (.ref ad56)]) (pc' := 31) (rm1 l Z a0 hw n0 fill (1 : Int32) h58 X58.size) (hw _ (List.mem_of_getElem? (i := 2) rfl)) (hw _ (List.mem_of_getElem? (i := 3) rfl)) (hw _ (List.mem_of_getElem? (i := 4) rfl)) (hw _ (List.mem_of_getElem? (i := 5) rfl)) (by decide) (by decide) (by decide) rfl rfl (by decide) (by decide) (lenOf pd_0 rfl) rfl (by first | decide | exact Nat.le_of_eq rfl) rfl at_28 rfl rfl ?_
    intro T59 h59 X59 qq59
    rw [show h59 = h58 from qq59] at X59
    refine own_bastore X59 (vs' := [(own_fb fill (0 : Int32)), (own_fb fill (1 : Int32)), (0 : Int32), (0 : Int32), (0 : Int32), (0 : Int32), (0 : Int32), (0 : Int32)]) (pc' := 32) A58 ge_ad56 rfl (own_fb_b _ _) rfl at_31 rfl ?_
    intro T60 h60 X60 A60 W60
    refine own_aload X60 (pc' := 34) at_32 rfl rfl rfl ?_
    refine own_iconst X60 (v := (2 : Int32)) (pc' := 35) at_34 rfl (by decide) ?_
    refine own_lloadN X60 (pc' := 36) at_35 rfl rfl ?_
    refine own_iconst X60 (v := (2 : Int32)) (pc' := 37) at_36 rfl (by decide) ?_
    refine own_callS X60 (W := 2) (argsL := [(.long fill), (.int (2 : Int32))]) (rest := [(.int (2 : Int32)), (.ref ad56)]) (S' := [(.int (own_fb fill (2 : Int32))), (.int (2 : Int32)), (.ref ad56)]) (pc' := 40) (rm1 l Z a0 hw n0 fill (2 : Int32) h60 X60.size) (hw _ (List.mem_of_getElem? (i := 2) rfl)) (hw _ (List.mem_of_getElem? (i := 3) rfl)) (hw _ (List.mem_of_getElem? (i := 4) rfl)) (hw _ (List.mem_of_getElem? (i := 5) rfl)) (by decide) (by decide) (by decide) rfl rfl (by decide) (by decide) (lenOf pd_0 rfl) rfl (by first | decide | exact Nat.le_of_eq rfl) rfl at_37 rfl rfl ?_
    intro T61 h61 X61 qq61
    rw [show h61 = h60 from qq61] at X61
    refine own_bastore X61 (vs' := [(own_fb fill (0 : Int32)), (own_fb fill (1 : Int32)), (own_fb fill (2 : Int32)), (0 : Int32), (0 : Int32), (0 : Int32), (0 : Int32), (0 : Int32)]) (pc' := 41) A60 ge_ad56 rfl (own_fb_b _ _) rfl at_40 rfl ?_
    intro T62 h62 X62 A62 W62
    refine own_aload X62 (pc' := 43) at_41 rfl rfl rfl ?_
    refine own_iconst X62 (v := (3 : Int32)) (pc' := 44) at_43 rfl (by decide) ?_
    refine own_lloadN X62 (pc' := 45) at_44 rfl rfl ?_
    refine own_iconst X62 (v := (3 : Int32)) (pc' := 46) at_45 rfl (by decide) ?_
    refine own_callS X62 (W := 2) (argsL := [(.long fill), (.int (3 : Int32))]) (rest := [(.int (3 : Int32)), (.ref ad56)]) (S' := [(.int (own_fb fill (3 : Int32))), (.int (3 : Int32)), (.ref ad56)]) (pc' := 49) (rm1 l Z a0 hw n0 fill (3 : Int32) h62 X62.size) (hw _ (List.mem_of_getElem? (i := 2) rfl)) (hw _ (List.mem_of_getElem? (i := 3) rfl)) (hw _ (List.mem_of_getElem? (i := 4) rfl)) (hw _ (List.mem_of_getElem? (i := 5) rfl)) (by decide) (by decide) (by decide) rfl rfl (by decide) (by decide) (lenOf pd_0 rfl) rfl (by first | decide | exact Nat.le_of_eq rfl) rfl at_46 rfl rfl ?_
    intro T63 h63 X63 qq63
    rw [show h63 = h62 from qq63] at X63
    refine own_bastore X63 (vs' := [(own_fb fill (0 : Int32)), (own_fb fill (1 : Int32)), (own_fb fill (2 : Int32)), (own_fb fill (3 : Int32)), (0 : Int32), (0 : Int32), (0 : Int32), (0 : Int32)]) (pc' := 50) A62 ge_ad56 rfl (own_fb_b _ _) rfl at_49 rfl ?_
    intro T64 h64 X64 A64 W64
    refine own_aload X64 (pc' := 52) at_50 rfl rfl rfl ?_
    refine own_iconst X64 (v := (4 : Int32)) (pc' := 53) at_52 rfl (by decide) ?_
    refine own_lloadN X64 (pc' := 54) at_53 rfl rfl ?_
    refine own_iconst X64 (v := (4 : Int32)) (pc' := 55) at_54 rfl (by decide) ?_
    refine own_callS X64 (W := 2) (argsL := [(.long fill), (.int (4 : Int32))]) (rest := [(.int (4 : Int32)), (.ref ad56)]) (S' := [(.int (own_fb fill (4 : Int32))), (.int (4 : Int32)), (.ref ad56)]) (pc' := 58) (rm1 l Z a0 hw n0 fill (4 : Int32) h64 X64.size) (hw _ (List.mem_of_getElem? (i := 2) rfl)) (hw _ (List.mem_of_getElem? (i := 3) rfl)) (hw _ (List.mem_of_getElem? (i := 4) rfl)) (hw _ (List.mem_of_getElem? (i := 5) rfl)) (by decide) (by decide) (by decide) rfl rfl (by decide) (by decide) (lenOf pd_0 rfl) rfl (by first | decide | exact Nat.le_of_eq rfl) rfl at_55 rfl rfl ?_
    intro T65 h65 X65 qq65
    rw [show h65 = h64 from qq65] at X65
    refine own_bastore X65 (vs' := [(own_fb fill (0 : Int32)), (own_fb fill (1 : Int32)), (own_fb fill (2 : Int32)), (own_fb fill (3 : Int32)), (own_fb fill (4 : Int32)), (0 : Int32), (0 : Int32), (0 : Int32)]) (pc' := 59) A64 ge_ad56 rfl (own_fb_b _ _) rfl at_58 rfl ?_
    intro T66 h66 X66 A66 W66
    refine own_aload X66 (pc' := 61) at_59 rfl rfl rfl ?_
    refine own_iconst X66 (v := (5 : Int32)) (pc' := 62) at_61 rfl (by decide) ?_
    refine own_lloadN X66 (pc' := 63) at_62 rfl rfl ?_
    refine own_iconst X66 (v := (5 : Int32)) (pc' := 64) at_63 rfl (by decide) ?_
    refine own_callS X66 (W := 2) (argsL := [(.long fill), (.int (5 : Int32))]) (rest := [(.int (5 : Int32)), (.ref ad56)]) (S' := [(.int (own_fb fill (5 : Int32))), (.int (5 : Int32)), (.ref ad56)]) (pc' := 67) (rm1 l Z a0 hw n0 fill (5 : Int32) h66 X66.size) (hw _ (List.mem_of_getElem? (i := 2) rfl)) (hw _ (List.mem_of_getElem? (i := 3) rfl)) (hw _ (List.mem_of_getElem? (i := 4) rfl)) (hw _ (List.mem_of_getElem? (i := 5) rfl)) (by decide) (by decide) (by decide) rfl rfl (by decide) (by decide) (lenOf pd_0 rfl) rfl (by first | decide | exact Nat.le_of_eq rfl) rfl at_64 rfl rfl ?_
    intro T67 h67 X67 qq67
    rw [show h67 = h66 from qq67] at X67
    refine own_bastore X67 (vs' := [(own_fb fill (0 : Int32)), (own_fb fill (1 : Int32)), (own_fb fill (2 : Int32)), (own_fb fill (3 : Int32)), (own_fb fill (4 : Int32)), (own_fb fill (5 : Int32)), (0 : Int32), (0 : Int32)]) (pc' := 68) A66 ge_ad56 rfl (own_fb_b _ _) rfl at_67 rfl ?_
    intro T68 h68 X68 A68 W68
    refine own_aload X68 (pc' := 70) at_68 rfl rfl rfl ?_
    refine own_bipush X68 (v := (6 : Int32)) (pc' := 72) at_70 rfl (by decide) ?_
    refine own_lloadN X68 (pc' := 73) at_72 rfl rfl ?_
    refine own_bipush X68 (v := (6 : Int32)) (pc' := 75) at_73 rfl (by decide) ?_
    refine own_callS X68 (W := 2) (argsL := [(.long fill), (.int (6 : Int32))]) (rest := [(.int (6 : Int32)), (.ref ad56)]) (S' := [(.int (own_fb fill (6 : Int32))), (.int (6 : Int32)), (.ref ad56)]) (pc' := 78) (rm1 l Z a0 hw n0 fill (6 : Int32) h68 X68.size) (hw _ (List.mem_of_getElem? (i := 2) rfl)) (hw _ (List.mem_of_getElem? (i := 3) rfl)) (hw _ (List.mem_of_getElem? (i := 4) rfl)) (hw _ (List.mem_of_getElem? (i := 5) rfl)) (by decide) (by decide) (by decide) rfl rfl (by decide) (by decide) (lenOf pd_0 rfl) rfl (by first | decide | exact Nat.le_of_eq rfl) rfl at_75 rfl rfl ?_
    intro T69 h69 X69 qq69
    rw [show h69 = h68 from qq69] at X69
    refine own_bastore X69 (vs' := [(own_fb fill (0 : Int32)), (own_fb fill (1 : Int32)), (own_fb fill (2 : Int32)), (own_fb fill (3 : Int32)), (own_fb fill (4 : Int32)), (own_fb fill (5 : Int32)), (own_fb fill (6 : Int32)), (0 : Int32)]) (pc' := 79) A68 ge_ad56 rfl (own_fb_b _ _) rfl at_78 rfl ?_
    intro T70 h70 X70 A70 W70
    refine own_aload X70 (pc' := 81) at_79 rfl rfl rfl ?_
    refine own_bipush X70 (v := (7 : Int32)) (pc' := 83) at_81 rfl (by decide) ?_
    refine own_lloadN X70 (pc' := 84) at_83 rfl rfl ?_
    refine own_bipush X70 (v := (7 : Int32)) (pc' := 86) at_84 rfl (by decide) ?_
    refine own_callS X70 (W := 2) (argsL := [(.long fill), (.int (7 : Int32))]) (rest := [(.int (7 : Int32)), (.ref ad56)]) (S' := [(.int (own_fb fill (7 : Int32))), (.int (7 : Int32)), (.ref ad56)]) (pc' := 89) (rm1 l Z a0 hw n0 fill (7 : Int32) h70 X70.size) (hw _ (List.mem_of_getElem? (i := 2) rfl)) (hw _ (List.mem_of_getElem? (i := 3) rfl)) (hw _ (List.mem_of_getElem? (i := 4) rfl)) (hw _ (List.mem_of_getElem? (i := 5) rfl)) (by decide) (by decide) (by decide) rfl rfl (by decide) (by decide) (lenOf pd_0 rfl) rfl (by first | decide | exact Nat.le_of_eq rfl) rfl at_86 rfl rfl ?_
    intro T71 h71 X71 qq71
    rw [show h71 = h70 from qq71] at X71
    refine own_bastore X71 (vs' := [(own_fb fill (0 : Int32)), (own_fb fill (1 : Int32)), (own_fb fill (2 : Int32)), (own_fb fill (3 : Int32)), (own_fb fill (4 : Int32)), (own_fb fill (5 : Int32)), (own_fb fill (6 : Int32)), (own_fb fill (7 : Int32))]) (pc' := 90) A70 ge_ad56 rfl (own_fb_b _ _) rfl at_89 rfl ?_
    intro T72 h72 X72 A72 W72
    refine own_aload X72 (pc' := 92) at_90 rfl rfl rfl ?_
    refine own_iload X72 (pc' := 94) at_92 rfl rfl ?_
    refine own_iloadN X72 (pc' := 95) at_94 rfl rfl ?_
    refine own_callS X72 (W := 0) (argsL := [(.ref ad56), (.int (2 : Int32)), (.int value)]) (rest := []) (S' := []) (pc' := 98) (rm2 l Z a0 hw n0 ad56 (2 : Int32) value h72 X72.size _ A72 ge_ad56 rfl rfl rfl rfl) (hw _ (List.mem_of_getElem? (i := 7) rfl)) (hw _ (List.mem_of_getElem? (i := 8) rfl)) (hw _ (List.mem_of_getElem? (i := 9) rfl)) (hw _ (List.mem_of_getElem? (i := 10) rfl)) (by decide) (by decide) (by decide) rfl rfl (by decide) (by decide) (lenOf pd_1 rfl) rfl (by first | decide | exact Nat.le_of_eq rfl) rfl at_95 rfl rfl ?_
    intro T73 h73 X73 qq73
    obtain ⟨A74, K74⟩ := qq73
    replace A74 : own_A Z h73 ad56 .byte [(own_fb fill (0 : Int32)), (own_fb fill (1 : Int32)), (((value.toUInt32 >>> ((24 : Int32) &&& 31).toUInt32).toInt32).toInt8.toInt32), (((value.toUInt32 >>> ((16 : Int32) &&& 31).toUInt32).toInt32).toInt8.toInt32), (((value.toUInt32 >>> ((8 : Int32) &&& 31).toUInt32).toInt32).toInt8.toInt32), (value.toInt8.toInt32), (own_fb fill (6 : Int32)), (own_fb fill (7 : Int32))] := A74
    refine own_aload X73 (pc' := 100) at_98 rfl rfl rfl ?_
    refine own_iconst X73 (v := (0 : Int32)) (pc' := 101) at_100 rfl (by decide) ?_
    refine own_iload X73 (pc' := 103) at_101 rfl rfl ?_
    refine own_iloadN X73 (pc' := 104) at_103 rfl rfl ?_
    refine own_lloadN X73 (pc' := 105) at_104 rfl rfl ?_
    refine own_callS X73 (W := 0) (argsL := [(.ref ad56), (.int (0 : Int32)), (.int (2 : Int32)), (.int value), (.long fill)]) (rest := []) (S' := [(.int (1 : Int32))]) (pc' := 108) (rm3A l Z a0 hw n0 ad56 (0 : Int32) (2 : Int32) value fill h73 X73.size _ A74 (own_fb fill (0 : Int32)) rfl rfl (by decide) (own_fb_m _ _)) (hw _ (List.mem_of_getElem? (i := 11) rfl)) (hw _ (List.mem_of_getElem? (i := 12) rfl)) (hw _ (List.mem_of_getElem? (i := 4) rfl)) (hw _ (List.mem_of_getElem? (i := 13) rfl)) (by decide) (by decide) (by decide) rfl rfl (by decide) (by decide) (lenOf pd_2 rfl) rfl (by first | decide | exact Nat.le_of_eq rfl) rfl at_105 rfl rfl ?_
    intro T75 h75 X75 qq75
    rw [show h75 = h73 from qq75] at X75
    refine own_if_eq X75 (pct := 208) (pc' := 111) at_108 rfl (by decide) (by decide) (fun hc => absurd hc (by decide)) (fun _ => ?_)
    refine own_aload X75 (pc' := 113) at_111 rfl rfl rfl ?_
    refine own_iconst X75 (v := (1 : Int32)) (pc' := 114) at_113 rfl (by decide) ?_
    refine own_iload X75 (pc' := 116) at_114 rfl rfl ?_
    refine own_iloadN X75 (pc' := 117) at_116 rfl rfl ?_
    refine own_lloadN X75 (pc' := 118) at_117 rfl rfl ?_
    refine own_callS X75 (W := 0) (argsL := [(.ref ad56), (.int (1 : Int32)), (.int (2 : Int32)), (.int value), (.long fill)]) (rest := []) (S' := [(.int (1 : Int32))]) (pc' := 121) (rm3A l Z a0 hw n0 ad56 (1 : Int32) (2 : Int32) value fill h73 X75.size _ A74 (own_fb fill (1 : Int32)) rfl rfl (by decide) (own_fb_m _ _)) (hw _ (List.mem_of_getElem? (i := 11) rfl)) (hw _ (List.mem_of_getElem? (i := 12) rfl)) (hw _ (List.mem_of_getElem? (i := 4) rfl)) (hw _ (List.mem_of_getElem? (i := 13) rfl)) (by decide) (by decide) (by decide) rfl rfl (by decide) (by decide) (lenOf pd_2 rfl) rfl (by first | decide | exact Nat.le_of_eq rfl) rfl at_118 rfl rfl ?_
    intro T76 h76 X76 qq76
    rw [show h76 = h73 from qq76] at X76
    refine own_if_eq X76 (pct := 208) (pc' := 124) at_121 rfl (by decide) (by decide) (fun hc => absurd hc (by decide)) (fun _ => ?_)
    refine own_aload X76 (pc' := 126) at_124 rfl rfl rfl ?_
    refine own_iconst X76 (v := (2 : Int32)) (pc' := 127) at_126 rfl (by decide) ?_
    refine own_iload X76 (pc' := 129) at_127 rfl rfl ?_
    refine own_iloadN X76 (pc' := 130) at_129 rfl rfl ?_
    refine own_lloadN X76 (pc' := 131) at_130 rfl rfl ?_
    refine own_callS X76 (W := 0) (argsL := [(.ref ad56), (.int (2 : Int32)), (.int (2 : Int32)), (.int value), (.long fill)]) (rest := []) (S' := [(.int (1 : Int32))]) (pc' := 134) (rm3_0 l Z a0 hw n0 ad56 (2 : Int32) (2 : Int32) value fill h73 X76.size _ A74 (((value.toUInt32 >>> ((24 : Int32) &&& 31).toUInt32).toInt32).toInt8.toInt32) rfl rfl (by decide) (own_p0 _)) (hw _ (List.mem_of_getElem? (i := 11) rfl)) (hw _ (List.mem_of_getElem? (i := 12) rfl)) (hw _ (List.mem_of_getElem? (i := 4) rfl)) (hw _ (List.mem_of_getElem? (i := 13) rfl)) (by decide) (by decide) (by decide) rfl rfl (by decide) (by decide) (lenOf pd_2 rfl) rfl (by first | decide | exact Nat.le_of_eq rfl) rfl at_131 rfl rfl ?_
    intro T77 h77 X77 qq77
    rw [show h77 = h73 from qq77] at X77
    refine own_if_eq X77 (pct := 208) (pc' := 137) at_134 rfl (by decide) (by decide) (fun hc => absurd hc (by decide)) (fun _ => ?_)
    refine own_aload X77 (pc' := 139) at_137 rfl rfl rfl ?_
    refine own_iconst X77 (v := (3 : Int32)) (pc' := 140) at_139 rfl (by decide) ?_
    refine own_iload X77 (pc' := 142) at_140 rfl rfl ?_
    refine own_iloadN X77 (pc' := 143) at_142 rfl rfl ?_
    refine own_lloadN X77 (pc' := 144) at_143 rfl rfl ?_
    refine own_callS X77 (W := 0) (argsL := [(.ref ad56), (.int (3 : Int32)), (.int (2 : Int32)), (.int value), (.long fill)]) (rest := []) (S' := [(.int (1 : Int32))]) (pc' := 147) (rm3_1 l Z a0 hw n0 ad56 (3 : Int32) (2 : Int32) value fill h73 X77.size _ A74 (((value.toUInt32 >>> ((16 : Int32) &&& 31).toUInt32).toInt32).toInt8.toInt32) rfl rfl (by decide) (own_p1 _)) (hw _ (List.mem_of_getElem? (i := 11) rfl)) (hw _ (List.mem_of_getElem? (i := 12) rfl)) (hw _ (List.mem_of_getElem? (i := 4) rfl)) (hw _ (List.mem_of_getElem? (i := 13) rfl)) (by decide) (by decide) (by decide) rfl rfl (by decide) (by decide) (lenOf pd_2 rfl) rfl (by first | decide | exact Nat.le_of_eq rfl) rfl at_144 rfl rfl ?_
    intro T78 h78 X78 qq78
    rw [show h78 = h73 from qq78] at X78
    refine own_if_eq X78 (pct := 208) (pc' := 150) at_147 rfl (by decide) (by decide) (fun hc => absurd hc (by decide)) (fun _ => ?_)
    refine own_aload X78 (pc' := 152) at_150 rfl rfl rfl ?_
    refine own_iconst X78 (v := (4 : Int32)) (pc' := 153) at_152 rfl (by decide) ?_
    refine own_iload X78 (pc' := 155) at_153 rfl rfl ?_
    refine own_iloadN X78 (pc' := 156) at_155 rfl rfl ?_
    refine own_lloadN X78 (pc' := 157) at_156 rfl rfl ?_
    refine own_callS X78 (W := 0) (argsL := [(.ref ad56), (.int (4 : Int32)), (.int (2 : Int32)), (.int value), (.long fill)]) (rest := []) (S' := [(.int (1 : Int32))]) (pc' := 160) (rm3_2 l Z a0 hw n0 ad56 (4 : Int32) (2 : Int32) value fill h73 X78.size _ A74 (((value.toUInt32 >>> ((8 : Int32) &&& 31).toUInt32).toInt32).toInt8.toInt32) rfl rfl (by decide) (own_p2 _)) (hw _ (List.mem_of_getElem? (i := 11) rfl)) (hw _ (List.mem_of_getElem? (i := 12) rfl)) (hw _ (List.mem_of_getElem? (i := 4) rfl)) (hw _ (List.mem_of_getElem? (i := 13) rfl)) (by decide) (by decide) (by decide) rfl rfl (by decide) (by decide) (lenOf pd_2 rfl) rfl (by first | decide | exact Nat.le_of_eq rfl) rfl at_157 rfl rfl ?_
    intro T79 h79 X79 qq79
    rw [show h79 = h73 from qq79] at X79
    refine own_if_eq X79 (pct := 208) (pc' := 163) at_160 rfl (by decide) (by decide) (fun hc => absurd hc (by decide)) (fun _ => ?_)
    refine own_aload X79 (pc' := 165) at_163 rfl rfl rfl ?_
    refine own_iconst X79 (v := (5 : Int32)) (pc' := 166) at_165 rfl (by decide) ?_
    refine own_iload X79 (pc' := 168) at_166 rfl rfl ?_
    refine own_iloadN X79 (pc' := 169) at_168 rfl rfl ?_
    refine own_lloadN X79 (pc' := 170) at_169 rfl rfl ?_
    refine own_callS X79 (W := 0) (argsL := [(.ref ad56), (.int (5 : Int32)), (.int (2 : Int32)), (.int value), (.long fill)]) (rest := []) (S' := [(.int (1 : Int32))]) (pc' := 173) (rm3_3 l Z a0 hw n0 ad56 (5 : Int32) (2 : Int32) value fill h73 X79.size _ A74 (value.toInt8.toInt32) rfl rfl (by decide) (own_p3 _)) (hw _ (List.mem_of_getElem? (i := 11) rfl)) (hw _ (List.mem_of_getElem? (i := 12) rfl)) (hw _ (List.mem_of_getElem? (i := 4) rfl)) (hw _ (List.mem_of_getElem? (i := 13) rfl)) (by decide) (by decide) (by decide) rfl rfl (by decide) (by decide) (lenOf pd_2 rfl) rfl (by first | decide | exact Nat.le_of_eq rfl) rfl at_170 rfl rfl ?_
    intro T80 h80 X80 qq80
    rw [show h80 = h73 from qq80] at X80
    refine own_if_eq X80 (pct := 208) (pc' := 176) at_173 rfl (by decide) (by decide) (fun hc => absurd hc (by decide)) (fun _ => ?_)
    refine own_aload X80 (pc' := 178) at_176 rfl rfl rfl ?_
    refine own_bipush X80 (v := (6 : Int32)) (pc' := 180) at_178 rfl (by decide) ?_
    refine own_iload X80 (pc' := 182) at_180 rfl rfl ?_
    refine own_iloadN X80 (pc' := 183) at_182 rfl rfl ?_
    refine own_lloadN X80 (pc' := 184) at_183 rfl rfl ?_
    refine own_callS X80 (W := 0) (argsL := [(.ref ad56), (.int (6 : Int32)), (.int (2 : Int32)), (.int value), (.long fill)]) (rest := []) (S' := [(.int (1 : Int32))]) (pc' := 187) (rm3B l Z a0 hw n0 ad56 (6 : Int32) (2 : Int32) value fill h73 X80.size _ A74 (own_fb fill (6 : Int32)) rfl rfl (by decide) (by decide) (own_fb_m _ _)) (hw _ (List.mem_of_getElem? (i := 11) rfl)) (hw _ (List.mem_of_getElem? (i := 12) rfl)) (hw _ (List.mem_of_getElem? (i := 4) rfl)) (hw _ (List.mem_of_getElem? (i := 13) rfl)) (by decide) (by decide) (by decide) rfl rfl (by decide) (by decide) (lenOf pd_2 rfl) rfl (by first | decide | exact Nat.le_of_eq rfl) rfl at_184 rfl rfl ?_
    intro T81 h81 X81 qq81
    rw [show h81 = h73 from qq81] at X81
    refine own_if_eq X81 (pct := 208) (pc' := 190) at_187 rfl (by decide) (by decide) (fun hc => absurd hc (by decide)) (fun _ => ?_)
    refine own_aload X81 (pc' := 192) at_190 rfl rfl rfl ?_
    refine own_bipush X81 (v := (7 : Int32)) (pc' := 194) at_192 rfl (by decide) ?_
    refine own_iload X81 (pc' := 196) at_194 rfl rfl ?_
    refine own_iloadN X81 (pc' := 197) at_196 rfl rfl ?_
    refine own_lloadN X81 (pc' := 198) at_197 rfl rfl ?_
    refine own_callS X81 (W := 0) (argsL := [(.ref ad56), (.int (7 : Int32)), (.int (2 : Int32)), (.int value), (.long fill)]) (rest := []) (S' := [(.int (1 : Int32))]) (pc' := 201) (rm3B l Z a0 hw n0 ad56 (7 : Int32) (2 : Int32) value fill h73 X81.size _ A74 (own_fb fill (7 : Int32)) rfl rfl (by decide) (by decide) (own_fb_m _ _)) (hw _ (List.mem_of_getElem? (i := 11) rfl)) (hw _ (List.mem_of_getElem? (i := 12) rfl)) (hw _ (List.mem_of_getElem? (i := 4) rfl)) (hw _ (List.mem_of_getElem? (i := 13) rfl)) (by decide) (by decide) (by decide) rfl rfl (by decide) (by decide) (lenOf pd_2 rfl) rfl (by first | decide | exact Nat.le_of_eq rfl) rfl at_198 rfl rfl ?_
    intro T82 h82 X82 qq82
    rw [show h82 = h73 from qq82] at X82
    refine own_if_eq X82 (pct := 208) (pc' := 204) at_201 rfl (by decide) (by decide) (fun hc => absurd hc (by decide)) (fun _ => ?_)
    refine own_iconst X82 (v := (1 : Int32)) (pc' := 205) at_204 rfl (by decide) ?_
    refine own_goto X82 (pc' := 209) at_205 (by decide) (by decide) ?_
    subst hΦ
    exact own_retZ X82 at_209 (by decide) (by decide) (by decide) rfl trivial
  · refine own_bipush X (v := (8 : Int32)) (pc' := 10) at_8 rfl (by decide) ?_
    refine own_newarr X (len := 8) (vs := [0, 0, 0, 0, 0, 0, 0, 0]) (pc' := 12) (hw _ (List.mem_of_getElem? (i := 1) rfl)) rfl (by decide) (by decide) rfl (by decide) at_10 rfl (by decide) (by decide) ?_
    intro T83 h83 ad83 X83 ge_ad83 g_ad83 E83 A83
    refine own_astore X83 (pc' := 14) (Ls' := #[.val (.int value), .val (.int kk), .val (.long fill), .second, .val (.int (3 : Int32)), .val (.ref ad83)]) at_12 rfl rfl rfl ?_
    refine own_aload X83 (pc' := 16) at_14 rfl rfl rfl ?_
    refine own_iconst X83 (v := (0 : Int32)) (pc' := 17) at_16 rfl (by decide) ?_
    refine own_lloadN X83 (pc' := 18) at_17 rfl rfl ?_
    refine own_iconst X83 (v := (0 : Int32)) (pc' := 19) at_18 rfl (by decide) ?_
    refine own_callS X83 (W := 2) (argsL := [(.long fill), (.int (0 : Int32))]) (rest := [(.int (0 : Int32)), (.ref ad83)]) (S' := [(.int (own_fb fill (0 : Int32))), (.int (0 : Int32)), (.ref ad83)]) (pc' := 22) (rm1 l Z a0 hw n0 fill (0 : Int32) h83 X83.size) (hw _ (List.mem_of_getElem? (i := 2) rfl)) (hw _ (List.mem_of_getElem? (i := 3) rfl)) (hw _ (List.mem_of_getElem? (i := 4) rfl)) (hw _ (List.mem_of_getElem? (i := 5) rfl)) (by decide) (by decide) (by decide) rfl rfl (by decide) (by decide) (lenOf pd_0 rfl) rfl (by first | decide | exact Nat.le_of_eq rfl) rfl at_19 rfl rfl ?_
    intro T84 h84 X84 qq84
    rw [show h84 = h83 from qq84] at X84
    refine own_bastore X84 (vs' := [(own_fb fill (0 : Int32)), (0 : Int32), (0 : Int32), (0 : Int32), (0 : Int32), (0 : Int32), (0 : Int32), (0 : Int32)]) (pc' := 23) A83 ge_ad83 rfl (own_fb_b _ _) rfl at_22 rfl ?_
    intro T85 h85 X85 A85 W85
    refine own_aload X85 (pc' := 25) at_23 rfl rfl rfl ?_
    refine own_iconst X85 (v := (1 : Int32)) (pc' := 26) at_25 rfl (by decide) ?_
    refine own_lloadN X85 (pc' := 27) at_26 rfl rfl ?_
    refine own_iconst X85 (v := (1 : Int32)) (pc' := 28) at_27 rfl (by decide) ?_
    refine own_callS X85 (W := 2) (argsL := [(.long fill), (.int (1 : Int32))]) (rest := [(.int (1 : Int32)), (.ref ad83)]) (S' := [(.int (own_fb fill (1 : Int32))), (.int (1 : Int32)), (.ref ad83)]) (pc' := 31) (rm1 l Z a0 hw n0 fill (1 : Int32) h85 X85.size) (hw _ (List.mem_of_getElem? (i := 2) rfl)) (hw _ (List.mem_of_getElem? (i := 3) rfl)) (hw _ (List.mem_of_getElem? (i := 4) rfl)) (hw _ (List.mem_of_getElem? (i := 5) rfl)) (by decide) (by decide) (by decide) rfl rfl (by decide) (by decide) (lenOf pd_0 rfl) rfl (by first | decide | exact Nat.le_of_eq rfl) rfl at_28 rfl rfl ?_
    intro T86 h86 X86 qq86
    rw [show h86 = h85 from qq86] at X86
    refine own_bastore X86 (vs' := [(own_fb fill (0 : Int32)), (own_fb fill (1 : Int32)), (0 : Int32), (0 : Int32), (0 : Int32), (0 : Int32), (0 : Int32), (0 : Int32)]) (pc' := 32) A85 ge_ad83 rfl (own_fb_b _ _) rfl at_31 rfl ?_
    intro T87 h87 X87 A87 W87
    refine own_aload X87 (pc' := 34) at_32 rfl rfl rfl ?_
    refine own_iconst X87 (v := (2 : Int32)) (pc' := 35) at_34 rfl (by decide) ?_
    refine own_lloadN X87 (pc' := 36) at_35 rfl rfl ?_
    refine own_iconst X87 (v := (2 : Int32)) (pc' := 37) at_36 rfl (by decide) ?_
    refine own_callS X87 (W := 2) (argsL := [(.long fill), (.int (2 : Int32))]) (rest := [(.int (2 : Int32)), (.ref ad83)]) (S' := [(.int (own_fb fill (2 : Int32))), (.int (2 : Int32)), (.ref ad83)]) (pc' := 40) (rm1 l Z a0 hw n0 fill (2 : Int32) h87 X87.size) (hw _ (List.mem_of_getElem? (i := 2) rfl)) (hw _ (List.mem_of_getElem? (i := 3) rfl)) (hw _ (List.mem_of_getElem? (i := 4) rfl)) (hw _ (List.mem_of_getElem? (i := 5) rfl)) (by decide) (by decide) (by decide) rfl rfl (by decide) (by decide) (lenOf pd_0 rfl) rfl (by first | decide | exact Nat.le_of_eq rfl) rfl at_37 rfl rfl ?_
    intro T88 h88 X88 qq88
    rw [show h88 = h87 from qq88] at X88
    refine own_bastore X88 (vs' := [(own_fb fill (0 : Int32)), (own_fb fill (1 : Int32)), (own_fb fill (2 : Int32)), (0 : Int32), (0 : Int32), (0 : Int32), (0 : Int32), (0 : Int32)]) (pc' := 41) A87 ge_ad83 rfl (own_fb_b _ _) rfl at_40 rfl ?_
    intro T89 h89 X89 A89 W89
    refine own_aload X89 (pc' := 43) at_41 rfl rfl rfl ?_
    refine own_iconst X89 (v := (3 : Int32)) (pc' := 44) at_43 rfl (by decide) ?_
    refine own_lloadN X89 (pc' := 45) at_44 rfl rfl ?_
    refine own_iconst X89 (v := (3 : Int32)) (pc' := 46) at_45 rfl (by decide) ?_
    refine own_callS X89 (W := 2) (argsL := [(.long fill), (.int (3 : Int32))]) (rest := [(.int (3 : Int32)), (.ref ad83)]) (S' := [(.int (own_fb fill (3 : Int32))), (.int (3 : Int32)), (.ref ad83)]) (pc' := 49) (rm1 l Z a0 hw n0 fill (3 : Int32) h89 X89.size) (hw _ (List.mem_of_getElem? (i := 2) rfl)) (hw _ (List.mem_of_getElem? (i := 3) rfl)) (hw _ (List.mem_of_getElem? (i := 4) rfl)) (hw _ (List.mem_of_getElem? (i := 5) rfl)) (by decide) (by decide) (by decide) rfl rfl (by decide) (by decide) (lenOf pd_0 rfl) rfl (by first | decide | exact Nat.le_of_eq rfl) rfl at_46 rfl rfl ?_
    intro T90 h90 X90 qq90
    rw [show h90 = h89 from qq90] at X90
    refine own_bastore X90 (vs' := [(own_fb fill (0 : Int32)), (own_fb fill (1 : Int32)), (own_fb fill (2 : Int32)), (own_fb fill (3 : Int32)), (0 : Int32), (0 : Int32), (0 : Int32), (0 : Int32)]) (pc' := 50) A89 ge_ad83 rfl (own_fb_b _ _) rfl at_49 rfl ?_
    intro T91 h91 X91 A91 W91
    refine own_aload X91 (pc' := 52) at_50 rfl rfl rfl ?_
    refine own_iconst X91 (v := (4 : Int32)) (pc' := 53) at_52 rfl (by decide) ?_
    refine own_lloadN X91 (pc' := 54) at_53 rfl rfl ?_
    refine own_iconst X91 (v := (4 : Int32)) (pc' := 55) at_54 rfl (by decide) ?_
    refine own_callS X91 (W := 2) (argsL := [(.long fill), (.int (4 : Int32))]) (rest := [(.int (4 : Int32)), (.ref ad83)]) (S' := [(.int (own_fb fill (4 : Int32))), (.int (4 : Int32)), (.ref ad83)]) (pc' := 58) (rm1 l Z a0 hw n0 fill (4 : Int32) h91 X91.size) (hw _ (List.mem_of_getElem? (i := 2) rfl)) (hw _ (List.mem_of_getElem? (i := 3) rfl)) (hw _ (List.mem_of_getElem? (i := 4) rfl)) (hw _ (List.mem_of_getElem? (i := 5) rfl)) (by decide) (by decide) (by decide) rfl rfl (by decide) (by decide) (lenOf pd_0 rfl) rfl (by first | decide | exact Nat.le_of_eq rfl) rfl at_55 rfl rfl ?_
    intro T92 h92 X92 qq92
    rw [show h92 = h91 from qq92] at X92
    refine own_bastore X92 (vs' := [(own_fb fill (0 : Int32)), (own_fb fill (1 : Int32)), (own_fb fill (2 : Int32)), (own_fb fill (3 : Int32)), (own_fb fill (4 : Int32)), (0 : Int32), (0 : Int32), (0 : Int32)]) (pc' := 59) A91 ge_ad83 rfl (own_fb_b _ _) rfl at_58 rfl ?_
    intro T93 h93 X93 A93 W93
    refine own_aload X93 (pc' := 61) at_59 rfl rfl rfl ?_
    refine own_iconst X93 (v := (5 : Int32)) (pc' := 62) at_61 rfl (by decide) ?_
    refine own_lloadN X93 (pc' := 63) at_62 rfl rfl ?_
    refine own_iconst X93 (v := (5 : Int32)) (pc' := 64) at_63 rfl (by decide) ?_
    refine own_callS X93 (W := 2) (argsL := [(.long fill), (.int (5 : Int32))]) (rest := [(.int (5 : Int32)), (.ref ad83)]) (S' := [(.int (own_fb fill (5 : Int32))), (.int (5 : Int32)), (.ref ad83)]) (pc' := 67) (rm1 l Z a0 hw n0 fill (5 : Int32) h93 X93.size) (hw _ (List.mem_of_getElem? (i := 2) rfl)) (hw _ (List.mem_of_getElem? (i := 3) rfl)) (hw _ (List.mem_of_getElem? (i := 4) rfl)) (hw _ (List.mem_of_getElem? (i := 5) rfl)) (by decide) (by decide) (by decide) rfl rfl (by decide) (by decide) (lenOf pd_0 rfl) rfl (by first | decide | exact Nat.le_of_eq rfl) rfl at_64 rfl rfl ?_
    intro T94 h94 X94 qq94
    rw [show h94 = h93 from qq94] at X94
    refine own_bastore X94 (vs' := [(own_fb fill (0 : Int32)), (own_fb fill (1 : Int32)), (own_fb fill (2 : Int32)), (own_fb fill (3 : Int32)), (own_fb fill (4 : Int32)), (own_fb fill (5 : Int32)), (0 : Int32), (0 : Int32)]) (pc' := 68) A93 ge_ad83 rfl (own_fb_b _ _) rfl at_67 rfl ?_
    intro T95 h95 X95 A95 W95
    refine own_aload X95 (pc' := 70) at_68 rfl rfl rfl ?_
    refine own_bipush X95 (v := (6 : Int32)) (pc' := 72) at_70 rfl (by decide) ?_
    refine own_lloadN X95 (pc' := 73) at_72 rfl rfl ?_
    refine own_bipush X95 (v := (6 : Int32)) (pc' := 75) at_73 rfl (by decide) ?_
    refine own_callS X95 (W := 2) (argsL := [(.long fill), (.int (6 : Int32))]) (rest := [(.int (6 : Int32)), (.ref ad83)]) (S' := [(.int (own_fb fill (6 : Int32))), (.int (6 : Int32)), (.ref ad83)]) (pc' := 78) (rm1 l Z a0 hw n0 fill (6 : Int32) h95 X95.size) (hw _ (List.mem_of_getElem? (i := 2) rfl)) (hw _ (List.mem_of_getElem? (i := 3) rfl)) (hw _ (List.mem_of_getElem? (i := 4) rfl)) (hw _ (List.mem_of_getElem? (i := 5) rfl)) (by decide) (by decide) (by decide) rfl rfl (by decide) (by decide) (lenOf pd_0 rfl) rfl (by first | decide | exact Nat.le_of_eq rfl) rfl at_75 rfl rfl ?_
    intro T96 h96 X96 qq96
    rw [show h96 = h95 from qq96] at X96
    refine own_bastore X96 (vs' := [(own_fb fill (0 : Int32)), (own_fb fill (1 : Int32)), (own_fb fill (2 : Int32)), (own_fb fill (3 : Int32)), (own_fb fill (4 : Int32)), (own_fb fill (5 : Int32)), (own_fb fill (6 : Int32)), (0 : Int32)]) (pc' := 79) A95 ge_ad83 rfl (own_fb_b _ _) rfl at_78 rfl ?_
    intro T97 h97 X97 A97 W97
    refine own_aload X97 (pc' := 81) at_79 rfl rfl rfl ?_
    refine own_bipush X97 (v := (7 : Int32)) (pc' := 83) at_81 rfl (by decide) ?_
    refine own_lloadN X97 (pc' := 84) at_83 rfl rfl ?_
    refine own_bipush X97 (v := (7 : Int32)) (pc' := 86) at_84 rfl (by decide) ?_
    refine own_callS X97 (W := 2) (argsL := [(.long fill), (.int (7 : Int32))]) (rest := [(.int (7 : Int32)), (.ref ad83)]) (S' := [(.int (own_fb fill (7 : Int32))), (.int (7 : Int32)), (.ref ad83)]) (pc' := 89) (rm1 l Z a0 hw n0 fill (7 : Int32) h97 X97.size) (hw _ (List.mem_of_getElem? (i := 2) rfl)) (hw _ (List.mem_of_getElem? (i := 3) rfl)) (hw _ (List.mem_of_getElem? (i := 4) rfl)) (hw _ (List.mem_of_getElem? (i := 5) rfl)) (by decide) (by decide) (by decide) rfl rfl (by decide) (by decide) (lenOf pd_0 rfl) rfl (by first | decide | exact Nat.le_of_eq rfl) rfl at_86 rfl rfl ?_
    intro T98 h98 X98 qq98
    rw [show h98 = h97 from qq98] at X98
    refine own_bastore X98 (vs' := [(own_fb fill (0 : Int32)), (own_fb fill (1 : Int32)), (own_fb fill (2 : Int32)), (own_fb fill (3 : Int32)), (own_fb fill (4 : Int32)), (own_fb fill (5 : Int32)), (own_fb fill (6 : Int32)), (own_fb fill (7 : Int32))]) (pc' := 90) A97 ge_ad83 rfl (own_fb_b _ _) rfl at_89 rfl ?_
    intro T99 h99 X99 A99 W99
    refine own_aload X99 (pc' := 92) at_90 rfl rfl rfl ?_
    refine own_iload X99 (pc' := 94) at_92 rfl rfl ?_
    refine own_iloadN X99 (pc' := 95) at_94 rfl rfl ?_
    refine own_callS X99 (W := 0) (argsL := [(.ref ad83), (.int (3 : Int32)), (.int value)]) (rest := []) (S' := []) (pc' := 98) (rm2 l Z a0 hw n0 ad83 (3 : Int32) value h99 X99.size _ A99 ge_ad83 rfl rfl rfl rfl) (hw _ (List.mem_of_getElem? (i := 7) rfl)) (hw _ (List.mem_of_getElem? (i := 8) rfl)) (hw _ (List.mem_of_getElem? (i := 9) rfl)) (hw _ (List.mem_of_getElem? (i := 10) rfl)) (by decide) (by decide) (by decide) rfl rfl (by decide) (by decide) (lenOf pd_1 rfl) rfl (by first | decide | exact Nat.le_of_eq rfl) rfl at_95 rfl rfl ?_
    intro T100 h100 X100 qq100
    obtain ⟨A101, K101⟩ := qq100
    replace A101 : own_A Z h100 ad83 .byte [(own_fb fill (0 : Int32)), (own_fb fill (1 : Int32)), (own_fb fill (2 : Int32)), (((value.toUInt32 >>> ((24 : Int32) &&& 31).toUInt32).toInt32).toInt8.toInt32), (((value.toUInt32 >>> ((16 : Int32) &&& 31).toUInt32).toInt32).toInt8.toInt32), (((value.toUInt32 >>> ((8 : Int32) &&& 31).toUInt32).toInt32).toInt8.toInt32), (value.toInt8.toInt32), (own_fb fill (7 : Int32))] := A101
    refine own_aload X100 (pc' := 100) at_98 rfl rfl rfl ?_
    refine own_iconst X100 (v := (0 : Int32)) (pc' := 101) at_100 rfl (by decide) ?_
    refine own_iload X100 (pc' := 103) at_101 rfl rfl ?_
    refine own_iloadN X100 (pc' := 104) at_103 rfl rfl ?_
    refine own_lloadN X100 (pc' := 105) at_104 rfl rfl ?_
    refine own_callS X100 (W := 0) (argsL := [(.ref ad83), (.int (0 : Int32)), (.int (3 : Int32)), (.int value), (.long fill)]) (rest := []) (S' := [(.int (1 : Int32))]) (pc' := 108) (rm3A l Z a0 hw n0 ad83 (0 : Int32) (3 : Int32) value fill h100 X100.size _ A101 (own_fb fill (0 : Int32)) rfl rfl (by decide) (own_fb_m _ _)) (hw _ (List.mem_of_getElem? (i := 11) rfl)) (hw _ (List.mem_of_getElem? (i := 12) rfl)) (hw _ (List.mem_of_getElem? (i := 4) rfl)) (hw _ (List.mem_of_getElem? (i := 13) rfl)) (by decide) (by decide) (by decide) rfl rfl (by decide) (by decide) (lenOf pd_2 rfl) rfl (by first | decide | exact Nat.le_of_eq rfl) rfl at_105 rfl rfl ?_
    intro T102 h102 X102 qq102
    rw [show h102 = h100 from qq102] at X102
    refine own_if_eq X102 (pct := 208) (pc' := 111) at_108 rfl (by decide) (by decide) (fun hc => absurd hc (by decide)) (fun _ => ?_)
    refine own_aload X102 (pc' := 113) at_111 rfl rfl rfl ?_
    refine own_iconst X102 (v := (1 : Int32)) (pc' := 114) at_113 rfl (by decide) ?_
    refine own_iload X102 (pc' := 116) at_114 rfl rfl ?_
    refine own_iloadN X102 (pc' := 117) at_116 rfl rfl ?_
    refine own_lloadN X102 (pc' := 118) at_117 rfl rfl ?_
    refine own_callS X102 (W := 0) (argsL := [(.ref ad83), (.int (1 : Int32)), (.int (3 : Int32)), (.int value), (.long fill)]) (rest := []) (S' := [(.int (1 : Int32))]) (pc' := 121) (rm3A l Z a0 hw n0 ad83 (1 : Int32) (3 : Int32) value fill h100 X102.size _ A101 (own_fb fill (1 : Int32)) rfl rfl (by decide) (own_fb_m _ _)) (hw _ (List.mem_of_getElem? (i := 11) rfl)) (hw _ (List.mem_of_getElem? (i := 12) rfl)) (hw _ (List.mem_of_getElem? (i := 4) rfl)) (hw _ (List.mem_of_getElem? (i := 13) rfl)) (by decide) (by decide) (by decide) rfl rfl (by decide) (by decide) (lenOf pd_2 rfl) rfl (by first | decide | exact Nat.le_of_eq rfl) rfl at_118 rfl rfl ?_
    intro T103 h103 X103 qq103
    rw [show h103 = h100 from qq103] at X103
    refine own_if_eq X103 (pct := 208) (pc' := 124) at_121 rfl (by decide) (by decide) (fun hc => absurd hc (by decide)) (fun _ => ?_)
    refine own_aload X103 (pc' := 126) at_124 rfl rfl rfl ?_
    refine own_iconst X103 (v := (2 : Int32)) (pc' := 127) at_126 rfl (by decide) ?_
    refine own_iload X103 (pc' := 129) at_127 rfl rfl ?_
    refine own_iloadN X103 (pc' := 130) at_129 rfl rfl ?_
    refine own_lloadN X103 (pc' := 131) at_130 rfl rfl ?_
    refine own_callS X103 (W := 0) (argsL := [(.ref ad83), (.int (2 : Int32)), (.int (3 : Int32)), (.int value), (.long fill)]) (rest := []) (S' := [(.int (1 : Int32))]) (pc' := 134) (rm3A l Z a0 hw n0 ad83 (2 : Int32) (3 : Int32) value fill h100 X103.size _ A101 (own_fb fill (2 : Int32)) rfl rfl (by decide) (own_fb_m _ _)) (hw _ (List.mem_of_getElem? (i := 11) rfl)) (hw _ (List.mem_of_getElem? (i := 12) rfl)) (hw _ (List.mem_of_getElem? (i := 4) rfl)) (hw _ (List.mem_of_getElem? (i := 13) rfl)) (by decide) (by decide) (by decide) rfl rfl (by decide) (by decide) (lenOf pd_2 rfl) rfl (by first | decide | exact Nat.le_of_eq rfl) rfl at_131 rfl rfl ?_
    intro T104 h104 X104 qq104
    rw [show h104 = h100 from qq104] at X104
    refine own_if_eq X104 (pct := 208) (pc' := 137) at_134 rfl (by decide) (by decide) (fun hc => absurd hc (by decide)) (fun _ => ?_)
    refine own_aload X104 (pc' := 139) at_137 rfl rfl rfl ?_
    refine own_iconst X104 (v := (3 : Int32)) (pc' := 140) at_139 rfl (by decide) ?_
    refine own_iload X104 (pc' := 142) at_140 rfl rfl ?_
    refine own_iloadN X104 (pc' := 143) at_142 rfl rfl ?_
    refine own_lloadN X104 (pc' := 144) at_143 rfl rfl ?_
    refine own_callS X104 (W := 0) (argsL := [(.ref ad83), (.int (3 : Int32)), (.int (3 : Int32)), (.int value), (.long fill)]) (rest := []) (S' := [(.int (1 : Int32))]) (pc' := 147) (rm3_0 l Z a0 hw n0 ad83 (3 : Int32) (3 : Int32) value fill h100 X104.size _ A101 (((value.toUInt32 >>> ((24 : Int32) &&& 31).toUInt32).toInt32).toInt8.toInt32) rfl rfl (by decide) (own_p0 _)) (hw _ (List.mem_of_getElem? (i := 11) rfl)) (hw _ (List.mem_of_getElem? (i := 12) rfl)) (hw _ (List.mem_of_getElem? (i := 4) rfl)) (hw _ (List.mem_of_getElem? (i := 13) rfl)) (by decide) (by decide) (by decide) rfl rfl (by decide) (by decide) (lenOf pd_2 rfl) rfl (by first | decide | exact Nat.le_of_eq rfl) rfl at_144 rfl rfl ?_
    intro T105 h105 X105 qq105
    rw [show h105 = h100 from qq105] at X105
    refine own_if_eq X105 (pct := 208) (pc' := 150) at_147 rfl (by decide) (by decide) (fun hc => absurd hc (by decide)) (fun _ => ?_)
    refine own_aload X105 (pc' := 152) at_150 rfl rfl rfl ?_
    refine own_iconst X105 (v := (4 : Int32)) (pc' := 153) at_152 rfl (by decide) ?_
    refine own_iload X105 (pc' := 155) at_153 rfl rfl ?_
    refine own_iloadN X105 (pc' := 156) at_155 rfl rfl ?_
    refine own_lloadN X105 (pc' := 157) at_156 rfl rfl ?_
    refine own_callS X105 (W := 0) (argsL := [(.ref ad83), (.int (4 : Int32)), (.int (3 : Int32)), (.int value), (.long fill)]) (rest := []) (S' := [(.int (1 : Int32))]) (pc' := 160) (rm3_1 l Z a0 hw n0 ad83 (4 : Int32) (3 : Int32) value fill h100 X105.size _ A101 (((value.toUInt32 >>> ((16 : Int32) &&& 31).toUInt32).toInt32).toInt8.toInt32) rfl rfl (by decide) (own_p1 _)) (hw _ (List.mem_of_getElem? (i := 11) rfl)) (hw _ (List.mem_of_getElem? (i := 12) rfl)) (hw _ (List.mem_of_getElem? (i := 4) rfl)) (hw _ (List.mem_of_getElem? (i := 13) rfl)) (by decide) (by decide) (by decide) rfl rfl (by decide) (by decide) (lenOf pd_2 rfl) rfl (by first | decide | exact Nat.le_of_eq rfl) rfl at_157 rfl rfl ?_
    intro T106 h106 X106 qq106
    rw [show h106 = h100 from qq106] at X106
    refine own_if_eq X106 (pct := 208) (pc' := 163) at_160 rfl (by decide) (by decide) (fun hc => absurd hc (by decide)) (fun _ => ?_)
    refine own_aload X106 (pc' := 165) at_163 rfl rfl rfl ?_
    refine own_iconst X106 (v := (5 : Int32)) (pc' := 166) at_165 rfl (by decide) ?_
    refine own_iload X106 (pc' := 168) at_166 rfl rfl ?_
    refine own_iloadN X106 (pc' := 169) at_168 rfl rfl ?_
    refine own_lloadN X106 (pc' := 170) at_169 rfl rfl ?_
    refine own_callS X106 (W := 0) (argsL := [(.ref ad83), (.int (5 : Int32)), (.int (3 : Int32)), (.int value), (.long fill)]) (rest := []) (S' := [(.int (1 : Int32))]) (pc' := 173) (rm3_2 l Z a0 hw n0 ad83 (5 : Int32) (3 : Int32) value fill h100 X106.size _ A101 (((value.toUInt32 >>> ((8 : Int32) &&& 31).toUInt32).toInt32).toInt8.toInt32) rfl rfl (by decide) (own_p2 _)) (hw _ (List.mem_of_getElem? (i := 11) rfl)) (hw _ (List.mem_of_getElem? (i := 12) rfl)) (hw _ (List.mem_of_getElem? (i := 4) rfl)) (hw _ (List.mem_of_getElem? (i := 13) rfl)) (by decide) (by decide) (by decide) rfl rfl (by decide) (by decide) (lenOf pd_2 rfl) rfl (by first | decide | exact Nat.le_of_eq rfl) rfl at_170 rfl rfl ?_
    intro T107 h107 X107 qq107
    rw [show h107 = h100 from qq107] at X107
    refine own_if_eq X107 (pct := 208) (pc' := 176) at_173 rfl (by decide) (by decide) (fun hc => absurd hc (by decide)) (fun _ => ?_)
    refine own_aload X107 (pc' := 178) at_176 rfl rfl rfl ?_
    refine own_bipush X107 (v := (6 : Int32)) (pc' := 180) at_178 rfl (by decide) ?_
    refine own_iload X107 (pc' := 182) at_180 rfl rfl ?_
    refine own_iloadN X107 (pc' := 183) at_182 rfl rfl ?_
    refine own_lloadN X107 (pc' := 184) at_183 rfl rfl ?_
    refine own_callS X107 (W := 0) (argsL := [(.ref ad83), (.int (6 : Int32)), (.int (3 : Int32)), (.int value), (.long fill)]) (rest := []) (S' := [(.int (1 : Int32))]) (pc' := 187) (rm3_3 l Z a0 hw n0 ad83 (6 : Int32) (3 : Int32) value fill h100 X107.size _ A101 (value.toInt8.toInt32) rfl rfl (by decide) (own_p3 _)) (hw _ (List.mem_of_getElem? (i := 11) rfl)) (hw _ (List.mem_of_getElem? (i := 12) rfl)) (hw _ (List.mem_of_getElem? (i := 4) rfl)) (hw _ (List.mem_of_getElem? (i := 13) rfl)) (by decide) (by decide) (by decide) rfl rfl (by decide) (by decide) (lenOf pd_2 rfl) rfl (by first | decide | exact Nat.le_of_eq rfl) rfl at_184 rfl rfl ?_
    intro T108 h108 X108 qq108
    rw [show h108 = h100 from qq108] at X108
    refine own_if_eq X108 (pct := 208) (pc' := 190) at_187 rfl (by decide) (by decide) (fun hc => absurd hc (by decide)) (fun _ => ?_)
    refine own_aload X108 (pc' := 192) at_190 rfl rfl rfl ?_
    refine own_bipush X108 (v := (7 : Int32)) (pc' := 194) at_192 rfl (by decide) ?_
    refine own_iload X108 (pc' := 196) at_194 rfl rfl ?_
    refine own_iloadN X108 (pc' := 197) at_196 rfl rfl ?_
    refine own_lloadN X108 (pc' := 198) at_197 rfl rfl ?_
    refine own_callS X108 (W := 0) (argsL := [(.ref ad83), (.int (7 : Int32)), (.int (3 : Int32)), (.int value), (.long fill)]) (rest := []) (S' := [(.int (1 : Int32))]) (pc' := 201) (rm3B l Z a0 hw n0 ad83 (7 : Int32) (3 : Int32) value fill h100 X108.size _ A101 (own_fb fill (7 : Int32)) rfl rfl (by decide) (by decide) (own_fb_m _ _)) (hw _ (List.mem_of_getElem? (i := 11) rfl)) (hw _ (List.mem_of_getElem? (i := 12) rfl)) (hw _ (List.mem_of_getElem? (i := 4) rfl)) (hw _ (List.mem_of_getElem? (i := 13) rfl)) (by decide) (by decide) (by decide) rfl rfl (by decide) (by decide) (lenOf pd_2 rfl) rfl (by first | decide | exact Nat.le_of_eq rfl) rfl at_198 rfl rfl ?_
    intro T109 h109 X109 qq109
    rw [show h109 = h100 from qq109] at X109
    refine own_if_eq X109 (pct := 208) (pc' := 204) at_201 rfl (by decide) (by decide) (fun hc => absurd hc (by decide)) (fun _ => ?_)
    refine own_iconst X109 (v := (1 : Int32)) (pc' := 205) at_204 rfl (by decide) ?_
    refine own_goto X109 (pc' := 209) at_205 (by decide) (by decide) ?_
    subst hΦ
    exact own_retZ X109 at_209 (by decide) (by decide) (by decide) rfl trivial
  · refine own_bipush X (v := (8 : Int32)) (pc' := 10) at_8 rfl (by decide) ?_
    refine own_newarr X (len := 8) (vs := [0, 0, 0, 0, 0, 0, 0, 0]) (pc' := 12) (hw _ (List.mem_of_getElem? (i := 1) rfl)) rfl (by decide) (by decide) rfl (by decide) at_10 rfl (by decide) (by decide) ?_
    intro T110 h110 ad110 X110 ge_ad110 g_ad110 E110 A110
    refine own_astore X110 (pc' := 14) (Ls' := #[.val (.int value), .val (.int kk), .val (.long fill), .second, .val (.int (4 : Int32)), .val (.ref ad110)]) at_12 rfl rfl rfl ?_
    refine own_aload X110 (pc' := 16) at_14 rfl rfl rfl ?_
    refine own_iconst X110 (v := (0 : Int32)) (pc' := 17) at_16 rfl (by decide) ?_
    refine own_lloadN X110 (pc' := 18) at_17 rfl rfl ?_
    refine own_iconst X110 (v := (0 : Int32)) (pc' := 19) at_18 rfl (by decide) ?_
    refine own_callS X110 (W := 2) (argsL := [(.long fill), (.int (0 : Int32))]) (rest := [(.int (0 : Int32)), (.ref ad110)]) (S' := [(.int (own_fb fill (0 : Int32))), (.int (0 : Int32)), (.ref ad110)]) (pc' := 22) (rm1 l Z a0 hw n0 fill (0 : Int32) h110 X110.size) (hw _ (List.mem_of_getElem? (i := 2) rfl)) (hw _ (List.mem_of_getElem? (i := 3) rfl)) (hw _ (List.mem_of_getElem? (i := 4) rfl)) (hw _ (List.mem_of_getElem? (i := 5) rfl)) (by decide) (by decide) (by decide) rfl rfl (by decide) (by decide) (lenOf pd_0 rfl) rfl (by first | decide | exact Nat.le_of_eq rfl) rfl at_19 rfl rfl ?_
    intro T111 h111 X111 qq111
    rw [show h111 = h110 from qq111] at X111
    refine own_bastore X111 (vs' := [(own_fb fill (0 : Int32)), (0 : Int32), (0 : Int32), (0 : Int32), (0 : Int32), (0 : Int32), (0 : Int32), (0 : Int32)]) (pc' := 23) A110 ge_ad110 rfl (own_fb_b _ _) rfl at_22 rfl ?_
    intro T112 h112 X112 A112 W112
    refine own_aload X112 (pc' := 25) at_23 rfl rfl rfl ?_
    refine own_iconst X112 (v := (1 : Int32)) (pc' := 26) at_25 rfl (by decide) ?_
    refine own_lloadN X112 (pc' := 27) at_26 rfl rfl ?_
    refine own_iconst X112 (v := (1 : Int32)) (pc' := 28) at_27 rfl (by decide) ?_
    refine own_callS X112 (W := 2) (argsL := [(.long fill), (.int (1 : Int32))]) (rest := [(.int (1 : Int32)), (.ref ad110)]) (S' := [(.int (own_fb fill (1 : Int32))), (.int (1 : Int32)), (.ref ad110)]) (pc' := 31) (rm1 l Z a0 hw n0 fill (1 : Int32) h112 X112.size) (hw _ (List.mem_of_getElem? (i := 2) rfl)) (hw _ (List.mem_of_getElem? (i := 3) rfl)) (hw _ (List.mem_of_getElem? (i := 4) rfl)) (hw _ (List.mem_of_getElem? (i := 5) rfl)) (by decide) (by decide) (by decide) rfl rfl (by decide) (by decide) (lenOf pd_0 rfl) rfl (by first | decide | exact Nat.le_of_eq rfl) rfl at_28 rfl rfl ?_
    intro T113 h113 X113 qq113
    rw [show h113 = h112 from qq113] at X113
    refine own_bastore X113 (vs' := [(own_fb fill (0 : Int32)), (own_fb fill (1 : Int32)), (0 : Int32), (0 : Int32), (0 : Int32), (0 : Int32), (0 : Int32), (0 : Int32)]) (pc' := 32) A112 ge_ad110 rfl (own_fb_b _ _) rfl at_31 rfl ?_
    intro T114 h114 X114 A114 W114
    refine own_aload X114 (pc' := 34) at_32 rfl rfl rfl ?_
    refine own_iconst X114 (v := (2 : Int32)) (pc' := 35) at_34 rfl (by decide) ?_
    refine own_lloadN X114 (pc' := 36) at_35 rfl rfl ?_
    refine own_iconst X114 (v := (2 : Int32)) (pc' := 37) at_36 rfl (by decide) ?_
    refine own_callS X114 (W := 2) (argsL := [(.long fill), (.int (2 : Int32))]) (rest := [(.int (2 : Int32)), (.ref ad110)]) (S' := [(.int (own_fb fill (2 : Int32))), (.int (2 : Int32)), (.ref ad110)]) (pc' := 40) (rm1 l Z a0 hw n0 fill (2 : Int32) h114 X114.size) (hw _ (List.mem_of_getElem? (i := 2) rfl)) (hw _ (List.mem_of_getElem? (i := 3) rfl)) (hw _ (List.mem_of_getElem? (i := 4) rfl)) (hw _ (List.mem_of_getElem? (i := 5) rfl)) (by decide) (by decide) (by decide) rfl rfl (by decide) (by decide) (lenOf pd_0 rfl) rfl (by first | decide | exact Nat.le_of_eq rfl) rfl at_37 rfl rfl ?_
    intro T115 h115 X115 qq115
    rw [show h115 = h114 from qq115] at X115
    refine own_bastore X115 (vs' := [(own_fb fill (0 : Int32)), (own_fb fill (1 : Int32)), (own_fb fill (2 : Int32)), (0 : Int32), (0 : Int32), (0 : Int32), (0 : Int32), (0 : Int32)]) (pc' := 41) A114 ge_ad110 rfl (own_fb_b _ _) rfl at_40 rfl ?_
    intro T116 h116 X116 A116 W116
    refine own_aload X116 (pc' := 43) at_41 rfl rfl rfl ?_
    refine own_iconst X116 (v := (3 : Int32)) (pc' := 44) at_43 rfl (by decide) ?_
    refine own_lloadN X116 (pc' := 45) at_44 rfl rfl ?_
    refine own_iconst X116 (v := (3 : Int32)) (pc' := 46) at_45 rfl (by decide) ?_
    refine own_callS X116 (W := 2) (argsL := [(.long fill), (.int (3 : Int32))]) (rest := [(.int (3 : Int32)), (.ref ad110)]) (S' := [(.int (own_fb fill (3 : Int32))), (.int (3 : Int32)), (.ref ad110)]) (pc' := 49) (rm1 l Z a0 hw n0 fill (3 : Int32) h116 X116.size) (hw _ (List.mem_of_getElem? (i := 2) rfl)) (hw _ (List.mem_of_getElem? (i := 3) rfl)) (hw _ (List.mem_of_getElem? (i := 4) rfl)) (hw _ (List.mem_of_getElem? (i := 5) rfl)) (by decide) (by decide) (by decide) rfl rfl (by decide) (by decide) (lenOf pd_0 rfl) rfl (by first | decide | exact Nat.le_of_eq rfl) rfl at_46 rfl rfl ?_
    intro T117 h117 X117 qq117
    rw [show h117 = h116 from qq117] at X117
    refine own_bastore X117 (vs' := [(own_fb fill (0 : Int32)), (own_fb fill (1 : Int32)), (own_fb fill (2 : Int32)), (own_fb fill (3 : Int32)), (0 : Int32), (0 : Int32), (0 : Int32), (0 : Int32)]) (pc' := 50) A116 ge_ad110 rfl (own_fb_b _ _) rfl at_49 rfl ?_
    intro T118 h118 X118 A118 W118
    refine own_aload X118 (pc' := 52) at_50 rfl rfl rfl ?_
    refine own_iconst X118 (v := (4 : Int32)) (pc' := 53) at_52 rfl (by decide) ?_
    refine own_lloadN X118 (pc' := 54) at_53 rfl rfl ?_
    refine own_iconst X118 (v := (4 : Int32)) (pc' := 55) at_54 rfl (by decide) ?_
    refine own_callS X118 (W := 2) (argsL := [(.long fill), (.int (4 : Int32))]) (rest := [(.int (4 : Int32)), (.ref ad110)]) (S' := [(.int (own_fb fill (4 : Int32))), (.int (4 : Int32)), (.ref ad110)]) (pc' := 58) (rm1 l Z a0 hw n0 fill (4 : Int32) h118 X118.size) (hw _ (List.mem_of_getElem? (i := 2) rfl)) (hw _ (List.mem_of_getElem? (i := 3) rfl)) (hw _ (List.mem_of_getElem? (i := 4) rfl)) (hw _ (List.mem_of_getElem? (i := 5) rfl)) (by decide) (by decide) (by decide) rfl rfl (by decide) (by decide) (lenOf pd_0 rfl) rfl (by first | decide | exact Nat.le_of_eq rfl) rfl at_55 rfl rfl ?_
    intro T119 h119 X119 qq119
    rw [show h119 = h118 from qq119] at X119
    refine own_bastore X119 (vs' := [(own_fb fill (0 : Int32)), (own_fb fill (1 : Int32)), (own_fb fill (2 : Int32)), (own_fb fill (3 : Int32)), (own_fb fill (4 : Int32)), (0 : Int32), (0 : Int32), (0 : Int32)]) (pc' := 59) A118 ge_ad110 rfl (own_fb_b _ _) rfl at_58 rfl ?_
    intro T120 h120 X120 A120 W120
    refine own_aload X120 (pc' := 61) at_59 rfl rfl rfl ?_
    refine own_iconst X120 (v := (5 : Int32)) (pc' := 62) at_61 rfl (by decide) ?_
    refine own_lloadN X120 (pc' := 63) at_62 rfl rfl ?_
    refine own_iconst X120 (v := (5 : Int32)) (pc' := 64) at_63 rfl (by decide) ?_
    refine own_callS X120 (W := 2) (argsL := [(.long fill), (.int (5 : Int32))]) (rest := [(.int (5 : Int32)), (.ref ad110)]) (S' := [(.int (own_fb fill (5 : Int32))), (.int (5 : Int32)), (.ref ad110)]) (pc' := 67) (rm1 l Z a0 hw n0 fill (5 : Int32) h120 X120.size) (hw _ (List.mem_of_getElem? (i := 2) rfl)) (hw _ (List.mem_of_getElem? (i := 3) rfl)) (hw _ (List.mem_of_getElem? (i := 4) rfl)) (hw _ (List.mem_of_getElem? (i := 5) rfl)) (by decide) (by decide) (by decide) rfl rfl (by decide) (by decide) (lenOf pd_0 rfl) rfl (by first | decide | exact Nat.le_of_eq rfl) rfl at_64 rfl rfl ?_
    intro T121 h121 X121 qq121
    rw [show h121 = h120 from qq121] at X121
    refine own_bastore X121 (vs' := [(own_fb fill (0 : Int32)), (own_fb fill (1 : Int32)), (own_fb fill (2 : Int32)), (own_fb fill (3 : Int32)), (own_fb fill (4 : Int32)), (own_fb fill (5 : Int32)), (0 : Int32), (0 : Int32)]) (pc' := 68) A120 ge_ad110 rfl (own_fb_b _ _) rfl at_67 rfl ?_
    intro T122 h122 X122 A122 W122
    refine own_aload X122 (pc' := 70) at_68 rfl rfl rfl ?_
    refine own_bipush X122 (v := (6 : Int32)) (pc' := 72) at_70 rfl (by decide) ?_
    refine own_lloadN X122 (pc' := 73) at_72 rfl rfl ?_
    refine own_bipush X122 (v := (6 : Int32)) (pc' := 75) at_73 rfl (by decide) ?_
    refine own_callS X122 (W := 2) (argsL := [(.long fill), (.int (6 : Int32))]) (rest := [(.int (6 : Int32)), (.ref ad110)]) (S' := [(.int (own_fb fill (6 : Int32))), (.int (6 : Int32)), (.ref ad110)]) (pc' := 78) (rm1 l Z a0 hw n0 fill (6 : Int32) h122 X122.size) (hw _ (List.mem_of_getElem? (i := 2) rfl)) (hw _ (List.mem_of_getElem? (i := 3) rfl)) (hw _ (List.mem_of_getElem? (i := 4) rfl)) (hw _ (List.mem_of_getElem? (i := 5) rfl)) (by decide) (by decide) (by decide) rfl rfl (by decide) (by decide) (lenOf pd_0 rfl) rfl (by first | decide | exact Nat.le_of_eq rfl) rfl at_75 rfl rfl ?_
    intro T123 h123 X123 qq123
    rw [show h123 = h122 from qq123] at X123
    refine own_bastore X123 (vs' := [(own_fb fill (0 : Int32)), (own_fb fill (1 : Int32)), (own_fb fill (2 : Int32)), (own_fb fill (3 : Int32)), (own_fb fill (4 : Int32)), (own_fb fill (5 : Int32)), (own_fb fill (6 : Int32)), (0 : Int32)]) (pc' := 79) A122 ge_ad110 rfl (own_fb_b _ _) rfl at_78 rfl ?_
    intro T124 h124 X124 A124 W124
    refine own_aload X124 (pc' := 81) at_79 rfl rfl rfl ?_
    refine own_bipush X124 (v := (7 : Int32)) (pc' := 83) at_81 rfl (by decide) ?_
    refine own_lloadN X124 (pc' := 84) at_83 rfl rfl ?_
    refine own_bipush X124 (v := (7 : Int32)) (pc' := 86) at_84 rfl (by decide) ?_
    refine own_callS X124 (W := 2) (argsL := [(.long fill), (.int (7 : Int32))]) (rest := [(.int (7 : Int32)), (.ref ad110)]) (S' := [(.int (own_fb fill (7 : Int32))), (.int (7 : Int32)), (.ref ad110)]) (pc' := 89) (rm1 l Z a0 hw n0 fill (7 : Int32) h124 X124.size) (hw _ (List.mem_of_getElem? (i := 2) rfl)) (hw _ (List.mem_of_getElem? (i := 3) rfl)) (hw _ (List.mem_of_getElem? (i := 4) rfl)) (hw _ (List.mem_of_getElem? (i := 5) rfl)) (by decide) (by decide) (by decide) rfl rfl (by decide) (by decide) (lenOf pd_0 rfl) rfl (by first | decide | exact Nat.le_of_eq rfl) rfl at_86 rfl rfl ?_
    intro T125 h125 X125 qq125
    rw [show h125 = h124 from qq125] at X125
    refine own_bastore X125 (vs' := [(own_fb fill (0 : Int32)), (own_fb fill (1 : Int32)), (own_fb fill (2 : Int32)), (own_fb fill (3 : Int32)), (own_fb fill (4 : Int32)), (own_fb fill (5 : Int32)), (own_fb fill (6 : Int32)), (own_fb fill (7 : Int32))]) (pc' := 90) A124 ge_ad110 rfl (own_fb_b _ _) rfl at_89 rfl ?_
    intro T126 h126 X126 A126 W126
    refine own_aload X126 (pc' := 92) at_90 rfl rfl rfl ?_
    refine own_iload X126 (pc' := 94) at_92 rfl rfl ?_
    refine own_iloadN X126 (pc' := 95) at_94 rfl rfl ?_
    refine own_callS X126 (W := 0) (argsL := [(.ref ad110), (.int (4 : Int32)), (.int value)]) (rest := []) (S' := []) (pc' := 98) (rm2 l Z a0 hw n0 ad110 (4 : Int32) value h126 X126.size _ A126 ge_ad110 rfl rfl rfl rfl) (hw _ (List.mem_of_getElem? (i := 7) rfl)) (hw _ (List.mem_of_getElem? (i := 8) rfl)) (hw _ (List.mem_of_getElem? (i := 9) rfl)) (hw _ (List.mem_of_getElem? (i := 10) rfl)) (by decide) (by decide) (by decide) rfl rfl (by decide) (by decide) (lenOf pd_1 rfl) rfl (by first | decide | exact Nat.le_of_eq rfl) rfl at_95 rfl rfl ?_
    intro T127 h127 X127 qq127
    obtain ⟨A128, K128⟩ := qq127
    replace A128 : own_A Z h127 ad110 .byte [(own_fb fill (0 : Int32)), (own_fb fill (1 : Int32)), (own_fb fill (2 : Int32)), (own_fb fill (3 : Int32)), (((value.toUInt32 >>> ((24 : Int32) &&& 31).toUInt32).toInt32).toInt8.toInt32), (((value.toUInt32 >>> ((16 : Int32) &&& 31).toUInt32).toInt32).toInt8.toInt32), (((value.toUInt32 >>> ((8 : Int32) &&& 31).toUInt32).toInt32).toInt8.toInt32), (value.toInt8.toInt32)] := A128
    refine own_aload X127 (pc' := 100) at_98 rfl rfl rfl ?_
    refine own_iconst X127 (v := (0 : Int32)) (pc' := 101) at_100 rfl (by decide) ?_
    refine own_iload X127 (pc' := 103) at_101 rfl rfl ?_
    refine own_iloadN X127 (pc' := 104) at_103 rfl rfl ?_
    refine own_lloadN X127 (pc' := 105) at_104 rfl rfl ?_
    refine own_callS X127 (W := 0) (argsL := [(.ref ad110), (.int (0 : Int32)), (.int (4 : Int32)), (.int value), (.long fill)]) (rest := []) (S' := [(.int (1 : Int32))]) (pc' := 108) (rm3A l Z a0 hw n0 ad110 (0 : Int32) (4 : Int32) value fill h127 X127.size _ A128 (own_fb fill (0 : Int32)) rfl rfl (by decide) (own_fb_m _ _)) (hw _ (List.mem_of_getElem? (i := 11) rfl)) (hw _ (List.mem_of_getElem? (i := 12) rfl)) (hw _ (List.mem_of_getElem? (i := 4) rfl)) (hw _ (List.mem_of_getElem? (i := 13) rfl)) (by decide) (by decide) (by decide) rfl rfl (by decide) (by decide) (lenOf pd_2 rfl) rfl (by first | decide | exact Nat.le_of_eq rfl) rfl at_105 rfl rfl ?_
    intro T129 h129 X129 qq129
    rw [show h129 = h127 from qq129] at X129
    refine own_if_eq X129 (pct := 208) (pc' := 111) at_108 rfl (by decide) (by decide) (fun hc => absurd hc (by decide)) (fun _ => ?_)
    refine own_aload X129 (pc' := 113) at_111 rfl rfl rfl ?_
    refine own_iconst X129 (v := (1 : Int32)) (pc' := 114) at_113 rfl (by decide) ?_
    refine own_iload X129 (pc' := 116) at_114 rfl rfl ?_
    refine own_iloadN X129 (pc' := 117) at_116 rfl rfl ?_
    refine own_lloadN X129 (pc' := 118) at_117 rfl rfl ?_
    refine own_callS X129 (W := 0) (argsL := [(.ref ad110), (.int (1 : Int32)), (.int (4 : Int32)), (.int value), (.long fill)]) (rest := []) (S' := [(.int (1 : Int32))]) (pc' := 121) (rm3A l Z a0 hw n0 ad110 (1 : Int32) (4 : Int32) value fill h127 X129.size _ A128 (own_fb fill (1 : Int32)) rfl rfl (by decide) (own_fb_m _ _)) (hw _ (List.mem_of_getElem? (i := 11) rfl)) (hw _ (List.mem_of_getElem? (i := 12) rfl)) (hw _ (List.mem_of_getElem? (i := 4) rfl)) (hw _ (List.mem_of_getElem? (i := 13) rfl)) (by decide) (by decide) (by decide) rfl rfl (by decide) (by decide) (lenOf pd_2 rfl) rfl (by first | decide | exact Nat.le_of_eq rfl) rfl at_118 rfl rfl ?_
    intro T130 h130 X130 qq130
    rw [show h130 = h127 from qq130] at X130
    refine own_if_eq X130 (pct := 208) (pc' := 124) at_121 rfl (by decide) (by decide) (fun hc => absurd hc (by decide)) (fun _ => ?_)
    refine own_aload X130 (pc' := 126) at_124 rfl rfl rfl ?_
    refine own_iconst X130 (v := (2 : Int32)) (pc' := 127) at_126 rfl (by decide) ?_
    refine own_iload X130 (pc' := 129) at_127 rfl rfl ?_
    refine own_iloadN X130 (pc' := 130) at_129 rfl rfl ?_
    refine own_lloadN X130 (pc' := 131) at_130 rfl rfl ?_
    refine own_callS X130 (W := 0) (argsL := [(.ref ad110), (.int (2 : Int32)), (.int (4 : Int32)), (.int value), (.long fill)]) (rest := []) (S' := [(.int (1 : Int32))]) (pc' := 134) (rm3A l Z a0 hw n0 ad110 (2 : Int32) (4 : Int32) value fill h127 X130.size _ A128 (own_fb fill (2 : Int32)) rfl rfl (by decide) (own_fb_m _ _)) (hw _ (List.mem_of_getElem? (i := 11) rfl)) (hw _ (List.mem_of_getElem? (i := 12) rfl)) (hw _ (List.mem_of_getElem? (i := 4) rfl)) (hw _ (List.mem_of_getElem? (i := 13) rfl)) (by decide) (by decide) (by decide) rfl rfl (by decide) (by decide) (lenOf pd_2 rfl) rfl (by first | decide | exact Nat.le_of_eq rfl) rfl at_131 rfl rfl ?_
    intro T131 h131 X131 qq131
    rw [show h131 = h127 from qq131] at X131
    refine own_if_eq X131 (pct := 208) (pc' := 137) at_134 rfl (by decide) (by decide) (fun hc => absurd hc (by decide)) (fun _ => ?_)
    refine own_aload X131 (pc' := 139) at_137 rfl rfl rfl ?_
    refine own_iconst X131 (v := (3 : Int32)) (pc' := 140) at_139 rfl (by decide) ?_
    refine own_iload X131 (pc' := 142) at_140 rfl rfl ?_
    refine own_iloadN X131 (pc' := 143) at_142 rfl rfl ?_
    refine own_lloadN X131 (pc' := 144) at_143 rfl rfl ?_
    refine own_callS X131 (W := 0) (argsL := [(.ref ad110), (.int (3 : Int32)), (.int (4 : Int32)), (.int value), (.long fill)]) (rest := []) (S' := [(.int (1 : Int32))]) (pc' := 147) (rm3A l Z a0 hw n0 ad110 (3 : Int32) (4 : Int32) value fill h127 X131.size _ A128 (own_fb fill (3 : Int32)) rfl rfl (by decide) (own_fb_m _ _)) (hw _ (List.mem_of_getElem? (i := 11) rfl)) (hw _ (List.mem_of_getElem? (i := 12) rfl)) (hw _ (List.mem_of_getElem? (i := 4) rfl)) (hw _ (List.mem_of_getElem? (i := 13) rfl)) (by decide) (by decide) (by decide) rfl rfl (by decide) (by decide) (lenOf pd_2 rfl) rfl (by first | decide | exact Nat.le_of_eq rfl) rfl at_144 rfl rfl ?_
    intro T132 h132 X132 qq132
    rw [show h132 = h127 from qq132] at X132
    refine own_if_eq X132 (pct := 208) (pc' := 150) at_147 rfl (by decide) (by decide) (fun hc => absurd hc (by decide)) (fun _ => ?_)
    refine own_aload X132 (pc' := 152) at_150 rfl rfl rfl ?_
    refine own_iconst X132 (v := (4 : Int32)) (pc' := 153) at_152 rfl (by decide) ?_
    refine own_iload X132 (pc' := 155) at_153 rfl rfl ?_
    refine own_iloadN X132 (pc' := 156) at_155 rfl rfl ?_
    refine own_lloadN X132 (pc' := 157) at_156 rfl rfl ?_
    refine own_callS X132 (W := 0) (argsL := [(.ref ad110), (.int (4 : Int32)), (.int (4 : Int32)), (.int value), (.long fill)]) (rest := []) (S' := [(.int (1 : Int32))]) (pc' := 160) (rm3_0 l Z a0 hw n0 ad110 (4 : Int32) (4 : Int32) value fill h127 X132.size _ A128 (((value.toUInt32 >>> ((24 : Int32) &&& 31).toUInt32).toInt32).toInt8.toInt32) rfl rfl (by decide) (own_p0 _)) (hw _ (List.mem_of_getElem? (i := 11) rfl)) (hw _ (List.mem_of_getElem? (i := 12) rfl)) (hw _ (List.mem_of_getElem? (i := 4) rfl)) (hw _ (List.mem_of_getElem? (i := 13) rfl)) (by decide) (by decide) (by decide) rfl rfl (by decide) (by decide) (lenOf pd_2 rfl) rfl (by first | decide | exact Nat.le_of_eq rfl) rfl at_157 rfl rfl ?_
    intro T133 h133 X133 qq133
    rw [show h133 = h127 from qq133] at X133
    refine own_if_eq X133 (pct := 208) (pc' := 163) at_160 rfl (by decide) (by decide) (fun hc => absurd hc (by decide)) (fun _ => ?_)
    refine own_aload X133 (pc' := 165) at_163 rfl rfl rfl ?_
    refine own_iconst X133 (v := (5 : Int32)) (pc' := 166) at_165 rfl (by decide) ?_
    refine own_iload X133 (pc' := 168) at_166 rfl rfl ?_
    refine own_iloadN X133 (pc' := 169) at_168 rfl rfl ?_
    refine own_lloadN X133 (pc' := 170) at_169 rfl rfl ?_
    refine own_callS X133 (W := 0) (argsL := [(.ref ad110), (.int (5 : Int32)), (.int (4 : Int32)), (.int value), (.long fill)]) (rest := []) (S' := [(.int (1 : Int32))]) (pc' := 173) (rm3_1 l Z a0 hw n0 ad110 (5 : Int32) (4 : Int32) value fill h127 X133.size _ A128 (((value.toUInt32 >>> ((16 : Int32) &&& 31).toUInt32).toInt32).toInt8.toInt32) rfl rfl (by decide) (own_p1 _)) (hw _ (List.mem_of_getElem? (i := 11) rfl)) (hw _ (List.mem_of_getElem? (i := 12) rfl)) (hw _ (List.mem_of_getElem? (i := 4) rfl)) (hw _ (List.mem_of_getElem? (i := 13) rfl)) (by decide) (by decide) (by decide) rfl rfl (by decide) (by decide) (lenOf pd_2 rfl) rfl (by first | decide | exact Nat.le_of_eq rfl) rfl at_170 rfl rfl ?_
    intro T134 h134 X134 qq134
    rw [show h134 = h127 from qq134] at X134
    refine own_if_eq X134 (pct := 208) (pc' := 176) at_173 rfl (by decide) (by decide) (fun hc => absurd hc (by decide)) (fun _ => ?_)
    refine own_aload X134 (pc' := 178) at_176 rfl rfl rfl ?_
    refine own_bipush X134 (v := (6 : Int32)) (pc' := 180) at_178 rfl (by decide) ?_
    refine own_iload X134 (pc' := 182) at_180 rfl rfl ?_
    refine own_iloadN X134 (pc' := 183) at_182 rfl rfl ?_
    refine own_lloadN X134 (pc' := 184) at_183 rfl rfl ?_
    refine own_callS X134 (W := 0) (argsL := [(.ref ad110), (.int (6 : Int32)), (.int (4 : Int32)), (.int value), (.long fill)]) (rest := []) (S' := [(.int (1 : Int32))]) (pc' := 187) (rm3_2 l Z a0 hw n0 ad110 (6 : Int32) (4 : Int32) value fill h127 X134.size _ A128 (((value.toUInt32 >>> ((8 : Int32) &&& 31).toUInt32).toInt32).toInt8.toInt32) rfl rfl (by decide) (own_p2 _)) (hw _ (List.mem_of_getElem? (i := 11) rfl)) (hw _ (List.mem_of_getElem? (i := 12) rfl)) (hw _ (List.mem_of_getElem? (i := 4) rfl)) (hw _ (List.mem_of_getElem? (i := 13) rfl)) (by decide) (by decide) (by decide) rfl rfl (by decide) (by decide) (lenOf pd_2 rfl) rfl (by first | decide | exact Nat.le_of_eq rfl) rfl at_184 rfl rfl ?_
    intro T135 h135 X135 qq135
    rw [show h135 = h127 from qq135] at X135
    refine own_if_eq X135 (pct := 208) (pc' := 190) at_187 rfl (by decide) (by decide) (fun hc => absurd hc (by decide)) (fun _ => ?_)
    refine own_aload X135 (pc' := 192) at_190 rfl rfl rfl ?_
    refine own_bipush X135 (v := (7 : Int32)) (pc' := 194) at_192 rfl (by decide) ?_
    refine own_iload X135 (pc' := 196) at_194 rfl rfl ?_
    refine own_iloadN X135 (pc' := 197) at_196 rfl rfl ?_
    refine own_lloadN X135 (pc' := 198) at_197 rfl rfl ?_
    refine own_callS X135 (W := 0) (argsL := [(.ref ad110), (.int (7 : Int32)), (.int (4 : Int32)), (.int value), (.long fill)]) (rest := []) (S' := [(.int (1 : Int32))]) (pc' := 201) (rm3_3 l Z a0 hw n0 ad110 (7 : Int32) (4 : Int32) value fill h127 X135.size _ A128 (value.toInt8.toInt32) rfl rfl (by decide) (own_p3 _)) (hw _ (List.mem_of_getElem? (i := 11) rfl)) (hw _ (List.mem_of_getElem? (i := 12) rfl)) (hw _ (List.mem_of_getElem? (i := 4) rfl)) (hw _ (List.mem_of_getElem? (i := 13) rfl)) (by decide) (by decide) (by decide) rfl rfl (by decide) (by decide) (lenOf pd_2 rfl) rfl (by first | decide | exact Nat.le_of_eq rfl) rfl at_198 rfl rfl ?_
    intro T136 h136 X136 qq136
    rw [show h136 = h127 from qq136] at X136
    refine own_if_eq X136 (pct := 208) (pc' := 204) at_201 rfl (by decide) (by decide) (fun hc => absurd hc (by decide)) (fun _ => ?_)
    refine own_iconst X136 (v := (1 : Int32)) (pc' := 205) at_204 rfl (by decide) ?_
    refine own_goto X136 (pc' := 209) at_205 (by decide) (by decide) ?_
    subst hΦ
    exact own_retZ X136 at_209 (by decide) (by decide) (by decide) rfl trivial
set_option maxRecDepth 65536 in
set_option maxHeartbeats 4000000 in
theorem comes_1 {Post : Tables → Env → Array Value → State → Outcome → State → Prop} (hpost : ∀ tb e args s v u, (limb_1_1.after args s (.returned v) u = true ∧ limb_1_2.after args s (.returned v) u = true ∧ True) → FrameEnd s (.returned v) u (Jvm.fieldLocs frame_1_writes args s ++ Jvm.arrayLocs frame_1_arrays args s ++ Jvm.staticLocs frame_1_statics s) 16 128 → Post tb e args s (.returned v) u) :
    ArmFor flags0 classFile x code maxLocals ret World_1 tables_1 room_1 Calls_1 rest_1 Pre_1 Post := by
  intro l hfl _ _ p e ha hc hk s m args below hf hA hF happ hP
  obtain ⟨hcalls, hrest, hpre⟩ := hP
  obtain ⟨-, -, -, hnamed, -, -, -, hat⟩ := (Spec.applies_iff hf).mp happ
  obtain ⟨hg, hn⟩ := and_e (Cond.before_iff.mp (show (Jvm.Cond.and given_1 narrow_1).before args s = true from hpre))
  obtain ⟨hcnt, r0⟩ := and_e hg
  obtain ⟨k0, r1⟩ := and_e r0
  obtain ⟨k1, r2⟩ := and_e r1
  obtain ⟨w0, w1, w2, rfl⟩ : ∃ w0 w1 w2 : Value, args = #[w0, w1, w2] := by
    have hs : args.size = 3 := by simpa [Cond.value, given_1] using hcnt
    obtain ⟨L⟩ := args
    match L, hs with
    | [w0, w1, w2], _ => exact ⟨w0, w1, w2, rfl⟩
  have hw := fun d (hd : d ∈ tables_1) => atoms_spec (ws := Jvm.Cond.code x code maxLocals ret :: tables_1) hat d (List.mem_cons_of_mem _ hd)
  obtain ⟨i0, ei0⟩ := is_v k0
  obtain rfl : w0 = (.int i0) := Option.some.inj ei0
  obtain ⟨i1, ei1⟩ := is_v k1
  obtain rfl : w1 = (.int i1) := Option.some.inj ei1
  obtain ⟨i2, ei2⟩ := isL_v r2
  obtain rfl : w2 = (.long i2) := Option.some.inj ei2
  obtain ⟨n, o, h1, h2, h3, _, L, rfl, ⟨⟨rfl, -⟩, N⟩, hq⟩ := rm0 l s _ hw s.heap.size i0 i1 i2 s.heap (Nat.le_refl _) tables_1 p e ha hc hk s m _ below hf ((Spec.applies_iff_loose hf).mp happ).1 ⟨rfl, State.Warmed39.refl s, rfl⟩ trivial
  refine ⟨n, _, h1, h2, h3, hpost _ _ _ _ _ _ ⟨Cond.after_iff.mpr rfl, Cond.after_iff.mpr (eq_i res_at (Term.int_eval (1)) rfl), trivial⟩ ⟨hq.1, hq.2.1, (hq.2.2.sift fun y hy => Or.inr (N y hy)).mono (by decide) (by decide)⟩⟩
theorem main_1_1 : Claimed_1_1 := comes_1 fun _ _ _ _ _ _ h hF => ⟨h.1, hF⟩
theorem main_1_2 : Claimed_1_2 := comes_1 fun _ _ _ _ _ _ h hF => ⟨h.2.1, hF⟩
end Jvm.Pilot.@@N@@
namespace Jvm.Pilot.@@N@@
open Jvm Jvm.ClassFile Sem Op Lib Jvm.Free Jvm.Stand Jvm.Pilot.@@N@@.Jvm.D
/-! MADE BY PROGRAM (witnessworld.py) out of the Statement's table words and the real class files: 9 classes; the members and pool entries that the words name. The judged class is class 1, her method 3. -/
namespace start1
open Jvm.ClassFile
def u (s : String) : CpInfo := .utf8 (stringToUtf16 s)
/-- a pool by its gaps: so many unusable entries, then the entry; so many at the end -/
def gap : Nat → List CpInfo → List CpInfo
  | 0, r => r
  | n + 1, r => .unusable :: gap n r
def poolList (es : List (Nat × CpInfo)) (last : Nat) : List CpInfo := es.foldr (fun e r => gap e.1 (e.2 :: r)) (gap last [])
def pool (es : List (Nat × CpInfo)) (last : Nat) : Array CpInfo := ⟨poolList es last⟩
def fileOf (pool : Array CpInfo) (this : Nat) (attrs : Array Attribute := #[]) (ms : Array MethodInfo := #[]) (fl : Nat := 33) (sup : Nat := 0) (ifs : Array Nat := #[]) (fds : Array FieldInfo := #[]) : ClassFile where
  minorVersion := 0
  majorVersion := 65
  constantPool := pool
  accessFlags := fl
  thisClass := this
  superClass := sup
  interfaces := ifs
  fields := fds
  methods := ms
  attributes := attrs
def plain (name : String) (sup : Option ClassId) : Class where
  name := name
  kind := .ordinary
  loader := none
  accessFlags := 33
  super := sup
  interfaces := #[]
  cf := none
  fields := #[]
  methods := #[]
  instanceTypes := #[]
  staticTypes := #[]
  resolved := #[]
  callSites := []
  init := .initialized
  statics := none
  mirror := none

def pool0 : Array CpInfo := pool [(5, u "<init>"), (0, u "()V"), (1, .class_ 10), (1, u "java/lang/Object")] 113

def k0m0 : Method := { name := "<init>", desc := "()V", sig := { parameters := [], returnType := none }, accessFlags := 1, code := none }
/-- java/lang/Object -/
def k0 : Class := { plain "java/lang/Object" none with
  accessFlags := 33
  interfaces := #[]
  cf := some (fileOf pool0 8 #[] #[{ accessFlags := 1, nameIndex := 5, descriptorIndex := 6, attributes := #[] }] 33 0 #[] #[])
  fields := #[]
  methods := #[k0m0]
  instanceTypes := #[]
  staticTypes := #[]
  resolved := Array.replicate 124 none
  statics := none }

def pool1 : Array CpInfo := pool [(2, .class_ 4), (1, u "java/lang/Object"), (0, u "<init>"), (0, u "()V"), (0, .long 255), (1, .long 4294967295), (1, .long 16777216), (1, .long 65536), (1, .long 256), (1, .integer 2147483647), (0, .methodref 19 20), (0, .class_ 21), (0, .nameAndType 22 23), (0, u "com/example/sheath/sheath/EspPutIntPinLaw"), (0, u "fillByte"), (0, u "(JI)B"), (0, .methodref 25 26), (0, .class_ 27), (0, .nameAndType 28 29), (0, u "com/example/sheath/sheath/Esp"), (0, u "putInt"), (0, u "([BII)V"), (0, .methodref 19 31), (0, .nameAndType 32 33), (0, u "ok"), (0, u "([BIIIJ)Z"), (3, u "law"), (0, u "(IIJ)Z")] 4

def k1m0 : Method := { name := "<init>", desc := "()V", sig := { parameters := [], returnType := none }, accessFlags := 2, code := none }
def k1c1 : Code := { maxStack := 4, maxLocals := 3, code := method_2_code, exceptionTable := #[], attributes := #[] }
def k1m1 : Method := { name := "fillByte", desc := "(JI)B", sig := { parameters := [.long, .int], returnType := some .byte }, accessFlags := 10, code := some k1c1 }
def k1c2 : Code := { maxStack := 5, maxLocals := 12, code := method_3_code, exceptionTable := #[], attributes := #[] }
def k1m2 : Method := { name := "ok", desc := "([BIIIJ)Z", sig := { parameters := [(.array .byte), .int, .int, .int, .long], returnType := some .boolean }, accessFlags := 10, code := some k1c2 }
def k1c3 : Code := { maxStack := 6, maxLocals := 6, code := code, exceptionTable := #[], attributes := #[] }
def k1m3 : Method := { name := "law", desc := "(IIJ)Z", sig := { parameters := [.int, .int, .long], returnType := some .boolean }, accessFlags := 9, code := some k1c3 }
/-- com/example/sheath/sheath/EspPutIntPinLaw -/
def k1 : Class := { plain "com/example/sheath/sheath/EspPutIntPinLaw" (some 0) with
  accessFlags := 49
  interfaces := #[]
  cf := some (fileOf pool1 19 #[] #[{ accessFlags := 2, nameIndex := 5, descriptorIndex := 6, attributes := #[] }, { accessFlags := 10, nameIndex := 22, descriptorIndex := 23, attributes := #[] }, { accessFlags := 10, nameIndex := 32, descriptorIndex := 33, attributes := #[] }, { accessFlags := 9, nameIndex := 37, descriptorIndex := 38, attributes := #[] }] 49 2 #[] #[])
  fields := #[]
  methods := #[k1m0, k1m1, k1m2, k1m3]
  instanceTypes := #[]
  staticTypes := #[]
  resolved := Array.replicate 43 none
  statics := none }

def pool2 : Array CpInfo := pool [(4, .class_ 6), (1, u "java/lang/Object"), (0, u "<init>"), (0, u "()V"), (0, .class_ 10), (0, u "com/example/sheath/sheath/Esp"), (0, u "PROTOCOL"), (0, u "I"), (2, u "HEADER_LENGTH"), (1, u "TRAILER_LENGTH"), (1, u "MAX_DATAGRAM_LENGTH"), (1, u "UDP_HEADER_LENGTH"), (0, u "HOP_LIMIT"), (1, u "MAX_SEQUENCE"), (0, u "J"), (4, u "putInt"), (0, u "([BII)V")] 4

def k2m0 : Method := { name := "<init>", desc := "()V", sig := { parameters := [], returnType := none }, accessFlags := 2, code := none }
def k2c1 : Code := { maxStack := 4, maxLocals := 3, code := prog_2_method_2_code, exceptionTable := #[], attributes := #[] }
def k2m1 : Method := { name := "putInt", desc := "([BII)V", sig := { parameters := [(.array .byte), .int, .int], returnType := none }, accessFlags := 8, code := some k2c1 }
/-- com/example/sheath/sheath/Esp -/
def k2 : Class := { plain "com/example/sheath/sheath/Esp" (some 0) with
  accessFlags := 48
  interfaces := #[]
  cf := some (fileOf pool2 9 #[] #[{ accessFlags := 2, nameIndex := 7, descriptorIndex := 8, attributes := #[] }, { accessFlags := 8, nameIndex := 30, descriptorIndex := 31, attributes := #[] }] 48 4 #[] #[{ accessFlags := 24, nameIndex := 11, descriptorIndex := 12, attributes := #[] }, { accessFlags := 24, nameIndex := 15, descriptorIndex := 12, attributes := #[] }, { accessFlags := 24, nameIndex := 17, descriptorIndex := 12, attributes := #[] }, { accessFlags := 24, nameIndex := 19, descriptorIndex := 12, attributes := #[] }, { accessFlags := 24, nameIndex := 21, descriptorIndex := 12, attributes := #[] }, { accessFlags := 24, nameIndex := 22, descriptorIndex := 12, attributes := #[] }, { accessFlags := 24, nameIndex := 24, descriptorIndex := 25, attributes := #[] }])
  fields := #[{ name := "PROTOCOL", type := .int, accessFlags := 24, slot := 0, constantValue := 0 }, { name := "HEADER_LENGTH", type := .int, accessFlags := 24, slot := 1, constantValue := 0 }, { name := "TRAILER_LENGTH", type := .int, accessFlags := 24, slot := 2, constantValue := 0 }, { name := "MAX_DATAGRAM_LENGTH", type := .int, accessFlags := 24, slot := 3, constantValue := 0 }, { name := "UDP_HEADER_LENGTH", type := .int, accessFlags := 24, slot := 4, constantValue := 0 }, { name := "HOP_LIMIT", type := .int, accessFlags := 24, slot := 5, constantValue := 0 }, { name := "MAX_SEQUENCE", type := .long, accessFlags := 24, slot := 6, constantValue := 0 }]
  methods := #[k2m0, k2m1]
  instanceTypes := #[]
  staticTypes := #[.int, .int, .int, .int, .int, .int, .long]
  resolved := Array.replicate 36 none
  statics := none }

def pool3 : Array CpInfo := pool [(1, u "java/lang/Cloneable"), (0, .class_ 1), (0, u "java/lang/Object"), (0, .class_ 3)] 3

/-- java/lang/Cloneable -/
def k3 : Class := { plain "java/lang/Cloneable" (some 0) with
  accessFlags := 1537
  interfaces := #[]
  cf := some (fileOf pool3 2 #[] #[] 1537 4 #[] #[])
  fields := #[]
  methods := #[]
  instanceTypes := #[]
  staticTypes := #[]
  resolved := Array.replicate 8 none
  statics := none }

def pool4 : Array CpInfo := pool [(1, u "java/io/Serializable"), (0, .class_ 1), (0, u "java/lang/Object"), (0, .class_ 3)] 3

/-- java/io/Serializable -/
def k4 : Class := { plain "java/io/Serializable" (some 0) with
  accessFlags := 1537
  interfaces := #[]
  cf := some (fileOf pool4 2 #[] #[] 1537 4 #[] #[])
  fields := #[]
  methods := #[]
  instanceTypes := #[]
  staticTypes := #[]
  resolved := Array.replicate 8 none
  statics := none }

/-- the primitive byte -/
def k5 : Class := { plain "byte" none with kind := .primitive 'B', accessFlags := 0x411 }
/-- [B -/
def k6 : Class := { plain "[B" (some 0) with kind := .array 5 .byte, interfaces := #[3, 4], accessFlags := 1041 }

/-- the primitive int -/
def k7 : Class := { plain "int" none with kind := .primitive 'I', accessFlags := 0x411 }
/-- [I -/
def k8 : Class := { plain "[I" (some 0) with kind := .array 7 .int, interfaces := #[3, 4], accessFlags := 1041 }

def heap : Heap := #[]
def classes : Array Class := #[k0, k1, k2, k3, k4, k5, k6, k7, k8]
def interned : List (Array UInt16 × Addr) := []
def slotsUsed : Nat := 0
def theMethod : MethodId := ⟨1, 3⟩
def args0 : Array Value := #[.int 1, .int 2, .long 3]
def aboutOver (below : List Frame) : State where
  vm := { classes := classes, interned := interned.toArray }
  heap := heap
  slotsUsed := slotsUsed
  threads := #[{ frames := .invoking theMethod args0 :: below }]
def below0 : List Frame := [.native { method := ⟨0, 0⟩, args := #[] }]
def about1 : State := aboutOver below0
def p0 : Program := .bare "" "" ""
def e0 : Env := launch0.env 0 0 0
theorem w_frames : about1.frames = Frame.invoking theMethod args0 :: below0 := rfl
set_option maxRecDepth 65536 in
theorem w_args : argsFit about1.vm theMethod args0 = true := by decide +kernel
set_option maxRecDepth 65536 in
theorem w_heap : heapFits about1 = true := by decide +kernel
set_option maxRecDepth 65536 in
theorem w_runnable : about1.curStatus? = some .runnable := by decide +kernel
set_option maxRecDepth 65536 in
theorem w_alone : about1.alone = true := by decide +kernel
set_option maxRecDepth 65536 in
theorem w_named : about1.methodNamed? x = some theMethod := by decide +kernel
set_option maxRecDepth 65536 in
theorem w_hears : about1.hears theMethod below0 = true := by decide +kernel
set_option maxRecDepth 65536 in
theorem w_ripe : about1.ripe theMethod args0 below0 = true := by decide +kernel
theorem w_running : about1.status = .running := rfl
set_option maxRecDepth 65536 in
theorem w_room : about1.hasRoom e0.platform room_1 = true :=
  launch0.hasRoom_least _ room_1 (by decide +kernel) (by decide +kernel) (by decide +kernel) (by decide +kernel) (by decide +kernel) (by decide +kernel)
theorem allAtoms_all (ts : List Jvm.Cond) (a : Array Jvm.Value) (st : Jvm.State) : (allAtoms ts).before a st = ts.all (fun c => c.before a st) := by
  induction ts with
  | nil => rfl
  | cons c t ih =>
    show (Jvm.Cond.and c (allAtoms t)).before a st = _
    rw [Jvm.Cond.before_and, ih, List.all_cons]
def words1 : List Jvm.Cond := Jvm.Cond.code x code maxLocals ret :: tables_1
/-- a 'code' word, met by the world's own term for the bytes: nothing is compared byte by byte -/
theorem code_word {y : MethodName} {bytes : ByteArray} {mx : Nat} {rt : Option FieldType} {a : Array Value} {s : State} {m : MethodId} {meth : Method} {c : Code} (h1 : s.methodNamed? y = some m) (h2 : s.vm.method? m = some meth) (h3 : meth.code = some c) (h4 : c.code = bytes)
    (h5 : (c.maxLocals == mx && c.exceptionTable.isEmpty && decide (c.maxStack ≤ mostOperands) && decide (meth.sig.returnType = rt) && !meth.locks && decide (parseMethodDescriptor y.desc = some meth.sig)) = true) : (Jvm.Cond.code y bytes mx rt).before a s = true := by
  simp only [Bool.and_eq_true, beq_iff_eq, Bool.not_eq_true', decide_eq_true_eq] at h5
  obtain ⟨⟨⟨⟨⟨g1, g2⟩, g3⟩, g4⟩, g5⟩, g6⟩ := h5
  simp [Cond.before, Cond.holds, Cond.value, h1, h2, h3, h4, g1, g2, g3, g4, g5, g6]
def isCode : Jvm.Cond → Bool
  | .code _ _ _ _ => true
  | _ => false
theorem all_split {L : List Jvm.Cond} {P : Jvm.Cond → Bool} (h1 : L.all (fun c => isCode c || P c) = true) (h2 : ∀ c ∈ L.filter isCode, P c = true) : L.all P = true := by
  refine List.all_eq_true.mpr fun c hc => ?_
  have h := List.all_eq_true.mp h1 c hc
  rcases Bool.eq_false_or_eq_true (isCode c) with hi | hi
  · exact h2 c (List.mem_filter.mpr ⟨hc, hi⟩)
  · simpa [hi] using h
set_option maxRecDepth 65536 in
theorem w_c0 : (Jvm.Cond.code x code maxLocals ret).before args0 about1 = true := code_word (m := ⟨1, 3⟩) (meth := k1m3) (c := k1c3) (by decide +kernel) rfl rfl rfl (by decide +kernel)
set_option maxRecDepth 65536 in
theorem w_c1 : (Jvm.Cond.code ({ cls := "com/example/sheath/sheath/EspPutIntPinLaw", name := "fillByte", desc := "(JI)B" } : Jvm.MethodName) method_2_code (3 : Nat) (Option.some Jvm.ClassFile.FieldType.byte)).before args0 about1 = true := code_word (m := ⟨1, 1⟩) (meth := k1m1) (c := k1c1) (by decide +kernel) rfl rfl rfl (by decide +kernel)
set_option maxRecDepth 65536 in
theorem w_c2 : (Jvm.Cond.code ({ cls := "com/example/sheath/sheath/Esp", name := "putInt", desc := "([BII)V" } : Jvm.MethodName) prog_2_method_2_code (3 : Nat) (Option.none : Option Jvm.ClassFile.FieldType)).before args0 about1 = true := code_word (m := ⟨2, 1⟩) (meth := k2m1) (c := k2c1) (by decide +kernel) rfl rfl rfl (by decide +kernel)
set_option maxRecDepth 65536 in
theorem w_c3 : (Jvm.Cond.code ({ cls := "com/example/sheath/sheath/EspPutIntPinLaw", name := "ok", desc := "([BIIIJ)Z" } : Jvm.MethodName) method_3_code (12 : Nat) (Option.some Jvm.ClassFile.FieldType.boolean)).before args0 about1 = true := code_word (m := ⟨1, 2⟩) (meth := k1m2) (c := k1c2) (by decide +kernel) rfl rfl rfl (by decide +kernel)
def codes1 : List Jvm.Cond := [Jvm.Cond.code x code maxLocals ret, Jvm.Cond.code ({ cls := "com/example/sheath/sheath/EspPutIntPinLaw", name := "fillByte", desc := "(JI)B" } : Jvm.MethodName) method_2_code (3 : Nat) (Option.some Jvm.ClassFile.FieldType.byte), Jvm.Cond.code ({ cls := "com/example/sheath/sheath/Esp", name := "putInt", desc := "([BII)V" } : Jvm.MethodName) prog_2_method_2_code (3 : Nat) (Option.none : Option Jvm.ClassFile.FieldType), Jvm.Cond.code ({ cls := "com/example/sheath/sheath/EspPutIntPinLaw", name := "ok", desc := "([BIIIJ)Z" } : Jvm.MethodName) method_3_code (12 : Nat) (Option.some Jvm.ClassFile.FieldType.boolean)]
set_option maxRecDepth 65536 in
theorem codes_eq : words1.filter isCode = codes1 := rfl
theorem w_codes : ∀ c ∈ words1.filter isCode, c.before args0 about1 = true := by
  rw [codes_eq]
  intro c hc
  simp only [codes1, List.mem_cons, List.not_mem_nil, or_false] at hc
  rcases hc with rfl | rfl | rfl | rfl
  · exact w_c0
  · exact w_c1
  · exact w_c2
  · exact w_c3
set_option maxRecDepth 65536 in
theorem w_t1 : words1.all (fun c => isCode c || c.before args0 about1) = true := by decide +kernel
theorem w_tables : (allAtoms (Jvm.Cond.code x code maxLocals ret :: tables_1)).before args0 about1 = true := by
  rw [allAtoms_all]
  show words1.all (fun c => c.before args0 about1) = true
  refine all_split ?_ w_codes
  rw [w_t1]
set_option maxRecDepth 65536 in
theorem w_case : (Jvm.Cond.and given_1 narrow_1).before args0 about1 = true := by decide +kernel
theorem w_applies : (headSpec (Jvm.Cond.code x code maxLocals ret :: tables_1) room_1).applies x e0.platform about1 = true :=
  (Spec.applies_iff w_frames).mpr ⟨w_running, w_runnable, w_alone, w_named, w_hears, w_ripe, w_room, w_tables⟩
theorem atStart : AtStart classFile x code maxLocals ret World_1 tables_1 room_1 Calls_1 rest_1 Pre_1 launch0 p0 e0 about1 theMethod args0 below0 :=
  ⟨lists_1, trivial, launch0.admits_env _ _ _, launch0.least_env, fairChoices_fair.cas, fairChoices_fair.clock, w_frames, w_args, w_heap, w_applies, trivial, trivial, w_case⟩
end start1
theorem witness_1 : WitnessClaimed_1 := ⟨start1.p0, start1.e0, start1.about1, start1.theMethod, start1.args0, start1.below0, start1.atStart⟩
end Jvm.Pilot.@@N@@
