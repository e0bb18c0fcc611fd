import JvmDerived
import JvmDerived.Pilot.@@N@@Statement
import JvmDerived.Pilot.@@N@@Code
set_option linter.unusedVariables false
set_option linter.unusedSimpArgs false
namespace Jvm.Pilot.@@N@@
open Jvm Jvm.ClassFile Sem Op Lib Jvm.Free Jvm.Stand Jvm.LawKit Jvm.RoadKit Bundle Jvm.Pilot.@@N@@.Jvm.D
section OwnKit
def own_G (p : Program) (e : Env) (below : List Frame) (Φ : State → Outcome → Prop) (T : State) (f : JFrame) : Prop := ∃ s₂ o, Steps p.tables e below (T.setTop f) s₂ ∧ Φ s₂ o
def own_S (Z : State) (n0 : Nat) (bytes : ByteArray) (y : MethodName) (ml : Nat) (ret : Option FieldType) (p : Program) (l : Launch) (e : Env) (R : Room) (s : State) (m : MethodId) (args : Array Value) (below : List Frame) (meth : Method) (c : Code) (T : State) (k sl : Nat) (h : Heap) : Prop :=
  (∃ locs, Stand p l e R s m args below meth c T locs k sl ∧ Fr n0 locs) ∧ T.heap = h ∧ n0 ≤ s.heap.size ∧ p.tables.exec = Jvm.exec ∧ Z.Warmed39 s.vm ∧ c.code = bytes ∧ c.maxLocals = ml ∧ s.vm.findClass y.cls = some m.cls ∧ meth.name = y.name ∧ meth.sig.returnType = ret ∧ meth.locks = false
def own_Q (n0 : Nat) (below : List Frame) (s : State) (R : Room) (w : Option Value) (Θ : Heap → Prop) : State → Outcome → Prop := fun s₂ o => s₂.status = .running ∧ Ended s₂ below o ∧ ∃ v L, o = .returned v ∧ ((v = w ∧ Θ s₂.heap) ∧ Fr n0 L) ∧ FrameEnd s o s₂ L R.cells R.slots
def own_Met (l : Launch) (y : MethodName) (bytes : ByteArray) (ml : Nat) (ret : Option FieldType) (rm : Room) (Z : State) (n0 : Nat) (as : Array Value) (h0 : Heap) (w : Option Value) (Θ : Heap → Prop) : Prop :=
  ∀ ws, MetFree l y (head1 (Jvm.Cond.code y bytes ml ret :: ws) rm) (fun a U => a = as ∧ Z.Warmed39 U.vm ∧ U.heap = h0) (fun _ _ _ _ _ => True) (fun _ U o U' => ∃ v L, o = .returned v ∧ ((v = w ∧ Θ U'.heap) ∧ Fr n0 L) ∧ FrameEnd U o U' L rm.cells rm.slots)
theorem own_met {l : Launch} {y : MethodName} {bytes : ByteArray} {ml : Nat} {ret : Option FieldType} {rm : Room} {Z : State} {n0 : Nat} {as : Array Value} {h0 : Heap} {w : Option Value} {Θ : Heap → Prop} (hp : plainFor y = true) (hn0 : n0 ≤ h0.size)
    (body : ∀ p e s m below meth c T, own_S Z n0 bytes y ml ret p l e rm s m as below meth c T 0 0 h0 → own_G p e below (own_Q n0 below s rm w Θ) T (entryFrame m as ml)) : own_Met l y bytes ml ret rm Z n0 as h0 w Θ := by
  intro ws
  refine MetFree.of_bodySF hp hisR ?_
  intro p e s m args below meth c s₁ Bd hml0 hP hK
  obtain ⟨rfl, hZ, hh⟩ := hP
  obtain ⟨s₂, o, st, h1, h2, h3⟩ := body p e s m below meth c s₁ ⟨⟨[], Stand.of_body Bd, Fr.nil n0⟩, by rw [← hh, Bd.state]; rfl, by rw [hh]; exact hn0, Bd.exec, hZ, Bd.bytes, hml0, findClass_of_methodNamed Bd.named, (name_of_methodNamed Bd.named Bd.method).1, Bd.returns, BodyLoose.notSynchronized Bd⟩
  exact ⟨s₂, o, st, h1, h2, h3⟩
variable {Z : State} {n0 : Nat} {bytes : ByteArray} {y : MethodName} {ml : Nat} {ret : Option FieldType} {p : Program} {l : Launch} {e : Env} {R : Room} {s : State} {m : MethodId} {args : Array Value} {below : List Frame} {meth : Method} {c : Code} {T : State} {k sl : Nat} {h : Heap} {Φ : State → Outcome → Prop} {pc pc' : Nat} {Ls Ls' : Array Slot} {S : List Value} {a0 : Array Value}
theorem own_cast {f f' : JFrame} (q : f = f') (K : own_G p e below Φ T f') : own_G p e below Φ T f := q ▸ K
theorem own_by {T T' : State} {f f' : JFrame} (K : own_G p e below Φ T' f') (st : ∀ t, Steps p.tables e below (T'.setTop f') t → Steps p.tables e below (T.setTop f) t) : own_G p e below Φ T f := by
  obtain ⟨s₂, o, q, r⟩ := K
  exact ⟨s₂, o, st _ q, r⟩
theorem own_S.size (X : own_S Z n0 bytes y ml ret p l e R s m args below meth c T k sl h) : n0 ≤ h.size := by
  obtain ⟨⟨locs, Y, N⟩, hh, hn, hx, hZ, hby, hml, hown, hnm, hret, hlk⟩ := X
  subst hh
  exact Nat.le_trans hn Y.same.2.1
theorem own_iadd (X : own_S Z n0 bytes y ml ret p l e R s m args below meth c T k sl h) {a b r : Int32} (hd : decode bytes pc = .ok (.iadd, 1)) (hpc : pc + 1 = pc') (hr : a + b = r) (K : own_G p e below Φ T (mkF m pc' Ls (.int r :: S))) : own_G p e below Φ T (mkF m pc Ls (.int b :: .int a :: S)) := by
  obtain ⟨⟨locs, Y, N⟩, hh, hn, hx, hZ, hby, hml, hown, hnm, hret, hlk⟩ := X
  subst hpc
  exact own_by K fun t kk => XS.iadd Y.here hx rfl (hb hby hd) rfl (hr ▸ kk)
theorem own_ladd (X : own_S Z n0 bytes y ml ret p l e R s m args below meth c T k sl h) {a b r : Int64} (hd : decode bytes pc = .ok (.ladd, 1)) (hpc : pc + 1 = pc') (hr : a + b = r) (K : own_G p e below Φ T (mkF m pc' Ls (.long r :: S))) : own_G p e below Φ T (mkF m pc Ls (.long b :: .long a :: S)) := by
  obtain ⟨⟨locs, Y, N⟩, hh, hn, hx, hZ, hby, hml, hown, hnm, hret, hlk⟩ := X
  subst hpc
  exact own_by K fun t kk => XS.ladd Y.here hx rfl (hb hby hd) rfl (hr ▸ kk)
theorem own_isub (X : own_S Z n0 bytes y ml ret p l e R s m args below meth c T k sl h) {a b r : Int32} (hd : decode bytes pc = .ok (.isub, 1)) (hpc : pc + 1 = pc') (hr : a - b = r) (K : own_G p e below Φ T (mkF m pc' Ls (.int r :: S))) : own_G p e below Φ T (mkF m pc Ls (.int b :: .int a :: S)) := by
  obtain ⟨⟨locs, Y, N⟩, hh, hn, hx, hZ, hby, hml, hown, hnm, hret, hlk⟩ := X
  subst hpc
  exact own_by K fun t kk => XS.isub Y.here hx rfl (hb hby hd) rfl (hr ▸ kk)
theorem own_lsub (X : own_S Z n0 bytes y ml ret p l e R s m args below meth c T k sl h) {a b r : Int64} (hd : decode bytes pc = .ok (.lsub, 1)) (hpc : pc + 1 = pc') (hr : a - b = r) (K : own_G p e below Φ T (mkF m pc' Ls (.long r :: S))) : own_G p e below Φ T (mkF m pc Ls (.long b :: .long a :: S)) := by
  obtain ⟨⟨locs, Y, N⟩, hh, hn, hx, hZ, hby, hml, hown, hnm, hret, hlk⟩ := X
  subst hpc
  exact own_by K fun t kk => XS.lsub Y.here hx rfl (hb hby hd) rfl (hr ▸ kk)
theorem own_imul (X : own_S Z n0 bytes y ml ret p l e R s m args below meth c T k sl h) {a b r : Int32} (hd : decode bytes pc = .ok (.imul, 1)) (hpc : pc + 1 = pc') (hr : a * b = r) (K : own_G p e below Φ T (mkF m pc' Ls (.int r :: S))) : own_G p e below Φ T (mkF m pc Ls (.int b :: .int a :: S)) := by
  obtain ⟨⟨locs, Y, N⟩, hh, hn, hx, hZ, hby, hml, hown, hnm, hret, hlk⟩ := X
  subst hpc
  exact own_by K fun t kk => XS.imul Y.here hx rfl (hb hby hd) rfl (hr ▸ kk)
theorem own_lmul (X : own_S Z n0 bytes y ml ret p l e R s m args below meth c T k sl h) {a b r : Int64} (hd : decode bytes pc = .ok (.lmul, 1)) (hpc : pc + 1 = pc') (hr : a * b = r) (K : own_G p e below Φ T (mkF m pc' Ls (.long r :: S))) : own_G p e below Φ T (mkF m pc Ls (.long b :: .long a :: S)) := by
  obtain ⟨⟨locs, Y, N⟩, hh, hn, hx, hZ, hby, hml, hown, hnm, hret, hlk⟩ := X
  subst hpc
  exact own_by K fun t kk => XS.lmul Y.here hx rfl (hb hby hd) rfl (hr ▸ kk)
theorem own_iand (X : own_S Z n0 bytes y ml ret p l e R s m args below meth c T k sl h) {a b r : Int32} (hd : decode bytes pc = .ok (.iand, 1)) (hpc : pc + 1 = pc') (hr : a &&& b = r) (K : own_G p e below Φ T (mkF m pc' Ls (.int r :: S))) : own_G p e below Φ T (mkF m pc Ls (.int b :: .int a :: S)) := by
  obtain ⟨⟨locs, Y, N⟩, hh, hn, hx, hZ, hby, hml, hown, hnm, hret, hlk⟩ := X
  subst hpc
  exact own_by K fun t kk => XS.iand Y.here hx rfl (hb hby hd) rfl (hr ▸ kk)
theorem own_land (X : own_S Z n0 bytes y ml ret p l e R s m args below meth c T k sl h) {a b r : Int64} (hd : decode bytes pc = .ok (.land, 1)) (hpc : pc + 1 = pc') (hr : a &&& b = r) (K : own_G p e below Φ T (mkF m pc' Ls (.long r :: S))) : own_G p e below Φ T (mkF m pc Ls (.long b :: .long a :: S)) := by
  obtain ⟨⟨locs, Y, N⟩, hh, hn, hx, hZ, hby, hml, hown, hnm, hret, hlk⟩ := X
  subst hpc
  exact own_by K fun t kk => XS.land Y.here hx rfl (hb hby hd) rfl (hr ▸ kk)
theorem own_ior (X : own_S Z n0 bytes y ml ret p l e R s m args below meth c T k sl h) {a b r : Int32} (hd : decode bytes pc = .ok (.ior, 1)) (hpc : pc + 1 = pc') (hr : a ||| b = r) (K : own_G p e below Φ T (mkF m pc' Ls (.int r :: S))) : own_G p e below Φ T (mkF m pc Ls (.int b :: .int a :: S)) := by
  obtain ⟨⟨locs, Y, N⟩, hh, hn, hx, hZ, hby, hml, hown, hnm, hret, hlk⟩ := X
  subst hpc
  exact own_by K fun t kk => XS.ior Y.here hx rfl (hb hby hd) rfl (hr ▸ kk)
theorem own_lor (X : own_S Z n0 bytes y ml ret p l e R s m args below meth c T k sl h) {a b r : Int64} (hd : decode bytes pc = .ok (.lor, 1)) (hpc : pc + 1 = pc') (hr : a ||| b = r) (K : own_G p e below Φ T (mkF m pc' Ls (.long r :: S))) : own_G p e below Φ T (mkF m pc Ls (.long b :: .long a :: S)) := by
  obtain ⟨⟨locs, Y, N⟩, hh, hn, hx, hZ, hby, hml, hown, hnm, hret, hlk⟩ := X
  subst hpc
  exact own_by K fun t kk => XS.lor Y.here hx rfl (hb hby hd) rfl (hr ▸ kk)
theorem own_ixor (X : own_S Z n0 bytes y ml ret p l e R s m args below meth c T k sl h) {a b r : Int32} (hd : decode bytes pc = .ok (.ixor, 1)) (hpc : pc + 1 = pc') (hr : a ^^^ b = r) (K : own_G p e below Φ T (mkF m pc' Ls (.int r :: S))) : own_G p e below Φ T (mkF m pc Ls (.int b :: .int a :: S)) := by
  obtain ⟨⟨locs, Y, N⟩, hh, hn, hx, hZ, hby, hml, hown, hnm, hret, hlk⟩ := X
  subst hpc
  exact own_by K fun t kk => XS.ixor Y.here hx rfl (hb hby hd) rfl (hr ▸ kk)
theorem own_lxor (X : own_S Z n0 bytes y ml ret p l e R s m args below meth c T k sl h) {a b r : Int64} (hd : decode bytes pc = .ok (.lxor, 1)) (hpc : pc + 1 = pc') (hr : a ^^^ b = r) (K : own_G p e below Φ T (mkF m pc' Ls (.long r :: S))) : own_G p e below Φ T (mkF m pc Ls (.long b :: .long a :: S)) := by
  obtain ⟨⟨locs, Y, N⟩, hh, hn, hx, hZ, hby, hml, hown, hnm, hret, hlk⟩ := X
  subst hpc
  exact own_by K fun t kk => XS.lxor Y.here hx rfl (hb hby hd) rfl (hr ▸ kk)
theorem own_ishl (X : own_S Z n0 bytes y ml ret p l e R s m args below meth c T k sl h) {a r : Int32} {b : Int32} (hd : decode bytes pc = .ok (.ishl, 1)) (hpc : pc + 1 = pc') (hr : (a <<< (b &&& 31)) = r) (K : own_G p e below Φ T (mkF m pc' Ls (.int r :: S))) : own_G p e below Φ T (mkF m pc Ls (.int b :: .int a :: S)) := by
  obtain ⟨⟨locs, Y, N⟩, hh, hn, hx, hZ, hby, hml, hown, hnm, hret, hlk⟩ := X
  subst hpc
  exact own_by K fun t kk => XS.ishl Y.here hx rfl (hb hby hd) rfl (hr ▸ kk)
theorem own_ishr (X : own_S Z n0 bytes y ml ret p l e R s m args below meth c T k sl h) {a r : Int32} {b : Int32} (hd : decode bytes pc = .ok (.ishr, 1)) (hpc : pc + 1 = pc') (hr : (a >>> (b &&& 31)) = r) (K : own_G p e below Φ T (mkF m pc' Ls (.int r :: S))) : own_G p e below Φ T (mkF m pc Ls (.int b :: .int a :: S)) := by
  obtain ⟨⟨locs, Y, N⟩, hh, hn, hx, hZ, hby, hml, hown, hnm, hret, hlk⟩ := X
  subst hpc
  exact own_by K fun t kk => XS.ishr Y.here hx rfl (hb hby hd) rfl (hr ▸ kk)
theorem own_iushr (X : own_S Z n0 bytes y ml ret p l e R s m args below meth c T k sl h) {a r : Int32} {b : Int32} (hd : decode bytes pc = .ok (.iushr, 1)) (hpc : pc + 1 = pc') (hr : ((a.toUInt32 >>> (b &&& 31).toUInt32).toInt32) = r) (K : own_G p e below Φ T (mkF m pc' Ls (.int r :: S))) : own_G p e below Φ T (mkF m pc Ls (.int b :: .int a :: S)) := by
  obtain ⟨⟨locs, Y, N⟩, hh, hn, hx, hZ, hby, hml, hown, hnm, hret, hlk⟩ := X
  subst hpc
  exact own_by K fun t kk => XS.iushr Y.here hx rfl (hb hby hd) rfl (hr ▸ kk)
theorem own_lshl (X : own_S Z n0 bytes y ml ret p l e R s m args below meth c T k sl h) {a r : Int64} {b : Int32} (hd : decode bytes pc = .ok (.lshl, 1)) (hpc : pc + 1 = pc') (hr : (a <<< (b &&& 0x3f).toInt64) = r) (K : own_G p e below Φ T (mkF m pc' Ls (.long r :: S))) : own_G p e below Φ T (mkF m pc Ls (.int b :: .long a :: S)) := by
  obtain ⟨⟨locs, Y, N⟩, hh, hn, hx, hZ, hby, hml, hown, hnm, hret, hlk⟩ := X
  subst hpc
  exact own_by K fun t kk => XS.lshl Y.here hx rfl (hb hby hd) rfl (hr ▸ kk)
theorem own_lshr (X : own_S Z n0 bytes y ml ret p l e R s m args below meth c T k sl h) {a r : Int64} {b : Int32} (hd : decode bytes pc = .ok (.lshr, 1)) (hpc : pc + 1 = pc') (hr : (a >>> (b &&& 0x3f).toInt64) = r) (K : own_G p e below Φ T (mkF m pc' Ls (.long r :: S))) : own_G p e below Φ T (mkF m pc Ls (.int b :: .long a :: S)) := by
  obtain ⟨⟨locs, Y, N⟩, hh, hn, hx, hZ, hby, hml, hown, hnm, hret, hlk⟩ := X
  subst hpc
  exact own_by K fun t kk => XS.lshr Y.here hx rfl (hb hby hd) rfl (hr ▸ kk)
theorem own_lushr (X : own_S Z n0 bytes y ml ret p l e R s m args below meth c T k sl h) {a r : Int64} {b : Int32} (hd : decode bytes pc = .ok (.lushr, 1)) (hpc : pc + 1 = pc') (hr : ((a.toUInt64 >>> (b &&& 0x3f).toInt64.toUInt64).toInt64) = r) (K : own_G p e below Φ T (mkF m pc' Ls (.long r :: S))) : own_G p e below Φ T (mkF m pc Ls (.int b :: .long a :: S)) := by
  obtain ⟨⟨locs, Y, N⟩, hh, hn, hx, hZ, hby, hml, hown, hnm, hret, hlk⟩ := X
  subst hpc
  exact own_by K fun t kk => XS.lushr Y.here hx rfl (hb hby hd) rfl (hr ▸ kk)
theorem own_idiv (X : own_S Z n0 bytes y ml ret p l e R s m args below meth c T k sl h) {a b r : Int32} (hd : decode bytes pc = .ok (.idiv, 1)) (hpc : pc + 1 = pc') (hz : b ≠ 0) (hr : a / b = r) (K : own_G p e below Φ T (mkF m pc' Ls (.int r :: S))) : own_G p e below Φ T (mkF m pc Ls (.int b :: .int a :: S)) := by
  obtain ⟨⟨locs, Y, N⟩, hh, hn, hx, hZ, hby, hml, hown, hnm, hret, hlk⟩ := X
  subst hpc
  exact own_by K fun t kk => XS.idiv Y.here hx rfl (hb hby hd) rfl hz (hr ▸ kk)
theorem own_irem (X : own_S Z n0 bytes y ml ret p l e R s m args below meth c T k sl h) {a b r : Int32} (hd : decode bytes pc = .ok (.irem, 1)) (hpc : pc + 1 = pc') (hz : b ≠ 0) (hr : a - (a / b) * b = r) (K : own_G p e below Φ T (mkF m pc' Ls (.int r :: S))) : own_G p e below Φ T (mkF m pc Ls (.int b :: .int a :: S)) := by
  obtain ⟨⟨locs, Y, N⟩, hh, hn, hx, hZ, hby, hml, hown, hnm, hret, hlk⟩ := X
  subst hpc
  exact own_by K fun t kk => XS.irem Y.here hx rfl (hb hby hd) rfl hz (hr ▸ kk)
theorem own_ldiv (X : own_S Z n0 bytes y ml ret p l e R s m args below meth c T k sl h) {a b r : Int64} (hd : decode bytes pc = .ok (.ldiv, 1)) (hpc : pc + 1 = pc') (hz : b ≠ 0) (hr : a / b = r) (K : own_G p e below Φ T (mkF m pc' Ls (.long r :: S))) : own_G p e below Φ T (mkF m pc Ls (.long b :: .long a :: S)) := by
  obtain ⟨⟨locs, Y, N⟩, hh, hn, hx, hZ, hby, hml, hown, hnm, hret, hlk⟩ := X
  subst hpc
  exact own_by K fun t kk => XS.ldiv Y.here hx rfl (hb hby hd) rfl hz (hr ▸ kk)
theorem own_lrem (X : own_S Z n0 bytes y ml ret p l e R s m args below meth c T k sl h) {a b r : Int64} (hd : decode bytes pc = .ok (.lrem, 1)) (hpc : pc + 1 = pc') (hz : b ≠ 0) (hr : a - (a / b) * b = r) (K : own_G p e below Φ T (mkF m pc' Ls (.long r :: S))) : own_G p e below Φ T (mkF m pc Ls (.long b :: .long a :: S)) := by
  obtain ⟨⟨locs, Y, N⟩, hh, hn, hx, hZ, hby, hml, hown, hnm, hret, hlk⟩ := X
  subst hpc
  exact own_by K fun t kk => XS.lrem Y.here hx rfl (hb hby hd) rfl hz (hr ▸ kk)
theorem own_ineg (X : own_S Z n0 bytes y ml ret p l e R s m args below meth c T k sl h) {a : Int32} {r : Int32} (hd : decode bytes pc = .ok (.ineg, 1)) (hpc : pc + 1 = pc') (hr : -a = r) (K : own_G p e below Φ T (mkF m pc' Ls (.int r :: S))) : own_G p e below Φ T (mkF m pc Ls (.int a :: S)) := by
  obtain ⟨⟨locs, Y, N⟩, hh, hn, hx, hZ, hby, hml, hown, hnm, hret, hlk⟩ := X
  subst hpc
  exact own_by K fun t kk => XS.ineg Y.here hx rfl (hb hby hd) rfl (hr ▸ kk)
theorem own_lneg (X : own_S Z n0 bytes y ml ret p l e R s m args below meth c T k sl h) {a : Int64} {r : Int64} (hd : decode bytes pc = .ok (.lneg, 1)) (hpc : pc + 1 = pc') (hr : -a = r) (K : own_G p e below Φ T (mkF m pc' Ls (.long r :: S))) : own_G p e below Φ T (mkF m pc Ls (.long a :: S)) := by
  obtain ⟨⟨locs, Y, N⟩, hh, hn, hx, hZ, hby, hml, hown, hnm, hret, hlk⟩ := X
  subst hpc
  exact own_by K fun t kk => XS.lneg Y.here hx rfl (hb hby hd) rfl (hr ▸ kk)
theorem own_i2l (X : own_S Z n0 bytes y ml ret p l e R s m args below meth c T k sl h) {a : Int32} {r : Int64} (hd : decode bytes pc = .ok (.i2l, 1)) (hpc : pc + 1 = pc') (hr : a.toInt64 = r) (K : own_G p e below Φ T (mkF m pc' Ls (.long r :: S))) : own_G p e below Φ T (mkF m pc Ls (.int a :: S)) := by
  obtain ⟨⟨locs, Y, N⟩, hh, hn, hx, hZ, hby, hml, hown, hnm, hret, hlk⟩ := X
  subst hpc
  exact own_by K fun t kk => XS.i2l Y.here hx rfl (hb hby hd) rfl (hr ▸ kk)
theorem own_l2i (X : own_S Z n0 bytes y ml ret p l e R s m args below meth c T k sl h) {a : Int64} {r : Int32} (hd : decode bytes pc = .ok (.l2i, 1)) (hpc : pc + 1 = pc') (hr : a.toInt32 = r) (K : own_G p e below Φ T (mkF m pc' Ls (.int r :: S))) : own_G p e below Φ T (mkF m pc Ls (.long a :: S)) := by
  obtain ⟨⟨locs, Y, N⟩, hh, hn, hx, hZ, hby, hml, hown, hnm, hret, hlk⟩ := X
  subst hpc
  exact own_by K fun t kk => XS.l2i Y.here hx rfl (hb hby hd) rfl (hr ▸ kk)
theorem own_i2b (X : own_S Z n0 bytes y ml ret p l e R s m args below meth c T k sl h) {a : Int32} {r : Int32} (hd : decode bytes pc = .ok (.i2b, 1)) (hpc : pc + 1 = pc') (hr : a.toInt8.toInt32 = r) (K : own_G p e below Φ T (mkF m pc' Ls (.int r :: S))) : own_G p e below Φ T (mkF m pc Ls (.int a :: S)) := by
  obtain ⟨⟨locs, Y, N⟩, hh, hn, hx, hZ, hby, hml, hown, hnm, hret, hlk⟩ := X
  subst hpc
  exact own_by K fun t kk => XS.i2b Y.here hx rfl (hb hby hd) rfl (hr ▸ kk)
theorem own_i2s (X : own_S Z n0 bytes y ml ret p l e R s m args below meth c T k sl h) {a : Int32} {r : Int32} (hd : decode bytes pc = .ok (.i2s, 1)) (hpc : pc + 1 = pc') (hr : a.toInt16.toInt32 = r) (K : own_G p e below Φ T (mkF m pc' Ls (.int r :: S))) : own_G p e below Φ T (mkF m pc Ls (.int a :: S)) := by
  obtain ⟨⟨locs, Y, N⟩, hh, hn, hx, hZ, hby, hml, hown, hnm, hret, hlk⟩ := X
  subst hpc
  exact own_by K fun t kk => XS.i2s Y.here hx rfl (hb hby hd) rfl (hr ▸ kk)
theorem own_i2c (X : own_S Z n0 bytes y ml ret p l e R s m args below meth c T k sl h) {a : Int32} {r : Int32} (hd : decode bytes pc = .ok (.i2c, 1)) (hpc : pc + 1 = pc') (hr : a.toUInt32.toUInt16.toUInt32.toInt32 = r) (K : own_G p e below Φ T (mkF m pc' Ls (.int r :: S))) : own_G p e below Φ T (mkF m pc Ls (.int a :: S)) := by
  obtain ⟨⟨locs, Y, N⟩, hh, hn, hx, hZ, hby, hml, hown, hnm, hret, hlk⟩ := X
  subst hpc
  exact own_by K fun t kk => XS.i2c Y.here hx rfl (hb hby hd) rfl (hr ▸ kk)
theorem own_lcmp (X : own_S Z n0 bytes y ml ret p l e R s m args below meth c T k sl h) {a b : Int64} (hd : decode bytes pc = .ok (.lcmp, 1)) (hpc : pc + 1 = pc') (K : own_G p e below Φ T (mkF m pc' Ls (.int (lcmpW a b) :: S))) : own_G p e below Φ T (mkF m pc Ls (.long b :: .long a :: S)) := by
  obtain ⟨⟨locs, Y, N⟩, hh, hn, hx, hZ, hby, hml, hown, hnm, hret, hlk⟩ := X
  subst hpc
  exact own_by K fun t kk => XS.lcmp Y.here hx rfl (hb hby hd) rfl kk
theorem own_iconst (X : own_S Z n0 bytes y ml ret p l e R s m args below meth c T k sl h) {i : Int} {v : Int32} (hd : decode bytes pc = .ok (.iconst i, 1)) (hpc : pc + 1 = pc') (hv : Int32.ofInt i = v) (K : own_G p e below Φ T (mkF m pc' Ls (.int v :: S))) : own_G p e below Φ T (mkF m pc Ls (S)) := by
  obtain ⟨⟨locs, Y, N⟩, hh, hn, hx, hZ, hby, hml, hown, hnm, hret, hlk⟩ := X
  subst hpc
  exact own_by K fun t kk => XS.iconst Y.here hx rfl (hb hby hd) (hv ▸ kk)
theorem own_bipush (X : own_S Z n0 bytes y ml ret p l e R s m args below meth c T k sl h) {i : Int} {v : Int32} (hd : decode bytes pc = .ok (.bipush i, 2)) (hpc : pc + 2 = pc') (hv : (Int8.ofInt i).toInt32 = v) (K : own_G p e below Φ T (mkF m pc' Ls (.int v :: S))) : own_G p e below Φ T (mkF m pc Ls (S)) := by
  obtain ⟨⟨locs, Y, N⟩, hh, hn, hx, hZ, hby, hml, hown, hnm, hret, hlk⟩ := X
  subst hpc
  exact own_by K fun t kk => XS.bipush Y.here hx rfl (hb hby hd) (hv ▸ kk)
theorem own_sipush (X : own_S Z n0 bytes y ml ret p l e R s m args below meth c T k sl h) {i : Int} {v : Int32} (hd : decode bytes pc = .ok (.sipush i, 3)) (hpc : pc + 3 = pc') (hv : (Int16.ofInt i).toInt32 = v) (K : own_G p e below Φ T (mkF m pc' Ls (.int v :: S))) : own_G p e below Φ T (mkF m pc Ls (S)) := by
  obtain ⟨⟨locs, Y, N⟩, hh, hn, hx, hZ, hby, hml, hown, hnm, hret, hlk⟩ := X
  subst hpc
  exact own_by K fun t kk => XS.sipush Y.here hx rfl (hb hby hd) (hv ▸ kk)
theorem own_lconst (X : own_S Z n0 bytes y ml ret p l e R s m args below meth c T k sl h) {i : Fin 2} {v : Int64} (hd : decode bytes pc = .ok (.lconst i, 1)) (hpc : pc + 1 = pc') (hv : Int64.ofNat i = v) (K : own_G p e below Φ T (mkF m pc' Ls (.long v :: S))) : own_G p e below Φ T (mkF m pc Ls (S)) := by
  obtain ⟨⟨locs, Y, N⟩, hh, hn, hx, hZ, hby, hml, hown, hnm, hret, hlk⟩ := X
  subst hpc
  exact own_by K fun t kk => XS.lconst Y.here hx rfl (hb hby hd) (hv ▸ kk)
theorem own_aconst_null (X : own_S Z n0 bytes y ml ret p l e R s m args below meth c T k sl h) (hd : decode bytes pc = .ok (.aconst_null, 1)) (hpc : pc + 1 = pc') (K : own_G p e below Φ T (mkF m pc' Ls (.null :: S))) : own_G p e below Φ T (mkF m pc Ls (S)) := by
  obtain ⟨⟨locs, Y, N⟩, hh, hn, hx, hZ, hby, hml, hown, hnm, hret, hlk⟩ := X
  subst hpc
  exact own_by K fun t kk => XS.aconstNull Y.here hx rfl (hb hby hd) kk
theorem own_iload (X : own_S Z n0 bytes y ml ret p l e R s m args below meth c T k sl h) {i : Nat} {v : Int32} (hd : decode bytes pc = .ok (.iload i, 2)) (hpc : pc + 2 = pc') (hl : Ls[i]? = some (.val (.int v))) (K : own_G p e below Φ T (mkF m pc' Ls (.int v :: S))) : own_G p e below Φ T (mkF m pc Ls (S)) := by
  obtain ⟨⟨locs, Y, N⟩, hh, hn, hx, hZ, hby, hml, hown, hnm, hret, hlk⟩ := X
  subst hpc
  exact own_by K fun t kk => XS.iload Y.here hx rfl (hb hby hd) hl kk
theorem own_iloadN (X : own_S Z n0 bytes y ml ret p l e R s m args below meth c T k sl h) {i : Fin 4} {v : Int32} (hd : decode bytes pc = .ok (.iload_n i, 1)) (hpc : pc + 1 = pc') (hl : Ls[i.val]? = some (.val (.int v))) (K : own_G p e below Φ T (mkF m pc' Ls (.int v :: S))) : own_G p e below Φ T (mkF m pc Ls (S)) := by
  obtain ⟨⟨locs, Y, N⟩, hh, hn, hx, hZ, hby, hml, hown, hnm, hret, hlk⟩ := X
  subst hpc
  exact own_by K fun t kk => XS.iloadN Y.here hx rfl (hb hby hd) hl kk
theorem own_lload (X : own_S Z n0 bytes y ml ret p l e R s m args below meth c T k sl h) {i : Nat} {v : Int64} (hd : decode bytes pc = .ok (.lload i, 2)) (hpc : pc + 2 = pc') (hl : Ls[i]? = some (.val (.long v))) (K : own_G p e below Φ T (mkF m pc' Ls (.long v :: S))) : own_G p e below Φ T (mkF m pc Ls (S)) := by
  obtain ⟨⟨locs, Y, N⟩, hh, hn, hx, hZ, hby, hml, hown, hnm, hret, hlk⟩ := X
  subst hpc
  exact own_by K fun t kk => XS.lload Y.here hx rfl (hb hby hd) hl kk
theorem own_lloadN (X : own_S Z n0 bytes y ml ret p l e R s m args below meth c T k sl h) {i : Fin 4} {v : Int64} (hd : decode bytes pc = .ok (.lload_n i, 1)) (hpc : pc + 1 = pc') (hl : Ls[i.val]? = some (.val (.long v))) (K : own_G p e below Φ T (mkF m pc' Ls (.long v :: S))) : own_G p e below Φ T (mkF m pc Ls (S)) := by
  obtain ⟨⟨locs, Y, N⟩, hh, hn, hx, hZ, hby, hml, hown, hnm, hret, hlk⟩ := X
  subst hpc
  exact own_by K fun t kk => XS.lloadN Y.here hx rfl (hb hby hd) hl kk
theorem own_aload (X : own_S Z n0 bytes y ml ret p l e R s m args below meth c T k sl h) {i : Nat} {v : Value} (hd : decode bytes pc = .ok (.aload i, 2)) (hpc : pc + 2 = pc') (hl : Ls[i]? = some (.val v)) (hv : v.isRef = true) (K : own_G p e below Φ T (mkF m pc' Ls (v :: S))) : own_G p e below Φ T (mkF m pc Ls (S)) := by
  obtain ⟨⟨locs, Y, N⟩, hh, hn, hx, hZ, hby, hml, hown, hnm, hret, hlk⟩ := X
  subst hpc
  exact own_by K fun t kk => XS.aload Y.here hx rfl (hb hby hd) hl hv kk
theorem own_aloadN (X : own_S Z n0 bytes y ml ret p l e R s m args below meth c T k sl h) {i : Fin 4} {v : Value} (hd : decode bytes pc = .ok (.aload_n i, 1)) (hpc : pc + 1 = pc') (hl : Ls[i.val]? = some (.val v)) (hv : v.isRef = true) (K : own_G p e below Φ T (mkF m pc' Ls (v :: S))) : own_G p e below Φ T (mkF m pc Ls (S)) := by
  obtain ⟨⟨locs, Y, N⟩, hh, hn, hx, hZ, hby, hml, hown, hnm, hret, hlk⟩ := X
  subst hpc
  exact own_by K fun t kk => XS.aloadN Y.here hx rfl (hb hby hd) hl hv kk
theorem own_dup (X : own_S Z n0 bytes y ml ret p l e R s m args below meth c T k sl h) {v : Value} (hd : decode bytes pc = .ok (.dup, 1)) (hpc : pc + 1 = pc') (hv : v.category = 1) (K : own_G p e below Φ T (mkF m pc' Ls (v :: v :: S))) : own_G p e below Φ T (mkF m pc Ls (v :: S)) := by
  obtain ⟨⟨locs, Y, N⟩, hh, hn, hx, hZ, hby, hml, hown, hnm, hret, hlk⟩ := X
  subst hpc
  exact own_by K fun t kk => XS.dup Y.here hx rfl (hb hby hd) rfl hv kk
theorem own_dup2 (X : own_S Z n0 bytes y ml ret p l e R s m args below meth c T k sl h) {v w : Value} (hd : decode bytes pc = .ok (.dup2, 1)) (hpc : pc + 1 = pc') (hv : v.category = 1) (hw : w.category = 1) (K : own_G p e below Φ T (mkF m pc' Ls (v :: w :: v :: w :: S))) : own_G p e below Φ T (mkF m pc Ls (v :: w :: S)) := by
  obtain ⟨⟨locs, Y, N⟩, hh, hn, hx, hZ, hby, hml, hown, hnm, hret, hlk⟩ := X
  subst hpc
  exact own_by K fun t kk => XT.dup2 Y.here hx rfl (hb hby hd) rfl hv hw kk
theorem own_pop (X : own_S Z n0 bytes y ml ret p l e R s m args below meth c T k sl h) {v : Value} (hd : decode bytes pc = .ok (.pop, 1)) (hpc : pc + 1 = pc') (hv : v.category = 1) (K : own_G p e below Φ T (mkF m pc' Ls (S))) : own_G p e below Φ T (mkF m pc Ls (v :: S)) := by
  obtain ⟨⟨locs, Y, N⟩, hh, hn, hx, hZ, hby, hml, hown, hnm, hret, hlk⟩ := X
  subst hpc
  exact own_by K fun t kk => XS.pop Y.here hx rfl (hb hby hd) rfl hv kk
theorem own_istore (X : own_S Z n0 bytes y ml ret p l e R s m args below meth c T k sl h) {i : Nat} {v : Int32} (hd : decode bytes pc = .ok (.istore i, 2)) (hpc : pc + 2 = pc') (hl : storeLocals Ls i (.int v) = some Ls') (K : own_G p e below Φ T (mkF m pc' Ls' S)) : own_G p e below Φ T (mkF m pc Ls (.int v :: S)) := by
  obtain ⟨⟨locs, Y, N⟩, hh, hn, hx, hZ, hby, hml, hown, hnm, hret, hlk⟩ := X
  subst hpc
  exact own_by K fun t kk => XS.istore Y.here hx rfl (hb hby hd) rfl hl kk
theorem own_istoreN (X : own_S Z n0 bytes y ml ret p l e R s m args below meth c T k sl h) {i : Fin 4} {v : Int32} (hd : decode bytes pc = .ok (.istore_n i, 1)) (hpc : pc + 1 = pc') (hl : storeLocals Ls i.val (.int v) = some Ls') (K : own_G p e below Φ T (mkF m pc' Ls' S)) : own_G p e below Φ T (mkF m pc Ls (.int v :: S)) := by
  obtain ⟨⟨locs, Y, N⟩, hh, hn, hx, hZ, hby, hml, hown, hnm, hret, hlk⟩ := X
  subst hpc
  exact own_by K fun t kk => XS.istoreN Y.here hx rfl (hb hby hd) rfl hl kk
theorem own_lstore (X : own_S Z n0 bytes y ml ret p l e R s m args below meth c T k sl h) {i : Nat} {v : Int64} (hd : decode bytes pc = .ok (.lstore i, 2)) (hpc : pc + 2 = pc') (hl : storeLocals Ls i (.long v) = some Ls') (K : own_G p e below Φ T (mkF m pc' Ls' S)) : own_G p e below Φ T (mkF m pc Ls (.long v :: S)) := by
  obtain ⟨⟨locs, Y, N⟩, hh, hn, hx, hZ, hby, hml, hown, hnm, hret, hlk⟩ := X
  subst hpc
  exact own_by K fun t kk => XS.lstore Y.here hx rfl (hb hby hd) rfl hl kk
theorem own_lstoreN (X : own_S Z n0 bytes y ml ret p l e R s m args below meth c T k sl h) {i : Fin 4} {v : Int64} (hd : decode bytes pc = .ok (.lstore_n i, 1)) (hpc : pc + 1 = pc') (hl : storeLocals Ls i.val (.long v) = some Ls') (K : own_G p e below Φ T (mkF m pc' Ls' S)) : own_G p e below Φ T (mkF m pc Ls (.long v :: S)) := by
  obtain ⟨⟨locs, Y, N⟩, hh, hn, hx, hZ, hby, hml, hown, hnm, hret, hlk⟩ := X
  subst hpc
  exact own_by K fun t kk => XS.lstoreN Y.here hx rfl (hb hby hd) rfl hl kk
theorem own_astore (X : own_S Z n0 bytes y ml ret p l e R s m args below meth c T k sl h) {i : Nat} {v : Value} (hd : decode bytes pc = .ok (.astore i, 2)) (hpc : pc + 2 = pc') (hv : v.isRef = true) (hl : storeLocals Ls i (v) = some Ls') (K : own_G p e below Φ T (mkF m pc' Ls' S)) : own_G p e below Φ T (mkF m pc Ls (v :: S)) := by
  obtain ⟨⟨locs, Y, N⟩, hh, hn, hx, hZ, hby, hml, hown, hnm, hret, hlk⟩ := X
  subst hpc
  exact own_by K fun t kk => XS.astore Y.here hx rfl (hb hby hd) rfl hv hl kk
theorem own_astoreN (X : own_S Z n0 bytes y ml ret p l e R s m args below meth c T k sl h) {i : Fin 4} {v : Value} (hd : decode bytes pc = .ok (.astore_n i, 1)) (hpc : pc + 1 = pc') (hv : v.isRef = true) (hl : storeLocals Ls i.val (v) = some Ls') (K : own_G p e below Φ T (mkF m pc' Ls' S)) : own_G p e below Φ T (mkF m pc Ls (v :: S)) := by
  obtain ⟨⟨locs, Y, N⟩, hh, hn, hx, hZ, hby, hml, hown, hnm, hret, hlk⟩ := X
  subst hpc
  exact own_by K fun t kk => XS.astoreN Y.here hx rfl (hb hby hd) rfl hv hl kk
theorem own_iinc (X : own_S Z n0 bytes y ml ret p l e R s m args below meth c T k sl h) {i : Nat} {cst : Int} {v : Int32} (hd : decode bytes pc = .ok (.iinc i cst, 3)) (hpc : pc + 3 = pc') (hl : Ls[i]? = some (.val (.int v))) {w : Int32} (hw : v + Int32.ofInt cst = w) (hs : storeLocals Ls i (.int w) = some Ls') (K : own_G p e below Φ T (mkF m pc' Ls' S)) : own_G p e below Φ T (mkF m pc Ls S) := by
  obtain ⟨⟨locs, Y, N⟩, hh, hn, hx, hZ, hby, hml, hown, hnm, hret, hlk⟩ := X
  subst hpc
  exact own_by K fun t kk => XS.iinc Y.here hx rfl (hb hby hd) hl (hw ▸ hs) kk
theorem own_goto (X : own_S Z n0 bytes y ml ret p l e R s m args below meth c T k sl h) {o : Int} (hd : decode bytes pc = .ok (.goto o, 3)) (ho : 0 ≤ (pc : Int) + o) (hp : ((pc : Int) + o).toNat = pc') (K : own_G p e below Φ T (mkF m pc' Ls S)) : own_G p e below Φ T (mkF m pc Ls S) := by
  obtain ⟨⟨locs, Y, N⟩, hh, hn, hx, hZ, hby, hml, hown, hnm, hret, hlk⟩ := X
  exact own_by K fun t kk => XS.goto Y.here hx rfl rfl (hb hby hd) ho hp kk
theorem own_icmp_eq (X : own_S Z n0 bytes y ml ret p l e R s m args below meth c T k sl h) {o : Int} {a b : Int32} {pct : Nat} (hd : decode bytes pc = .ok (.if_icmp .eq o, 3)) (hpc : pc + 3 = pc') (ho : 0 ≤ (pc : Int) + o) (hp : ((pc : Int) + o).toNat = pct) (Ky : a = b → own_G p e below Φ T (mkF m pct Ls S)) (Kn : ¬ a = b → own_G p e below Φ T (mkF m pc' Ls S)) : own_G p e below Φ T (mkF m pc Ls (.int b :: .int a :: S)) := by
  obtain ⟨⟨locs, Y, N⟩, hh, hn, hx, hZ, hby, hml, hown, hnm, hret, hlk⟩ := X
  subst hpc
  by_cases hc : a = b
  · exact own_by (Ky hc) fun t kk => XS.icmpYes Y.here hx rfl rfl (hb hby hd) rfl (teq hc).1 ho hp kk
  · exact own_by (Kn hc) fun t kk => XS.icmpNo Y.here hx rfl (hb hby hd) rfl (feq hc).1 kk
theorem own_if_eq (X : own_S Z n0 bytes y ml ret p l e R s m args below meth c T k sl h) {o : Int} {a : Int32} {pct : Nat} (hd : decode bytes pc = .ok (.ifCond .eq o, 3)) (hpc : pc + 3 = pc') (ho : 0 ≤ (pc : Int) + o) (hp : ((pc : Int) + o).toNat = pct) (Ky : a = 0 → own_G p e below Φ T (mkF m pct Ls S)) (Kn : ¬ a = 0 → own_G p e below Φ T (mkF m pc' Ls S)) : own_G p e below Φ T (mkF m pc Ls (.int a :: S)) := by
  obtain ⟨⟨locs, Y, N⟩, hh, hn, hx, hZ, hby, hml, hown, hnm, hret, hlk⟩ := X
  subst hpc
  by_cases hc : a = 0
  · exact own_by (Ky hc) fun t kk => XS.ifYes Y.here hx rfl rfl (hb hby hd) rfl ((if0 _ _).trans (teq hc).1) ho hp kk
  · exact own_by (Kn hc) fun t kk => XS.ifNo Y.here hx rfl (hb hby hd) rfl ((if0 _ _).trans (feq hc).1) kk
theorem own_icmp_ne (X : own_S Z n0 bytes y ml ret p l e R s m args below meth c T k sl h) {o : Int} {a b : Int32} {pct : Nat} (hd : decode bytes pc = .ok (.if_icmp .ne o, 3)) (hpc : pc + 3 = pc') (ho : 0 ≤ (pc : Int) + o) (hp : ((pc : Int) + o).toNat = pct) (Ky : ¬ a = b → own_G p e below Φ T (mkF m pct Ls S)) (Kn : a = b → own_G p e below Φ T (mkF m pc' Ls S)) : own_G p e below Φ T (mkF m pc Ls (.int b :: .int a :: S)) := by
  obtain ⟨⟨locs, Y, N⟩, hh, hn, hx, hZ, hby, hml, hown, hnm, hret, hlk⟩ := X
  subst hpc
  by_cases hc : ¬ a = b
  · exact own_by (Ky hc) fun t kk => XS.icmpYes Y.here hx rfl rfl (hb hby hd) rfl (feq hc).2 ho hp kk
  · replace hc := Decidable.not_not.mp hc; exact own_by (Kn hc) fun t kk => XS.icmpNo Y.here hx rfl (hb hby hd) rfl (teq hc).2 kk
theorem own_if_ne (X : own_S Z n0 bytes y ml ret p l e R s m args below meth c T k sl h) {o : Int} {a : Int32} {pct : Nat} (hd : decode bytes pc = .ok (.ifCond .ne o, 3)) (hpc : pc + 3 = pc') (ho : 0 ≤ (pc : Int) + o) (hp : ((pc : Int) + o).toNat = pct) (Ky : ¬ a = 0 → own_G p e below Φ T (mkF m pct Ls S)) (Kn : a = 0 → own_G p e below Φ T (mkF m pc' Ls S)) : own_G p e below Φ T (mkF m pc Ls (.int a :: S)) := by
  obtain ⟨⟨locs, Y, N⟩, hh, hn, hx, hZ, hby, hml, hown, hnm, hret, hlk⟩ := X
  subst hpc
  by_cases hc : ¬ a = 0
  · exact own_by (Ky hc) fun t kk => XS.ifYes Y.here hx rfl rfl (hb hby hd) rfl ((if0 _ _).trans (feq hc).2) ho hp kk
  · replace hc := Decidable.not_not.mp hc; exact own_by (Kn hc) fun t kk => XS.ifNo Y.here hx rfl (hb hby hd) rfl ((if0 _ _).trans (teq hc).2) kk
theorem own_icmp_lt (X : own_S Z n0 bytes y ml ret p l e R s m args below meth c T k sl h) {o : Int} {a b : Int32} {pct : Nat} (hd : decode bytes pc = .ok (.if_icmp .lt o, 3)) (hpc : pc + 3 = pc') (ho : 0 ≤ (pc : Int) + o) (hp : ((pc : Int) + o).toNat = pct) (Ky : a < b → own_G p e below Φ T (mkF m pct Ls S)) (Kn : ¬ a < b → own_G p e below Φ T (mkF m pc' Ls S)) : own_G p e below Φ T (mkF m pc Ls (.int b :: .int a :: S)) := by
  obtain ⟨⟨locs, Y, N⟩, hh, hn, hx, hZ, hby, hml, hown, hnm, hret, hlk⟩ := X
  subst hpc
  by_cases hc : a < b
  · exact own_by (Ky hc) fun t kk => XS.icmpYes Y.here hx rfl rfl (hb hby hd) rfl (tlt hc).1 ho hp kk
  · exact own_by (Kn hc) fun t kk => XS.icmpNo Y.here hx rfl (hb hby hd) rfl (flt hc).1 kk
theorem own_if_lt (X : own_S Z n0 bytes y ml ret p l e R s m args below meth c T k sl h) {o : Int} {a : Int32} {pct : Nat} (hd : decode bytes pc = .ok (.ifCond .lt o, 3)) (hpc : pc + 3 = pc') (ho : 0 ≤ (pc : Int) + o) (hp : ((pc : Int) + o).toNat = pct) (Ky : a < 0 → own_G p e below Φ T (mkF m pct Ls S)) (Kn : ¬ a < 0 → own_G p e below Φ T (mkF m pc' Ls S)) : own_G p e below Φ T (mkF m pc Ls (.int a :: S)) := by
  obtain ⟨⟨locs, Y, N⟩, hh, hn, hx, hZ, hby, hml, hown, hnm, hret, hlk⟩ := X
  subst hpc
  by_cases hc : a < 0
  · exact own_by (Ky hc) fun t kk => XS.ifYes Y.here hx rfl rfl (hb hby hd) rfl ((if0 _ _).trans (tlt hc).1) ho hp kk
  · exact own_by (Kn hc) fun t kk => XS.ifNo Y.here hx rfl (hb hby hd) rfl ((if0 _ _).trans (flt hc).1) kk
theorem own_icmp_ge (X : own_S Z n0 bytes y ml ret p l e R s m args below meth c T k sl h) {o : Int} {a b : Int32} {pct : Nat} (hd : decode bytes pc = .ok (.if_icmp .ge o, 3)) (hpc : pc + 3 = pc') (ho : 0 ≤ (pc : Int) + o) (hp : ((pc : Int) + o).toNat = pct) (Ky : ¬ a < b → own_G p e below Φ T (mkF m pct Ls S)) (Kn : a < b → own_G p e below Φ T (mkF m pc' Ls S)) : own_G p e below Φ T (mkF m pc Ls (.int b :: .int a :: S)) := by
  obtain ⟨⟨locs, Y, N⟩, hh, hn, hx, hZ, hby, hml, hown, hnm, hret, hlk⟩ := X
  subst hpc
  by_cases hc : ¬ a < b
  · exact own_by (Ky hc) fun t kk => XS.icmpYes Y.here hx rfl rfl (hb hby hd) rfl (flt hc).2.1 ho hp kk
  · replace hc := Decidable.not_not.mp hc; exact own_by (Kn hc) fun t kk => XS.icmpNo Y.here hx rfl (hb hby hd) rfl (tlt hc).2.1 kk
theorem own_if_ge (X : own_S Z n0 bytes y ml ret p l e R s m args below meth c T k sl h) {o : Int} {a : Int32} {pct : Nat} (hd : decode bytes pc = .ok (.ifCond .ge o, 3)) (hpc : pc + 3 = pc') (ho : 0 ≤ (pc : Int) + o) (hp : ((pc : Int) + o).toNat = pct) (Ky : ¬ a < 0 → own_G p e below Φ T (mkF m pct Ls S)) (Kn : a < 0 → own_G p e below Φ T (mkF m pc' Ls S)) : own_G p e below Φ T (mkF m pc Ls (.int a :: S)) := by
  obtain ⟨⟨locs, Y, N⟩, hh, hn, hx, hZ, hby, hml, hown, hnm, hret, hlk⟩ := X
  subst hpc
  by_cases hc : ¬ a < 0
  · exact own_by (Ky hc) fun t kk => XS.ifYes Y.here hx rfl rfl (hb hby hd) rfl ((if0 _ _).trans (flt hc).2.1) ho hp kk
  · replace hc := Decidable.not_not.mp hc; exact own_by (Kn hc) fun t kk => XS.ifNo Y.here hx rfl (hb hby hd) rfl ((if0 _ _).trans (tlt hc).2.1) kk
theorem own_icmp_gt (X : own_S Z n0 bytes y ml ret p l e R s m args below meth c T k sl h) {o : Int} {a b : Int32} {pct : Nat} (hd : decode bytes pc = .ok (.if_icmp .gt o, 3)) (hpc : pc + 3 = pc') (ho : 0 ≤ (pc : Int) + o) (hp : ((pc : Int) + o).toNat = pct) (Ky : b < a → own_G p e below Φ T (mkF m pct Ls S)) (Kn : ¬ b < a → own_G p e below Φ T (mkF m pc' Ls S)) : own_G p e below Φ T (mkF m pc Ls (.int b :: .int a :: S)) := by
  obtain ⟨⟨locs, Y, N⟩, hh, hn, hx, hZ, hby, hml, hown, hnm, hret, hlk⟩ := X
  subst hpc
  by_cases hc : b < a
  · exact own_by (Ky hc) fun t kk => XS.icmpYes Y.here hx rfl rfl (hb hby hd) rfl (tlt hc).2.2.1 ho hp kk
  · exact own_by (Kn hc) fun t kk => XS.icmpNo Y.here hx rfl (hb hby hd) rfl (flt hc).2.2.1 kk
theorem own_if_gt (X : own_S Z n0 bytes y ml ret p l e R s m args below meth c T k sl h) {o : Int} {a : Int32} {pct : Nat} (hd : decode bytes pc = .ok (.ifCond .gt o, 3)) (hpc : pc + 3 = pc') (ho : 0 ≤ (pc : Int) + o) (hp : ((pc : Int) + o).toNat = pct) (Ky : 0 < a → own_G p e below Φ T (mkF m pct Ls S)) (Kn : ¬ 0 < a → own_G p e below Φ T (mkF m pc' Ls S)) : own_G p e below Φ T (mkF m pc Ls (.int a :: S)) := by
  obtain ⟨⟨locs, Y, N⟩, hh, hn, hx, hZ, hby, hml, hown, hnm, hret, hlk⟩ := X
  subst hpc
  by_cases hc : 0 < a
  · exact own_by (Ky hc) fun t kk => XS.ifYes Y.here hx rfl rfl (hb hby hd) rfl ((if0 _ _).trans (tlt hc).2.2.1) ho hp kk
  · exact own_by (Kn hc) fun t kk => XS.ifNo Y.here hx rfl (hb hby hd) rfl ((if0 _ _).trans (flt hc).2.2.1) kk
theorem own_icmp_le (X : own_S Z n0 bytes y ml ret p l e R s m args below meth c T k sl h) {o : Int} {a b : Int32} {pct : Nat} (hd : decode bytes pc = .ok (.if_icmp .le o, 3)) (hpc : pc + 3 = pc') (ho : 0 ≤ (pc : Int) + o) (hp : ((pc : Int) + o).toNat = pct) (Ky : ¬ b < a → own_G p e below Φ T (mkF m pct Ls S)) (Kn : b < a → own_G p e below Φ T (mkF m pc' Ls S)) : own_G p e below Φ T (mkF m pc Ls (.int b :: .int a :: S)) := by
  obtain ⟨⟨locs, Y, N⟩, hh, hn, hx, hZ, hby, hml, hown, hnm, hret, hlk⟩ := X
  subst hpc
  by_cases hc : ¬ b < a
  · exact own_by (Ky hc) fun t kk => XS.icmpYes Y.here hx rfl rfl (hb hby hd) rfl (flt hc).2.2.2 ho hp kk
  · replace hc := Decidable.not_not.mp hc; exact own_by (Kn hc) fun t kk => XS.icmpNo Y.here hx rfl (hb hby hd) rfl (tlt hc).2.2.2 kk
theorem own_if_le (X : own_S Z n0 bytes y ml ret p l e R s m args below meth c T k sl h) {o : Int} {a : Int32} {pct : Nat} (hd : decode bytes pc = .ok (.ifCond .le o, 3)) (hpc : pc + 3 = pc') (ho : 0 ≤ (pc : Int) + o) (hp : ((pc : Int) + o).toNat = pct) (Ky : ¬ 0 < a → own_G p e below Φ T (mkF m pct Ls S)) (Kn : 0 < a → own_G p e below Φ T (mkF m pc' Ls S)) : own_G p e below Φ T (mkF m pc Ls (.int a :: S)) := by
  obtain ⟨⟨locs, Y, N⟩, hh, hn, hx, hZ, hby, hml, hown, hnm, hret, hlk⟩ := X
  subst hpc
  by_cases hc : ¬ 0 < a
  · exact own_by (Ky hc) fun t kk => XS.ifYes Y.here hx rfl rfl (hb hby hd) rfl ((if0 _ _).trans (flt hc).2.2.2) ho hp kk
  · replace hc := Decidable.not_not.mp hc; exact own_by (Kn hc) fun t kk => XS.ifNo Y.here hx rfl (hb hby hd) rfl ((if0 _ _).trans (tlt hc).2.2.2) kk
theorem own_ifl_eq (X : own_S Z n0 bytes y ml ret p l e R s m args below meth c T k sl h) {o : Int} {a b : Int64} {pct : Nat} (hd : decode bytes pc = .ok (.ifCond .eq o, 3)) (hpc : pc + 3 = pc') (ho : 0 ≤ (pc : Int) + o) (hp : ((pc : Int) + o).toNat = pct) (Ky : a = b → own_G p e below Φ T (mkF m pct Ls S)) (Kn : ¬ a = b → own_G p e below Φ T (mkF m pc' Ls S)) : own_G p e below Φ T (mkF m pc Ls (.int (lcmpW a b) :: S)) :=
  own_if_eq X hd hpc ho hp (fun q => Ky ((lw_eq a b).mp q)) (fun q => Kn (fun r => q ((lw_eq a b).mpr r)))
theorem own_ifl_ne (X : own_S Z n0 bytes y ml ret p l e R s m args below meth c T k sl h) {o : Int} {a b : Int64} {pct : Nat} (hd : decode bytes pc = .ok (.ifCond .ne o, 3)) (hpc : pc + 3 = pc') (ho : 0 ≤ (pc : Int) + o) (hp : ((pc : Int) + o).toNat = pct) (Ky : ¬ a = b → own_G p e below Φ T (mkF m pct Ls S)) (Kn : a = b → own_G p e below Φ T (mkF m pc' Ls S)) : own_G p e below Φ T (mkF m pc Ls (.int (lcmpW a b) :: S)) :=
  own_if_ne X hd hpc ho hp (fun q => Ky (fun r => q ((lw_eq a b).mpr r))) (fun q => Kn ((lw_eq a b).mp q))
theorem own_ifl_lt (X : own_S Z n0 bytes y ml ret p l e R s m args below meth c T k sl h) {o : Int} {a b : Int64} {pct : Nat} (hd : decode bytes pc = .ok (.ifCond .lt o, 3)) (hpc : pc + 3 = pc') (ho : 0 ≤ (pc : Int) + o) (hp : ((pc : Int) + o).toNat = pct) (Ky : a < b → own_G p e below Φ T (mkF m pct Ls S)) (Kn : ¬ a < b → own_G p e below Φ T (mkF m pc' Ls S)) : own_G p e below Φ T (mkF m pc Ls (.int (lcmpW a b) :: S)) :=
  own_if_lt X hd hpc ho hp (fun q => Ky ((lw_lt a b).mp q)) (fun q => Kn (fun r => q ((lw_lt a b).mpr r)))
theorem own_ifl_ge (X : own_S Z n0 bytes y ml ret p l e R s m args below meth c T k sl h) {o : Int} {a b : Int64} {pct : Nat} (hd : decode bytes pc = .ok (.ifCond .ge o, 3)) (hpc : pc + 3 = pc') (ho : 0 ≤ (pc : Int) + o) (hp : ((pc : Int) + o).toNat = pct) (Ky : ¬ a < b → own_G p e below Φ T (mkF m pct Ls S)) (Kn : a < b → own_G p e below Φ T (mkF m pc' Ls S)) : own_G p e below Φ T (mkF m pc Ls (.int (lcmpW a b) :: S)) :=
  own_if_ge X hd hpc ho hp (fun q => Ky (fun r => q ((lw_lt a b).mpr r))) (fun q => Kn ((lw_lt a b).mp q))
theorem own_ifl_gt (X : own_S Z n0 bytes y ml ret p l e R s m args below meth c T k sl h) {o : Int} {a b : Int64} {pct : Nat} (hd : decode bytes pc = .ok (.ifCond .gt o, 3)) (hpc : pc + 3 = pc') (ho : 0 ≤ (pc : Int) + o) (hp : ((pc : Int) + o).toNat = pct) (Ky : b < a → own_G p e below Φ T (mkF m pct Ls S)) (Kn : ¬ b < a → own_G p e below Φ T (mkF m pc' Ls S)) : own_G p e below Φ T (mkF m pc Ls (.int (lcmpW a b) :: S)) :=
  own_if_gt X hd hpc ho hp (fun q => Ky ((lw_gt a b).mp q)) (fun q => Kn (fun r => q ((lw_gt a b).mpr r)))
theorem own_ifl_le (X : own_S Z n0 bytes y ml ret p l e R s m args below meth c T k sl h) {o : Int} {a b : Int64} {pct : Nat} (hd : decode bytes pc = .ok (.ifCond .le o, 3)) (hpc : pc + 3 = pc') (ho : 0 ≤ (pc : Int) + o) (hp : ((pc : Int) + o).toNat = pct) (Ky : ¬ b < a → own_G p e below Φ T (mkF m pct Ls S)) (Kn : b < a → own_G p e below Φ T (mkF m pc' Ls S)) : own_G p e below Φ T (mkF m pc Ls (.int (lcmpW a b) :: S)) :=
  own_if_le X hd hpc ho hp (fun q => Ky (fun r => q ((lw_gt a b).mpr r))) (fun q => Kn ((lw_gt a b).mp q))
theorem own_ldc {i : Nat} {v : Int32} (X : own_S Z n0 bytes y ml ret p l e R s m args below meth c T k sl h) (hw : (Jvm.Cond.constant y.cls i v).before a0 Z = true) (hd : decode bytes pc = .ok (.ldc i, 2)) (hpc : pc + 2 = pc') (K : own_G p e below Φ T (mkF m pc' Ls (.int v :: S))) : own_G p e below Φ T (mkF m pc Ls S) := by
  obtain ⟨⟨locs, Y, N⟩, hh, hn, hx, hZ, hby, hml, hown, hnm, hret, hlk⟩ := X
  subst hpc
  exact own_by K fun t kk => Y.ldcInt hx hown (mvT hZ hw) (g := mkF m pc Ls S) rfl (hb hby hd) t kk
theorem own_ldc2 {i : Nat} {v : Int64} (X : own_S Z n0 bytes y ml ret p l e R s m args below meth c T k sl h) (hw : (Jvm.Cond.constantLong y.cls i v).before a0 Z = true) (hd : decode bytes pc = .ok (.ldc2_w i, 3)) (hpc : pc + 3 = pc') (K : own_G p e below Φ T (mkF m pc' Ls (.long v :: S))) : own_G p e below Φ T (mkF m pc Ls S) := by
  obtain ⟨⟨locs, Y, N⟩, hh, hn, hx, hZ, hby, hml, hown, hnm, hret, hlk⟩ := X
  subst hpc
  exact own_by K fun t kk => Y.ldc2Long hx hown (mvT hZ hw) (g := mkF m pc Ls S) rfl (hb hby hd) t kk
theorem own_ret {w' : Option Value} {Θ : Heap → Prop} {w : Value} {t : FieldType} {i : Instr} (X : own_S Z n0 bytes y ml (some t) p l e R s m args below meth c T k sl h)
    (hd : decode bytes pc = .ok (i, 1)) (hi : (i = .ireturn ∧ (t = .int ∨ t = .boolean ∨ t = .byte ∨ t = .char ∨ t = .short) ∧ ∃ z, w = .int z) ∨ (i = .lreturn ∧ t = .long ∧ ∃ z, w = .long z) ∨ (i = .dreturn ∧ t = .double ∧ ∃ z, w = .double z) ∨ (i = .freturn ∧ t = .float ∧ ∃ z, w = .float z) ∨ (i = .areturn ∧ t.isReference = true ∧ w.isRef = true))
    (hnw : narrow t w = w) (hk : k ≤ R.cells) (hs : sl ≤ R.slots) (hw : some w = w') (hΘ : Θ h) : own_G p e below (own_Q n0 below s R w' Θ) T (mkF m pc Ls (w :: S)) := by
  obtain ⟨⟨locs, Y, N⟩, hh, hn, hx, hZ, hby, hml, hown, hnm, hret, hlk⟩ := X
  obtain ⟨fs, hr, hrun, hended, hW, hsame⟩ := Y.leave (v := some w) (fun h => by rw [hret] at h; cases h) hlk
  refine ⟨_, _, retOut Y hx hret hnw hi (hb hby hd) hr, hrun, hended, _, _, rfl, ⟨⟨hw, ?_⟩, N⟩, ⟨_, rfl⟩, hW, hsame.mono hk hs⟩
  show Θ T.heap
  rw [hh]; exact hΘ
theorem own_retV {w' : Option Value} {Θ : Heap → Prop} (X : own_S Z n0 bytes y ml none p l e R s m args below meth c T k sl h)
    (hd : decode bytes pc = .ok (.return_, 1)) (hk : k ≤ R.cells) (hs : sl ≤ R.slots) (hw : none = w') (hΘ : Θ h) : own_G p e below (own_Q n0 below s R w' Θ) T (mkF m pc Ls []) := by
  obtain ⟨⟨locs, Y, N⟩, hh, hn, hx, hZ, hby, hml, hown, hnm, hret, hlk⟩ := X
  obtain ⟨fs, hr, hrun, hended, hW, hsame⟩ := Y.leave (v := none) (fun _ => rfl) hlk
  refine ⟨_, _, Y.returnOut hx hret (hb hby hd) hr, hrun, hended, _, _, rfl, ⟨⟨hw, ?_⟩, N⟩, ⟨_, rfl⟩, hW, hsame.mono hk hs⟩
  show Θ T.heap
  rw [hh]; exact hΘ
theorem own_retZ {w' : Option Value} {Θ : Heap → Prop} {z : Int32} (X : own_S Z n0 bytes y ml (some .boolean) p l e R s m args below meth c T k sl h) (hd : decode bytes pc = .ok (.ireturn, 1)) (hz : z &&& 1 = z) (hk : k ≤ R.cells) (hs : sl ≤ R.slots) (hw : some (.int z) = w') (hΘ : Θ h) : own_G p e below (own_Q n0 below s R w' Θ) T (mkF m pc Ls (.int z :: S)) :=
  own_ret X hd (Or.inl ⟨rfl, by simp, _, rfl⟩) (by simp [narrow, hz]) hk hs hw hΘ
theorem own_retI {w' : Option Value} {Θ : Heap → Prop} {z : Int32} (X : own_S Z n0 bytes y ml (some .int) p l e R s m args below meth c T k sl h) (hd : decode bytes pc = .ok (.ireturn, 1)) (hk : k ≤ R.cells) (hs : sl ≤ R.slots) (hw : some (.int z) = w') (hΘ : Θ h) : own_G p e below (own_Q n0 below s R w' Θ) T (mkF m pc Ls (.int z :: S)) :=
  own_ret X hd (Or.inl ⟨rfl, by simp, _, rfl⟩) rfl hk hs hw hΘ
theorem own_retB {w' : Option Value} {Θ : Heap → Prop} {z : Int32} (X : own_S Z n0 bytes y ml (some .byte) p l e R s m args below meth c T k sl h) (hd : decode bytes pc = .ok (.ireturn, 1)) (hz : z.toInt8.toInt32 = z) (hk : k ≤ R.cells) (hs : sl ≤ R.slots) (hw : some (.int z) = w') (hΘ : Θ h) : own_G p e below (own_Q n0 below s R w' Θ) T (mkF m pc Ls (.int z :: S)) :=
  own_ret X hd (Or.inl ⟨rfl, by simp, _, rfl⟩) (by simp [narrow, hz]) hk hs hw hΘ
theorem own_retL {w' : Option Value} {Θ : Heap → Prop} {z : Int64} (X : own_S Z n0 bytes y ml (some .long) p l e R s m args below meth c T k sl h) (hd : decode bytes pc = .ok (.lreturn, 1)) (hk : k ≤ R.cells) (hs : sl ≤ R.slots) (hw : some (.long z) = w') (hΘ : Θ h) : own_G p e below (own_Q n0 below s R w' Θ) T (mkF m pc Ls (.long z :: S)) :=
  own_ret X hd (Or.inr (Or.inl ⟨rfl, rfl, _, rfl⟩)) rfl hk hs hw hΘ
theorem own_callS {z : MethodName} {cb : ByteArray} {cml : Nat} {cret : Option FieldType} {crm : Room} {i : Nat} {argsL rest S' : List Value} {w : Option Value} {Θ : Heap → Prop} (X : own_S Z n0 bytes y ml ret p l e R s m args below meth c T k sl h) (M : own_Met l z cb cml cret crm Z n0 argsL.toArray h w Θ)
    (w1 : (Jvm.Cond.methodLink y.cls i z).before a0 Z = true) (w2 : (Jvm.Cond.static z).before a0 Z = true) (w3 : (Jvm.Cond.initialized z.cls).before a0 Z = true) (w4 : (Jvm.Cond.code z cb cml cret).before a0 Z = true) (hz : z.cls ≠ "java/lang/invoke/MethodHandle" ∧ z.cls ≠ "java/lang/invoke/VarHandle")
    {W : Nat} (hf : crm.frames + 1 ≤ R.frames) (hl : W + (cml + 11) + crm.locals ≤ R.locals) (hc0 : crm.cells = 0) (hs0 : crm.slots = 0) (hc : k ≤ R.cells) (hs : sl ≤ R.slots)
    (hlen : ∀ sig, parseMethodDescriptor z.desc = some sig → argsL.length = sig.parameters.length) (hst : S = argsL.reverse ++ rest) (hW : 2 * 0 + (rest.map fun v => v.category).sum ≤ W) (hsz : Ls.size = ml)
    (hd : decode bytes pc = .ok (.invokestatic i, 3)) (hpc : pc + 3 = pc')
    (hS' : w.toList ++ rest = S') (K : ∀ T' h', own_S Z n0 bytes y ml ret p l e R s m args below meth c T' k sl h' → Θ h' → own_G p e below Φ T' (mkF m pc' Ls S')) : own_G p e below Φ T (mkF m pc Ls S) := by
  obtain ⟨⟨locs, Y, N⟩, hh, hn, hx, hZ, hby, hml, hown, hnm, hret, hlk⟩ := X
  subst hpc
  obtain ⟨v, _, ⟨T', L', k', n'⟩, -, X', ⟨Lc, hQ, l1, y1, z1⟩, st⟩ := Jvm.LawKit.callS Y hx (y := z) hown (mvT hZ w1) (mvT hZ w2) (mvT hZ w3) (mvT hZ w4) hz (backOf (W := W) (Q := fun v h' L => (v = w ∧ Θ h') ∧ Fr n0 L) (M []) hZ w4 w3 hf hl) (g := mkF m pc Ls S) rfl (by rw [hml]; exact hsz) (argsL := argsL) (rest := rest) hlen hst hW (hb hby hd) (fun _ _ => ⟨rfl, hh, by rw [hc0]; exact hc, by rw [hs0]; exact hs⟩)
  dsimp only [Pt.U, Pt.locs, Pt.cells, Pt.slots] at X' l1 y1 z1 st hQ
  subst l1 y1 z1
  obtain ⟨⟨rfl, hQ1⟩, hQ2⟩ := hQ
  rw [hc0, hs0] at X'
  subst hS'
  exact own_by (K T' _ ⟨⟨_, X', N.app hQ2⟩, rfl, hn, hx, hZ, hby, hml, hown, hnm, hret, hlk⟩ hQ1) st
theorem own_callI {z : MethodName} {cb : ByteArray} {cml : Nat} {crm : Room} {i : Nat} {a : Addr} {argsL rest S' : List Value} {w : Option Value} {Θ : Heap → Prop} (X : own_S Z n0 bytes y ml ret p l e R s m args below meth c T k sl h) (M : own_Met l z cb cml none crm Z n0 (.ref a :: argsL).toArray h w Θ) (hi : z.name = "<init>")
    (w1 : (Jvm.Cond.methodLink y.cls i z).before a0 Z = true) (w2 : (Jvm.Cond.instanceMethod z).before a0 Z = true) (w3 : (Jvm.Cond.initialized z.cls).before a0 Z = true) (w4 : (Jvm.Cond.code z cb cml none).before a0 Z = true) (hz : z.cls ≠ "java/lang/invoke/MethodHandle" ∧ z.cls ≠ "java/lang/invoke/VarHandle")
    {W : Nat} (hf : crm.frames + 1 ≤ R.frames) (hl : W + (cml + 11) + crm.locals ≤ R.locals) (hc0 : crm.cells = 0) (hs0 : crm.slots = 0) (hc : k ≤ R.cells) (hs : sl ≤ R.slots)
    (hlen : ∀ sig, parseMethodDescriptor z.desc = some sig → argsL.length = sig.parameters.length) (hst : S = argsL.reverse ++ .ref a :: rest) (hW : 2 * 0 + (rest.map fun v => v.category).sum ≤ W) (hsz : Ls.size = ml)
    (hd : decode bytes pc = .ok (.invokespecial i, 3)) (hpc : pc + 3 = pc')
    (hS' : w.toList ++ rest = S') (K : ∀ T' h', own_S Z n0 bytes y ml ret p l e R s m args below meth c T' k sl h' → Θ h' → own_G p e below Φ T' (mkF m pc' Ls S')) : own_G p e below Φ T (mkF m pc Ls S) := by
  obtain ⟨⟨locs, Y, N⟩, hh, hn, hx, hZ, hby, hml, hown, hnm, hret, hlk⟩ := X
  subst hpc
  obtain ⟨v, _, ⟨T', L', k', n'⟩, -, X', ⟨Lc, hQ, l1, y1, z1⟩, st⟩ := Y.specialBack hx (y := z) hi hown (mvT hZ w1) (mvT hZ w2) (mvT hZ w4) hz (backOf (W := W) (Q := fun v h' L => (v = w ∧ Θ h') ∧ Fr n0 L) (M []) hZ w4 w3 hf hl) (g := mkF m pc Ls S) rfl (by rw [hml]; exact hsz) (Steps.refl _) (a := a) (argsL := argsL) (rest := rest) hlen hst hW (hb hby hd) (fun _ _ => ⟨rfl, hh, by rw [hc0]; exact hc, by rw [hs0]; exact hs⟩)
  dsimp only [Pt.U, Pt.locs, Pt.cells, Pt.slots] at X' l1 y1 z1 st hQ
  subst l1 y1 z1
  obtain ⟨⟨rfl, hQ1⟩, hQ2⟩ := hQ
  rw [hc0, hs0] at X'
  subst hS'
  exact own_by (K T' _ ⟨⟨_, X', N.app hQ2⟩, rfl, hn, hx, hZ, hby, hml, hown, hnm, hret, hlk⟩ hQ1) fun t kk => st.trans kk
theorem own_callV {z : MethodName} {cb : ByteArray} {cml : Nat} {cret : Option FieldType} {crm : Room} {i : Nat} {a : Addr} {argsL rest S' : List Value} {w : Option Value} {Θ : Heap → Prop} (X : own_S Z n0 bytes y ml ret p l e R s m args below meth c T k sl h) (M : own_Met l z cb cml cret crm Z n0 (.ref a :: argsL).toArray h w Θ) (E : Exa Z h a z.cls)
    (w1 : (Jvm.Cond.methodLink y.cls i z).before a0 Z = true) (w2 : (Jvm.Cond.declares z).before a0 Z = true) (w5 : (Jvm.Cond.selects z.cls z z).before a0 Z = true) (w6 : (Jvm.Cond.instanceMethod z).before a0 Z = true) (w3 : (Jvm.Cond.initialized z.cls).before a0 Z = true) (w4 : (Jvm.Cond.code z cb cml cret).before a0 Z = true) (hz : z.cls ≠ "java/lang/invoke/MethodHandle" ∧ z.cls ≠ "java/lang/invoke/VarHandle")
    {W : Nat} (hf : crm.frames + 1 ≤ R.frames) (hl : W + (cml + 11) + crm.locals ≤ R.locals) (hc0 : crm.cells = 0) (hs0 : crm.slots = 0) (hc : k ≤ R.cells) (hs : sl ≤ R.slots)
    (hlen : ∀ sig, parseMethodDescriptor z.desc = some sig → argsL.length = sig.parameters.length) (hst : S = argsL.reverse ++ .ref a :: rest) (hW : 2 * 0 + (rest.map fun v => v.category).sum ≤ W) (hsz : Ls.size = ml)
    (hd : decode bytes pc = .ok (.invokevirtual i, 3)) (hpc : pc + 3 = pc')
    (hS' : w.toList ++ rest = S') (K : ∀ T' h', own_S Z n0 bytes y ml ret p l e R s m args below meth c T' k sl h' → Θ h' → own_G p e below Φ T' (mkF m pc' Ls S')) : own_G p e below Φ T (mkF m pc Ls S) := by
  obtain ⟨⟨locs, Y, N⟩, hh, hn, hx, hZ, hby, hml, hown, hnm, hret, hlk⟩ := X
  subst hpc
  obtain ⟨cq, kq, qa, qb, qc⟩ := isOf hZ hh E
  obtain ⟨v, _, ⟨T', L', k', n'⟩, -, X', ⟨Lc, hQ, l1, y1, z1⟩, st⟩ := Y.virtualBack hx (y := z) (z := z) hown (mvT hZ w1) (mvT hZ w2) (notFace_of_selects (args := #[]) (mvT hZ w5)) (mvT hZ w5) (mvT hZ w6) hz (backOf (W := W) (Q := fun v h' L => (v = w ∧ Θ h') ∧ Fr n0 L) (M []) hZ w4 w3 hf hl) qa qc (g := mkF m pc Ls S) rfl (by rw [hml]; exact hsz) (Steps.refl _) (argsL := argsL) (rest := rest) hlen hst hW (hb hby hd) (fun _ _ => ⟨rfl, hh, by rw [hc0]; exact hc, by rw [hs0]; exact hs⟩)
  dsimp only [Pt.U, Pt.locs, Pt.cells, Pt.slots] at X' l1 y1 z1 st hQ
  subst l1 y1 z1
  obtain ⟨⟨rfl, hQ1⟩, hQ2⟩ := hQ
  rw [hc0, hs0] at X'
  subst hS'
  exact own_by (K T' _ ⟨⟨_, X', N.app hQ2⟩, rfl, hn, hx, hZ, hby, hml, hown, hnm, hret, hlk⟩ hQ1) fun t kk => st.trans kk
theorem own_getF (X : own_S Z n0 bytes y ml ret p l e R s m args below meth c T k sl h) {i : Nat} {a : Addr} {O nm d : String} {v : Value} (w : (Jvm.Cond.fieldLink y.cls i O nm d).before a0 Z = true) (F : Fld Z h a O nm d v) (hd : decode bytes pc = .ok (.getfield i, 3)) (hpc : pc + 3 = pc')
    (K : ∀ T', own_S Z n0 bytes y ml ret p l e R s m args below meth c T' k sl h → own_G p e below Φ T' (mkF m pc' Ls (v :: S))) : own_G p e below Φ T (mkF m pc Ls (.ref a :: S)) := by
  obtain ⟨⟨locs, Y, N⟩, hh, hn, hx, hZ, hby, hml, hown, hnm, hret, hlk⟩ := X
  subst hpc
  obtain ⟨T', X', e', st⟩ := getF Y hx hZ hown (host := "") (Or.inl w) Via.refl hh F (g := mkF m pc Ls (.ref a :: S)) rfl rfl (hb hby hd)
  exact own_by (K T' ⟨⟨_, X', N⟩, e', hn, hx, hZ, hby, hml, hown, hnm, hret, hlk⟩) st
theorem own_putF (X : own_S Z n0 bytes y ml ret p l e R s m args below meth c T k sl h) {i kk : Nat} {a : Addr} {O nm d C : String} {v v' old : Value} {ty : FieldType} (w : (Jvm.Cond.fieldLink y.cls i O nm d).before a0 Z = true) (F : Fld Z h a O nm d old) (E : Exa Z h a C) (ha : n0 ≤ a)
    (L : (Jvm.Cond.lays C O nm d).before a0 Z = true ∨ ((Jvm.Cond.laysFinal C O nm d).before a0 Z = true ∧ y.cls = O ∧ y.name = "<init>")) (wi : (Jvm.Cond.instantiable C kk).before a0 Z = true) (hty : parseFieldDescriptor d = some ty) (hv : narrow ty v = v') (hf : fits ty v' = true)
    (hd : decode bytes pc = .ok (.putfield i, 3)) (hpc : pc + 3 = pc')
    (K : ∀ T' h', own_S Z n0 bytes y ml ret p l e R s m args below meth c T' k sl h' → Wr h h' a (Jvm.RoadKit.slotOf Z O nm d) v' → own_G p e below Φ T' (mkF m pc' Ls S)) : own_G p e below Φ T (mkF m pc Ls (v :: .ref a :: S)) := by
  obtain ⟨⟨locs, Y, N⟩, hh, hn, hx, hZ, hby, hml, hown, hnm, hret, hlk⟩ := X
  subst hpc
  obtain ⟨T', h', X', e', W', st⟩ := putFN Y hx hZ hown w Via.refl hh F E (L.imp id fun q => ⟨q.1, q.2.1, hnm.trans q.2.2⟩) wi hty hv hf (g := mkF m pc Ls (v :: .ref a :: S)) rfl rfl (hb hby hd)
  exact own_by (K T' h' ⟨⟨_, X', Fr.snoc X' N ha⟩, e', hn, hx, hZ, hby, hml, hown, hnm, hret, hlk⟩ W') st
theorem own_new (X : own_S Z n0 bytes y ml ret p l e R s m args below meth c T k sl h) {i n : Nat} {C : String} (w : (Jvm.Cond.classLink y.cls i C).before a0 Z = true) (wi : (Jvm.Cond.instantiable C n).before a0 Z = true) (wz : (Jvm.Cond.initialized C).before a0 Z = true) (hd : decode bytes pc = .ok (.new i, 3)) (hpc : pc + 3 = pc') (hc : k + 1 ≤ R.cells) (hs : sl + n ≤ R.slots)
    (K : ∀ T' h' a, own_S Z n0 bytes y ml ret p l e R s m args below meth c T' (k + 1) (sl + n) h' → n0 ≤ a → a = h.size → Ext h h' → Exa Z h' a C → (∀ {O nm d : String} {ty : FieldType}, Laid Z a0 C O nm d → parseFieldDescriptor d = some ty → Fld Z h' a O nm d (defaultValue ty)) → own_G p e below Φ T' (mkF m pc' Ls (.ref a :: S))) : own_G p e below Φ T (mkF m pc Ls S) := by
  have hsz := X.size
  obtain ⟨⟨locs, Y, N⟩, hh, hn, hx, hZ, hby, hml, hown, hnm, hret, hlk⟩ := X
  subst hpc
  obtain ⟨T', h', X', e', E', A', D', -, st⟩ := newO Y hx hZ hown w wi wz hh (g := mkF m pc Ls S) rfl (hb hby hd) hc hs
  exact own_by (K T' h' h.size ⟨⟨_, X', N⟩, e', hn, hx, hZ, hby, hml, hown, hnm, hret, hlk⟩ hsz rfl E' A' D') st
def own_A (Z : State) (h : Heap) (a : Addr) (ty : FieldType) (vs : List Int32) : Prop := ∃ cl : Cell, Arr Z h a cl ty ∧ cl.slots.size = vs.length ∧ ∀ j, j < vs.length → cl.slots[j]? = some (.int (vs.getD j 0))
theorem own_A.ext {h' : Heap} {a : Addr} {ty : FieldType} {vs : List Int32} (A : own_A Z h a ty vs) (E : Ext h h') : own_A Z h' a ty vs := by obtain ⟨cl, q, r⟩ := A; exact ⟨cl, q.ext E, r⟩
theorem own_A.other {h' : Heap} {a b : Addr} {ty : FieldType} {vs : List Int32} {i : Nat} {v : Value} (A : own_A Z h b ty vs) (W : Wr h h' a i v) (q : b ≠ a) : own_A Z h' b ty vs := by obtain ⟨cl, r, t⟩ := A; exact ⟨cl, r.other W q, t⟩
theorem own_A.keep {h' : Heap} {a : Addr} {ty : FieldType} {vs : List Int32} {ws : List Addr} (A : own_A Z h a ty vs) (K : Keep h h' ws) (q : a ∉ ws) : own_A Z h' a ty vs := by obtain ⟨cl, r, t⟩ := A; exact ⟨cl, ⟨K.2.1 a cl r.1 q, r.2⟩, t⟩
theorem own_A.lt {a : Addr} {ty : FieldType} {vs : List Int32} (A : own_A Z h a ty vs) : a < h.size := by obtain ⟨cl, q, r⟩ := A; exact q.lt
def own_in (j : Int32) (n : Nat) : Bool := decide (0 ≤ j.toInt) && Nat.blt j.toNatClampNeg n
theorem own_in_not {j : Int32} {n : Nat} (q : own_in j n = true) : j.toNatClampNeg < n ∧ ¬ (j < 0 ∨ n ≤ j.toNatClampNeg) := by
  simp only [own_in, Bool.and_eq_true, decide_eq_true_eq] at q
  have h2 : j.toNatClampNeg < n := Nat.le_of_ble_eq_true q.2
  refine ⟨h2, ?_⟩
  simp only [Int32.lt_iff_toInt_lt, Int32.reduceToInt]
  omega
theorem own_baload (X : own_S Z n0 bytes y ml ret p l e R s m args below meth c T k sl h) {a : Addr} {vs : List Int32} {j v : Int32} (A : own_A Z h a .byte vs) (hj : own_in j vs.length = true) (hv : vs.getD j.toNatClampNeg 0 = v) (hd : decode bytes pc = .ok (.baload, 1)) (hpc : pc + 1 = pc') (K : own_G p e below Φ T (mkF m pc' Ls (.int v :: S))) : own_G p e below Φ T (mkF m pc Ls (.int j :: .ref a :: S)) := by
  obtain ⟨⟨locs, Y, N⟩, hh, hn, hx, hZ, hby, hml, hown, hnm, hret, hlk⟩ := X
  subst hpc
  obtain ⟨cl, q, r, t⟩ := A
  obtain ⟨j1, j2⟩ := own_in_not hj
  exact own_by K fun t' kk => Y.baloadBytes hx (j := j) (v := .int v) (by rw [hh]; exact q.1) (State.isArrayOf_alike hZ.alike q.2.1) q.2.2 (by rw [r]; exact j2) (by rw [t _ j1, hv]) (g := mkF m pc Ls (.int j :: .ref a :: S)) rfl rfl (hb hby hd) t' kk
theorem own_iaload (X : own_S Z n0 bytes y ml ret p l e R s m args below meth c T k sl h) {a : Addr} {vs : List Int32} {j v : Int32} (A : own_A Z h a .int vs) (hj : own_in j vs.length = true) (hv : vs.getD j.toNatClampNeg 0 = v) (hd : decode bytes pc = .ok (.iaload, 1)) (hpc : pc + 1 = pc') (K : own_G p e below Φ T (mkF m pc' Ls (.int v :: S))) : own_G p e below Φ T (mkF m pc Ls (.int j :: .ref a :: S)) := by
  obtain ⟨⟨locs, Y, N⟩, hh, hn, hx, hZ, hby, hml, hown, hnm, hret, hlk⟩ := X
  subst hpc
  obtain ⟨cl, q, r, t⟩ := A
  obtain ⟨j1, j2⟩ := own_in_not hj
  exact own_by K fun t' kk => Y.iaload hx (j := j) (v := .int v) (by rw [hh]; exact q.1) (State.isArrayOf_alike hZ.alike q.2.1) q.2.2 (by rw [r]; exact j2) (by rw [t _ j1, hv]) (g := mkF m pc Ls (.int j :: .ref a :: S)) rfl rfl (hb hby hd) t' kk
theorem own_len (X : own_S Z n0 bytes y ml ret p l e R s m args below meth c T k sl h) {a : Addr} {ty : FieldType} {vs : List Int32} {v : Int32} (A : own_A Z h a ty vs) (hv : vs.length.toInt32 = v) (hd : decode bytes pc = .ok (.arraylength, 1)) (hpc : pc + 1 = pc') (K : own_G p e below Φ T (mkF m pc' Ls (.int v :: S))) : own_G p e below Φ T (mkF m pc Ls (.ref a :: S)) := by
  obtain ⟨⟨locs, Y, N⟩, hh, hn, hx, hZ, hby, hml, hown, hnm, hret, hlk⟩ := X
  subst hpc
  obtain ⟨cl, q, r, t⟩ := A
  exact own_by K fun t' kk => Y.arraylength hx (by rw [hh]; exact q.1) (State.isArrayOf_alike hZ.alike q.2.1) (g := mkF m pc Ls (.ref a :: S)) rfl rfl (hb hby hd) t' (by rw [r, hv]; exact kk)
theorem own_set {h' : Heap} {a : Addr} {ty : FieldType} {vs : List Int32} {i : Nat} {v : Int32} {cl : Cell} (q : Arr Z h a cl ty) (r : cl.slots.size = vs.length) (t : ∀ j, j < vs.length → cl.slots[j]? = some (.int (vs.getD j 0))) (hi : i < vs.length) (W : Wr h h' a i (.int v)) : own_A Z h' a ty (vs.set i v) := by
  refine ⟨cl.setSlot i (.int v), q.same W, by rw [sz_set, r, List.length_set], fun j hj => ?_⟩
  rw [List.length_set] at hj
  have hc : i < cl.slots.size := by rw [r]; exact hi
  show (cl.slots.setIfInBounds i (.int v))[j]? = _
  rw [Array.getElem?_setIfInBounds]
  by_cases e : i = j
  · subst e
    simp [hc, List.getD_eq_getElem?_getD, hi]
  · simp only [e, if_false]
    rw [t j hj]
    simp [List.getD_eq_getElem?_getD, List.getElem?_set, e]
theorem own_bastore (X : own_S Z n0 bytes y ml ret p l e R s m args below meth c T k sl h) {a : Addr} {vs vs' : List Int32} {j v v' : Int32} (A : own_A Z h a .byte vs) (ha : n0 ≤ a) (hj : own_in j vs.length = true) (hv : v.toInt8.toInt32 = v') (hvs : vs.set j.toNatClampNeg v' = vs') (hd : decode bytes pc = .ok (.bastore, 1)) (hpc : pc + 1 = pc')
    (K : ∀ T' h', own_S Z n0 bytes y ml ret p l e R s m args below meth c T' k sl h' → own_A Z h' a .byte vs' → Wr h h' a j.toNatClampNeg (.int v') → own_G p e below Φ T' (mkF m pc' Ls S)) : own_G p e below Φ T (mkF m pc Ls (.int v :: .int j :: .ref a :: S)) := by
  obtain ⟨⟨locs, Y, N⟩, hh, hn, hx, hZ, hby, hml, hown, hnm, hret, hlk⟩ := X
  subst hpc hvs hv
  obtain ⟨cl, q, r, t⟩ := A
  obtain ⟨j1, j2⟩ := own_in_not hj
  obtain ⟨T', h', X', e', W', st⟩ := stB Y hx hZ hh q (j := j) (x := v) (by rw [r]; exact j2) (g := mkF m pc Ls (.int v :: .int j :: .ref a :: S)) rfl rfl (hb hby hd)
  exact own_by (K T' h' ⟨⟨_, X', Fr.snoc X' N ha⟩, e', hn, hx, hZ, hby, hml, hown, hnm, hret, hlk⟩ (own_set q r t j1 W') W') st
theorem own_iastore (X : own_S Z n0 bytes y ml ret p l e R s m args below meth c T k sl h) {a : Addr} {vs vs' : List Int32} {j v : Int32} (A : own_A Z h a .int vs) (ha : n0 ≤ a) (hj : own_in j vs.length = true) (hvs : vs.set j.toNatClampNeg v = vs') (hd : decode bytes pc = .ok (.iastore, 1)) (hpc : pc + 1 = pc')
    (K : ∀ T' h', own_S Z n0 bytes y ml ret p l e R s m args below meth c T' k sl h' → own_A Z h' a .int vs' → Wr h h' a j.toNatClampNeg (.int v) → own_G p e below Φ T' (mkF m pc' Ls S)) : own_G p e below Φ T (mkF m pc Ls (.int v :: .int j :: .ref a :: S)) := by
  obtain ⟨⟨locs, Y, N⟩, hh, hn, hx, hZ, hby, hml, hown, hnm, hret, hlk⟩ := X
  subst hpc hvs
  obtain ⟨cl, q, r, t⟩ := A
  obtain ⟨j1, j2⟩ := own_in_not hj
  obtain ⟨T', h', X', e', W', st⟩ := stI Y hx hZ hh q (j := j) (x := v) (by rw [r]; exact j2) (g := mkF m pc Ls (.int v :: .int j :: .ref a :: S)) rfl rfl (hb hby hd)
  exact own_by (K T' h' ⟨⟨_, X', Fr.snoc X' N ha⟩, e', hn, hx, hZ, hby, hml, hown, hnm, hret, hlk⟩ (own_set q r t j1 W') W') st
theorem own_newarr (X : own_S Z n0 bytes y ml ret p l e R s m args below meth c T k sl h) {aty : ArrayType} {n : Int32} {len : Nat} {vs : List Int32} (w : (Jvm.Cond.arrayClass (newarray.typeOf aty)).before a0 Z = true) (hty : defaultValue (newarray.typeOf aty) = .int 0) (hn0 : ¬ n < 0) (hlen : n.toNatClampNeg = len) (hvs : List.replicate len 0 = vs) (hbig : len * 8 ≤ 536870912) (hd : decode bytes pc = .ok (.newarray aty, 2)) (hpc : pc + 2 = pc') (hc : k + 1 ≤ R.cells) (hs : sl + len ≤ R.slots)
    (K : ∀ T' h' a, own_S Z n0 bytes y ml ret p l e R s m args below meth c T' (k + 1) (sl + len) h' → n0 ≤ a → a = h.size → Ext h h' → own_A Z h' a (newarray.typeOf aty) vs → own_G p e below Φ T' (mkF m pc' Ls (.ref a :: S))) : own_G p e below Φ T (mkF m pc Ls (.int n :: S)) := by
  have hsz := X.size
  obtain ⟨⟨locs, Y, N⟩, hh, hn, hx, hZ, hby, hml, hown, hnm, hret, hlk⟩ := X
  subst hpc hvs hlen
  obtain ⟨T', h', cA, X', e', E', A', st⟩ := newP Y hx hZ w hh (g := mkF m pc Ls (.int n :: S)) rfl (hb hby hd) rfl hn0 (cap := n.toNatClampNeg) (Nat.le_refl _) hbig hc hs
  refine own_by (K T' h' h.size ⟨⟨_, X', N⟩, e', hn, hx, hZ, hby, hml, hown, hnm, hret, hlk⟩ hsz rfl E' ⟨_, A', by rw [sz_new, List.length_replicate], fun j hj => ?_⟩) st
  rw [List.length_replicate] at hj
  simp [newA, hj, hty, List.getD_eq_getElem?_getD]
theorem own_b8 (v : Int32) : (v.toInt8.toInt32).toInt8.toInt32 = v.toInt8.toInt32 := by simp
end OwnKit
def own_tc (c0 c1 : Int32) : Int32 := (((c0 &&& (15 : Int32)) <<< ((4 : Int32) &&& 31)) ||| (((c1 &&& (255 : Int32)).toUInt32 >>> ((4 : Int32) &&& 31).toUInt32).toInt32))
theorem own_rg15 {a v : Int32} (e : a &&& (15 : Int32) = v) : 0 ≤ v.toInt ∧ v.toInt < 16 := by
  have h := c_mask a 15 4 (by decide) (by decide)
  rw [e] at h; omega
theorem own_rg255 {a v : Int32} (e : a &&& (255 : Int32) = v) : 0 ≤ v.toInt ∧ v.toInt < 256 := by
  have h := c_mask a 255 8 (by decide) (by decide)
  rw [e] at h; omega
theorem own_P0 (v tc : Int32) (hv : 0 ≤ v.toInt ∧ v.toInt < 16) (ht : 0 ≤ tc.toInt ∧ tc.toInt < 256) : (((((v <<< ((4 : Int32) &&& 31)).toInt8.toInt32) ||| (((tc.toUInt32 >>> ((4 : Int32) &&& 31).toUInt32).toInt32).toInt8.toInt32)).toInt8.toInt32).toInt - (v.toInt * 16 + tc.toInt / 16)) % 256 = 0 := by
  have s1 := c_ishl v 4 4 (by decide)
  generalize v <<< ((4 : Int32) &&& 31) = f at *
  have b1 := c_i2b f
  have s2 := c_iushr tc 4 4 (by decide) (by decide)
  generalize ((tc.toUInt32 >>> ((4 : Int32) &&& 31).toUInt32).toInt32) = t at *
  have b2 := c_i2b t
  generalize f.toInt8.toInt32 = f' at *
  generalize t.toInt8.toInt32 = t' at *
  have o := c_or f' t' 4 (by decide) 16 (by decide) (by omega) (by omega) (by omega)
  have b3 := c_i2b (f' ||| t')
  omega
theorem own_P1 (tc : Int32) (ht : 0 ≤ tc.toInt ∧ tc.toInt < 256) : ((tc &&& (15 : Int32)) <<< ((4 : Int32) &&& 31)).toInt = (tc.toInt % 16) * 16 ∧ ((((tc &&& (15 : Int32)) <<< ((4 : Int32) &&& 31)).toInt8.toInt32).toInt - (tc.toInt % 16) * 16) % 256 = 0 := by
  have m := c_mask tc 15 4 (by decide) (by decide)
  generalize tc &&& (15 : Int32) = q at *
  have s1 := c_ishl q 4 4 (by decide)
  generalize q <<< ((4 : Int32) &&& 31) = f at *
  have b1 := c_i2b f
  have r := rng32 f
  omega
theorem own_m0 (v tc : Int32) (hv : 0 ≤ v.toInt ∧ v.toInt < 16) (ht : 0 ≤ tc.toInt ∧ tc.toInt < 256) : ((((v <<< ((4 : Int32) &&& 31)).toInt8.toInt32) ||| (((tc.toUInt32 >>> ((4 : Int32) &&& 31).toUInt32).toInt32).toInt8.toInt32)).toInt8.toInt32) &&& (255 : Int32) = ((v <<< ((4 : Int32) &&& 31)) ||| (tc >>> ((4 : Int32) &&& 31))) := by
  have h := own_P0 v tc hv ht
  generalize ((((v <<< ((4 : Int32) &&& 31)).toInt8.toInt32) ||| (((tc.toUInt32 >>> ((4 : Int32) &&& 31).toUInt32).toInt32).toInt8.toInt32)).toInt8.toInt32) = P at *
  have m := c_mask P 255 8 (by decide) (by decide)
  have s1 := c_ishl v 4 4 (by decide)
  have s2 := c_ishr tc 4 4 (by decide)
  generalize v <<< ((4 : Int32) &&& 31) = f at *
  generalize tc >>> ((4 : Int32) &&& 31) = t at *
  have r := rng32 f
  have o := c_or f t 4 (by decide) 16 (by decide) (by omega) (by omega) (by omega)
  have r2 := rng32 (f ||| t)
  apply Int32.toInt_inj.mp
  omega
theorem own_m1 (tc : Int32) (ht : 0 ≤ tc.toInt ∧ tc.toInt < 256) : (((tc &&& (15 : Int32)) <<< ((4 : Int32) &&& 31)).toInt8.toInt32) &&& (255 : Int32) = ((tc &&& (15 : Int32)) <<< ((4 : Int32) &&& 31)) := by
  have h := own_P1 tc ht
  have m := c_mask (((tc &&& (15 : Int32)) <<< ((4 : Int32) &&& 31)).toInt8.toInt32) 255 8 (by decide) (by decide)
  apply Int32.toInt_inj.mp
  omega
theorem own_m7 (hh : Int32) (ht : 0 ≤ hh.toInt ∧ hh.toInt < 256) : (hh.toInt8.toInt32) &&& (255 : Int32) = hh := by
  have b1 := c_i2b hh
  have m := c_mask (hh.toInt8.toInt32) 255 8 (by decide) (by decide)
  apply Int32.toInt_inj.mp
  omega
theorem own_mt (v tc : Int32) (hv : 0 ≤ v.toInt ∧ v.toInt < 16) (ht : 0 ≤ tc.toInt ∧ tc.toInt < 256) : own_tc ((((v <<< ((4 : Int32) &&& 31)).toInt8.toInt32) ||| (((tc.toUInt32 >>> ((4 : Int32) &&& 31).toUInt32).toInt32).toInt8.toInt32)).toInt8.toInt32) (((tc &&& (15 : Int32)) <<< ((4 : Int32) &&& 31)).toInt8.toInt32) = tc := by
  have h0 := own_P0 v tc hv ht
  have h1 := own_P1 tc ht
  generalize ((((v <<< ((4 : Int32) &&& 31)).toInt8.toInt32) ||| (((tc.toUInt32 >>> ((4 : Int32) &&& 31).toUInt32).toInt32).toInt8.toInt32)).toInt8.toInt32) = A at *
  generalize (((tc &&& (15 : Int32)) <<< ((4 : Int32) &&& 31)).toInt8.toInt32) = B at *
  unfold own_tc
  have m0 := c_mask A 15 4 (by decide) (by decide)
  have m1 := c_mask B 255 8 (by decide) (by decide)
  generalize A &&& (15 : Int32) = a at *
  generalize B &&& (255 : Int32) = b at *
  have s1 := c_ishl a 4 4 (by decide)
  have s2 := c_iushr b 4 4 (by decide) (by decide)
  generalize a <<< ((4 : Int32) &&& 31) = f at *
  generalize ((b.toUInt32 >>> ((4 : Int32) &&& 31).toUInt32).toInt32) = t at *
  have r := rng32 f
  have o := c_or f t 4 (by decide) 16 (by decide) (by omega) (by omega) (by omega)
  have r2 := rng32 (f ||| t)
  apply Int32.toInt_inj.mp
  omega
theorem d1_0 : decode prog_29_method_6_code 0 = .ok (.aload_n 0, 1) := by decide +kernel
theorem d1_1 : decode prog_29_method_6_code 1 = .ok (.iconst 0, 1) := by decide +kernel
theorem d1_2 : decode prog_29_method_6_code 2 = .ok (.dup2, 1) := by decide +kernel
theorem d1_3 : decode prog_29_method_6_code 3 = .ok (.baload, 1) := by decide +kernel
theorem d1_4 : decode prog_29_method_6_code 4 = .ok (.iload_n 1, 1) := by decide +kernel
theorem d1_5 : decode prog_29_method_6_code 5 = .ok (.iconst 4, 1) := by decide +kernel
theorem d1_6 : decode prog_29_method_6_code 6 = .ok (.iushr, 1) := by decide +kernel
theorem d1_7 : decode prog_29_method_6_code 7 = .ok (.i2b, 1) := by decide +kernel
theorem d1_8 : decode prog_29_method_6_code 8 = .ok (.ior, 1) := by decide +kernel
theorem d1_9 : decode prog_29_method_6_code 9 = .ok (.i2b, 1) := by decide +kernel
theorem d1_10 : decode prog_29_method_6_code 10 = .ok (.bastore, 1) := by decide +kernel
theorem d1_11 : decode prog_29_method_6_code 11 = .ok (.aload_n 0, 1) := by decide +kernel
theorem d1_12 : decode prog_29_method_6_code 12 = .ok (.iconst 1, 1) := by decide +kernel
theorem d1_13 : decode prog_29_method_6_code 13 = .ok (.iload_n 1, 1) := by decide +kernel
theorem d1_14 : decode prog_29_method_6_code 14 = .ok (.bipush 15, 2) := by decide +kernel
theorem d1_16 : decode prog_29_method_6_code 16 = .ok (.iand, 1) := by decide +kernel
theorem d1_17 : decode prog_29_method_6_code 17 = .ok (.iconst 4, 1) := by decide +kernel
theorem d1_18 : decode prog_29_method_6_code 18 = .ok (.ishl, 1) := by decide +kernel
theorem d1_19 : decode prog_29_method_6_code 19 = .ok (.i2b, 1) := by decide +kernel
theorem d1_20 : decode prog_29_method_6_code 20 = .ok (.bastore, 1) := by decide +kernel
theorem d1_21 : decode prog_29_method_6_code 21 = .ok (.aload_n 0, 1) := by decide +kernel
theorem d1_22 : decode prog_29_method_6_code 22 = .ok (.bipush 7, 2) := by decide +kernel
theorem d1_24 : decode prog_29_method_6_code 24 = .ok (.iload_n 2, 1) := by decide +kernel
theorem d1_25 : decode prog_29_method_6_code 25 = .ok (.i2b, 1) := by decide +kernel
theorem d1_26 : decode prog_29_method_6_code 26 = .ok (.bastore, 1) := by decide +kernel
theorem d1_27 : decode prog_29_method_6_code 27 = .ok (.return_, 1) := by decide +kernel
theorem pn_rm1 : plainFor (⟨"com/example/sheath/sheath/ip/Ipv6", "start", "([BII)V"⟩ : MethodName) = true := plainFor_of_name (by first | (simp [plainName, overriddenIn]; done) | decide +kernel)
theorem ef_rm1 (m : MethodId) (x0 : Addr) (x1 : Int32) (x2 : Int32) : entryFrame m #[(.ref x0), (.int x1), (.int x2)] 3 = mkF m 0 #[.val (.ref x0), .val (.int x1), .val (.int x2)] [] := by first | (simp [entryFrame, mkF, argsToLocals, Value.category]; done) | rfl
set_option maxRecDepth 65536 in
set_option maxHeartbeats 4000000 in
theorem rm1 (l : Launch) (Z : State) (a0 : Array Value) (hw : ∀ d ∈ tables_1, d.before a0 Z = true) (n0 : Nat) (a : Addr) (tc : Int32) (hh : Int32) (h0 : Heap) (hn0 : n0 ≤ h0.size) (vs : List Int32) (A : own_A Z h0 a .byte vs) (ge : n0 ≤ a) (u : Int32) (f0 : vs.getD (0 : Int32).toNatClampNeg 0 = u) (g0 : own_in 0 vs.length = true) (g1 : own_in 1 vs.length = true) (g7 : own_in 7 vs.length = true) :
    own_Met l (⟨"com/example/sheath/sheath/ip/Ipv6", "start", "([BII)V"⟩ : MethodName) prog_29_method_6_code 3 none ({ frames := 0, cells := 0, slots := 0, locals := 0 } : Room) Z n0 #[(.ref a), (.int tc), (.int hh)] h0 none (fun h' => own_A Z h' a .byte (((vs.set ((0 : Int32)).toNatClampNeg ((u ||| (((tc.toUInt32 >>> ((4 : Int32) &&& 31).toUInt32).toInt32).toInt8.toInt32)).toInt8.toInt32)).set ((1 : Int32)).toNatClampNeg (((tc &&& (15 : Int32)) <<< ((4 : Int32) &&& 31)).toInt8.toInt32)).set ((7 : Int32)).toNatClampNeg (hh.toInt8.toInt32)) ∧ Keep h0 h' [a]) := by
  refine own_met pn_rm1 hn0 ?_
  intro p e s m below meth c T X
  refine own_cast (ef_rm1 m a tc hh) ?_
  generalize hΦ : own_Q n0 below s _ _ _ = Φ
  have K0 := Keep.refl h0 [a]
  refine own_aloadN X (pc' := 1) d1_0 rfl rfl rfl ?_
  refine own_iconst X (v := (0 : Int32)) (pc' := 2) d1_1 rfl (by decide) ?_
  refine own_dup2 X (pc' := 3) d1_2 rfl rfl rfl ?_
  refine own_baload X (v := u) (pc' := 4) A g0 f0 d1_3 rfl ?_
  refine own_iloadN X (pc' := 5) d1_4 rfl rfl ?_
  refine own_iconst X (v := (4 : Int32)) (pc' := 6) d1_5 rfl (by decide) ?_
  refine own_iushr X (r := ((tc.toUInt32 >>> ((4 : Int32) &&& 31).toUInt32).toInt32)) (pc' := 7) d1_6 rfl rfl ?_
  refine own_i2b X (r := (((tc.toUInt32 >>> ((4 : Int32) &&& 31).toUInt32).toInt32).toInt8.toInt32)) (pc' := 8) d1_7 rfl rfl ?_
  refine own_ior X (r := (u ||| (((tc.toUInt32 >>> ((4 : Int32) &&& 31).toUInt32).toInt32).toInt8.toInt32))) (pc' := 9) d1_8 rfl rfl ?_
  refine own_i2b X (r := ((u ||| (((tc.toUInt32 >>> ((4 : Int32) &&& 31).toUInt32).toInt32).toInt8.toInt32)).toInt8.toInt32)) (pc' := 10) d1_9 rfl rfl ?_
  refine own_bastore X (vs' := (vs.set ((0 : Int32)).toNatClampNeg ((u ||| (((tc.toUInt32 >>> ((4 : Int32) &&& 31).toUInt32).toInt32).toInt8.toInt32)).toInt8.toInt32))) (pc' := 11) A ge (by simpa using g0) (own_b8 _) rfl d1_10 rfl ?_
  intro T1 h1 X1 A1 W1
  have K2 := K0.wr W1 (Or.inl (by simp))
  refine own_aloadN X1 (pc' := 12) d1_11 rfl rfl rfl ?_
  refine own_iconst X1 (v := (1 : Int32)) (pc' := 13) d1_12 rfl (by decide) ?_
  refine own_iloadN X1 (pc' := 14) d1_13 rfl rfl ?_
  refine own_bipush X1 (v := (15 : Int32)) (pc' := 16) d1_14 rfl (by decide) ?_
  refine own_iand X1 (r := (tc &&& (15 : Int32))) (pc' := 17) d1_16 rfl rfl ?_
  refine own_iconst X1 (v := (4 : Int32)) (pc' := 18) d1_17 rfl (by decide) ?_
  refine own_ishl X1 (r := ((tc &&& (15 : Int32)) <<< ((4 : Int32) &&& 31))) (pc' := 19) d1_18 rfl rfl ?_
  refine own_i2b X1 (r := (((tc &&& (15 : Int32)) <<< ((4 : Int32) &&& 31)).toInt8.toInt32)) (pc' := 20) d1_19 rfl rfl ?_
  refine own_bastore X1 (vs' := ((vs.set ((0 : Int32)).toNatClampNeg ((u ||| (((tc.toUInt32 >>> ((4 : Int32) &&& 31).toUInt32).toInt32).toInt8.toInt32)).toInt8.toInt32)).set ((1 : Int32)).toNatClampNeg (((tc &&& (15 : Int32)) <<< ((4 : Int32) &&& 31)).toInt8.toInt32))) (pc' := 21) A1 ge (by simpa using g1) (own_b8 _) rfl d1_20 rfl ?_
  intro T3 h3 X3 A3 W3
  have K4 := K2.wr W3 (Or.inl (by simp))
  refine own_aloadN X3 (pc' := 22) d1_21 rfl rfl rfl ?_
  refine own_bipush X3 (v := (7 : Int32)) (pc' := 24) d1_22 rfl (by decide) ?_
  refine own_iloadN X3 (pc' := 25) d1_24 rfl rfl ?_
  refine own_i2b X3 (r := (hh.toInt8.toInt32)) (pc' := 26) d1_25 rfl rfl ?_
  refine own_bastore X3 (vs' := (((vs.set ((0 : Int32)).toNatClampNeg ((u ||| (((tc.toUInt32 >>> ((4 : Int32) &&& 31).toUInt32).toInt32).toInt8.toInt32)).toInt8.toInt32)).set ((1 : Int32)).toNatClampNeg (((tc &&& (15 : Int32)) <<< ((4 : Int32) &&& 31)).toInt8.toInt32)).set ((7 : Int32)).toNatClampNeg (hh.toInt8.toInt32))) (pc' := 27) A3 ge (by simpa using g7) (own_b8 _) rfl d1_26 rfl ?_
  intro T5 h5 X5 A5 W5
  have K6 := K4.wr W5 (Or.inl (by simp))
  subst hΦ
  exact own_retV X5 d1_27 (by decide) (by decide) rfl ⟨A5, K6⟩
theorem d2_0 : decode prog_29_method_5_code 0 = .ok (.aload_n 0, 1) := by decide +kernel
theorem d2_1 : decode prog_29_method_5_code 1 = .ok (.iconst 0, 1) := by decide +kernel
theorem d2_2 : decode prog_29_method_5_code 2 = .ok (.baload, 1) := by decide +kernel
theorem d2_3 : decode prog_29_method_5_code 3 = .ok (.bipush 15, 2) := by decide +kernel
theorem d2_5 : decode prog_29_method_5_code 5 = .ok (.iand, 1) := by decide +kernel
theorem d2_6 : decode prog_29_method_5_code 6 = .ok (.iconst 4, 1) := by decide +kernel
theorem d2_7 : decode prog_29_method_5_code 7 = .ok (.ishl, 1) := by decide +kernel
theorem d2_8 : decode prog_29_method_5_code 8 = .ok (.aload_n 0, 1) := by decide +kernel
theorem d2_9 : decode prog_29_method_5_code 9 = .ok (.iconst 1, 1) := by decide +kernel
theorem d2_10 : decode prog_29_method_5_code 10 = .ok (.baload, 1) := by decide +kernel
theorem d2_11 : decode prog_29_method_5_code 11 = .ok (.sipush 255, 3) := by decide +kernel
theorem d2_14 : decode prog_29_method_5_code 14 = .ok (.iand, 1) := by decide +kernel
theorem d2_15 : decode prog_29_method_5_code 15 = .ok (.iconst 4, 1) := by decide +kernel
theorem d2_16 : decode prog_29_method_5_code 16 = .ok (.iushr, 1) := by decide +kernel
theorem d2_17 : decode prog_29_method_5_code 17 = .ok (.ior, 1) := by decide +kernel
theorem d2_18 : decode prog_29_method_5_code 18 = .ok (.ireturn, 1) := by decide +kernel
theorem pn_rm2 : plainFor (⟨"com/example/sheath/sheath/ip/Ipv6", "trafficClass", "([B)I"⟩ : MethodName) = true := plainFor_of_name (by first | (simp [plainName, overriddenIn]; done) | decide +kernel)
theorem ef_rm2 (m : MethodId) (x0 : Addr) : entryFrame m #[(.ref x0)] 1 = mkF m 0 #[.val (.ref x0)] [] := by first | (simp [entryFrame, mkF, argsToLocals, Value.category]; done) | rfl
set_option maxRecDepth 65536 in
set_option maxHeartbeats 4000000 in
theorem rm2 (l : Launch) (Z : State) (a0 : Array Value) (hw : ∀ d ∈ tables_1, d.before a0 Z = true) (n0 : Nat) (a : Addr) (h0 : Heap) (hn0 : n0 ≤ h0.size) (vs : List Int32) (A : own_A Z h0 a .byte vs) (c0 c1 : Int32) (g0 : own_in 0 vs.length = true) (f0 : vs.getD (0 : Int32).toNatClampNeg 0 = c0) (g1 : own_in 1 vs.length = true) (f1 : vs.getD (1 : Int32).toNatClampNeg 0 = c1) :
    own_Met l (⟨"com/example/sheath/sheath/ip/Ipv6", "trafficClass", "([B)I"⟩ : MethodName) prog_29_method_5_code 1 (some .int) ({ frames := 0, cells := 0, slots := 0, locals := 0 } : Room) Z n0 #[(.ref a)] h0 (some (.int (own_tc c0 c1))) (fun h' => h' = h0) := by
  refine own_met pn_rm2 hn0 ?_
  intro p e s m below meth c T X
  refine own_cast (ef_rm2 m a) ?_
  generalize hΦ : own_Q n0 below s _ _ _ = Φ
  refine own_aloadN X (pc' := 1) d2_0 rfl rfl rfl ?_
  refine own_iconst X (v := (0 : Int32)) (pc' := 2) d2_1 rfl (by decide) ?_
  refine own_baload X (v := c0) (pc' := 3) A g0 f0 d2_2 rfl ?_
  refine own_bipush X (v := (15 : Int32)) (pc' := 5) d2_3 rfl (by decide) ?_
  refine own_iand X (r := (c0 &&& (15 : Int32))) (pc' := 6) d2_5 rfl rfl ?_
  refine own_iconst X (v := (4 : Int32)) (pc' := 7) d2_6 rfl (by decide) ?_
  refine own_ishl X (r := ((c0 &&& (15 : Int32)) <<< ((4 : Int32) &&& 31))) (pc' := 8) d2_7 rfl rfl ?_
  refine own_aloadN X (pc' := 9) d2_8 rfl rfl rfl ?_
  refine own_iconst X (v := (1 : Int32)) (pc' := 10) d2_9 rfl (by decide) ?_
  refine own_baload X (v := c1) (pc' := 11) A g1 f1 d2_10 rfl ?_
  refine own_sipush X (v := (255 : Int32)) (pc' := 14) d2_11 rfl (by decide) ?_
  refine own_iand X (r := (c1 &&& (255 : Int32))) (pc' := 15) d2_14 rfl rfl ?_
  refine own_iconst X (v := (4 : Int32)) (pc' := 16) d2_15 rfl (by decide) ?_
  refine own_iushr X (r := (((c1 &&& (255 : Int32)).toUInt32 >>> ((4 : Int32) &&& 31).toUInt32).toInt32)) (pc' := 17) d2_16 rfl rfl ?_
  refine own_ior X (r := (((c0 &&& (15 : Int32)) <<< ((4 : Int32) &&& 31)) ||| (((c1 &&& (255 : Int32)).toUInt32 >>> ((4 : Int32) &&& 31).toUInt32).toInt32))) (pc' := 18) d2_17 rfl rfl ?_
  subst hΦ
  exact own_retI X d2_18 (by decide) (by decide) rfl rfl
theorem pd_0 : parseMethodDescriptor "([BII)V" = some ⟨[(.array .byte), .int, .int], none⟩ := by decide +kernel
theorem pd_1 : parseMethodDescriptor "([B)I" = some ⟨[(.array .byte)], some .int⟩ := by decide +kernel
theorem pn_rm0 : plainFor (⟨"com/example/sheath/sheath/ip/Ipv6StartPinLaw", "law", "(III)Z"⟩ : MethodName) = true := plainFor_of_name (by first | (simp [plainName, overriddenIn]; done) | decide +kernel)
theorem ef_rm0 (m : MethodId) (x0 : Int32) (x1 : Int32) (x2 : Int32) : entryFrame m #[(.int x0), (.int x1), (.int x2)] maxLocals = mkF m 0 #[.val (.int x0), .val (.int x1), .val (.int x2), .unset, .unset, .unset, .unset, .unset, .unset, .unset, .unset, .unset] [] := by first | (simp [entryFrame, mkF, argsToLocals, Value.category, maxLocals]; done) | rfl
set_option maxRecDepth 65536 in
set_option maxHeartbeats 4000000 in
theorem rm0 (l : Launch) (Z : State) (a0 : Array Value) (hw : ∀ d ∈ tables_1, d.before a0 Z = true) (n0 : Nat) (x0 : Int32) (x1 : Int32) (x2 : Int32) (h0 : Heap) (hn0 : n0 ≤ h0.size) :
    own_Met l x code maxLocals ret room_1 Z n0 #[(.int x0), (.int x1), (.int x2)] h0 (some (.int 1)) (fun _ => True) := by
  refine own_met pn_rm0 hn0 ?_
  intro p e s m below meth c T X
  refine own_cast (ef_rm0 m x0 x1 x2) ?_
  change own_S Z n0 code x 12 ret p l e room_1 s m _ below meth c T 0 0 h0 at X
  generalize hΦ : own_Q n0 below s _ _ _ = Φ
  refine own_iloadN X (pc' := 1) at_0 rfl rfl ?_
  refine own_bipush X (v := (15 : Int32)) (pc' := 3) at_1 rfl (by decide) ?_
  refine own_iand X (r := (x0 &&& (15 : Int32))) (pc' := 4) at_3 rfl rfl ?_
  refine own_istoreN X (pc' := 5) (Ls' := #[.val (.int x0), .val (.int x1), .val (.int x2), .val (.int (x0 &&& (15 : Int32))), .unset, .unset, .unset, .unset, .unset, .unset, .unset, .unset]) at_4 rfl rfl ?_
  generalize e1 : (x0 &&& (15 : Int32)) = v1
  refine own_iloadN X (pc' := 6) at_5 rfl rfl ?_
  refine own_sipush X (v := (255 : Int32)) (pc' := 9) at_6 rfl (by decide) ?_
  refine own_iand X (r := (x1 &&& (255 : Int32))) (pc' := 10) at_9 rfl rfl ?_
  refine own_istore X (pc' := 12) (Ls' := #[.val (.int x0), .val (.int x1), .val (.int x2), .val (.int v1), .val (.int (x1 &&& (255 : Int32))), .unset, .unset, .unset, .unset, .unset, .unset, .unset]) at_10 rfl rfl ?_
  generalize e2 : (x1 &&& (255 : Int32)) = v2
  refine own_iloadN X (pc' := 13) at_12 rfl rfl ?_
  refine own_sipush X (v := (255 : Int32)) (pc' := 16) at_13 rfl (by decide) ?_
  refine own_iand X (r := (x2 &&& (255 : Int32))) (pc' := 17) at_16 rfl rfl ?_
  refine own_istore X (pc' := 19) (Ls' := #[.val (.int x0), .val (.int x1), .val (.int x2), .val (.int v1), .val (.int v2), .val (.int (x2 &&& (255 : Int32))), .unset, .unset, .unset, .unset, .unset, .unset]) at_17 rfl rfl ?_
  generalize e3 : (x2 &&& (255 : Int32)) = v3
  have hv := own_rg15 e1
  have ht := own_rg255 e2
  have hk := own_rg255 e3
  refine own_bipush X (v := (40 : Int32)) (pc' := 21) at_19 rfl (by decide) ?_
  refine own_newarr X (len := 40) (vs := [0, 0, 0, 0, 0, 0, 0, 0, 0, 0, 0, 0, 0, 0, 0, 0, 0, 0, 0, 0, 0, 0, 0, 0, 0, 0, 0, 0, 0, 0, 0, 0, 0, 0, 0, 0, 0, 0, 0, 0]) (pc' := 23) (hw _ (List.mem_of_getElem? (i := 0) rfl)) rfl (by decide) (by decide) rfl (by decide) at_21 rfl (by decide) (by decide) ?_
  intro T4 h4 ad4 X4 ge_ad4 g_ad4 E4 A4
  refine own_astore X4 (pc' := 25) (Ls' := #[.val (.int x0), .val (.int x1), .val (.int x2), .val (.int v1), .val (.int v2), .val (.int v3), .val (.ref ad4), .unset, .unset, .unset, .unset, .unset]) at_23 rfl rfl rfl ?_
  refine own_aload X4 (pc' := 27) at_25 rfl rfl rfl ?_
  refine own_iconst X4 (v := (0 : Int32)) (pc' := 28) at_27 rfl (by decide) ?_
  refine own_iloadN X4 (pc' := 29) at_28 rfl rfl ?_
  refine own_iconst X4 (v := (4 : Int32)) (pc' := 30) at_29 rfl (by decide) ?_
  refine own_ishl X4 (r := (v1 <<< ((4 : Int32) &&& 31))) (pc' := 31) at_30 rfl rfl ?_
  refine own_i2b X4 (r := ((v1 <<< ((4 : Int32) &&& 31)).toInt8.toInt32)) (pc' := 32) at_31 rfl rfl ?_
  refine own_bastore X4 (vs' := [((v1 <<< ((4 : Int32) &&& 31)).toInt8.toInt32), (0 : Int32), (0 : Int32), (0 : Int32), (0 : Int32), (0 : Int32), (0 : Int32), (0 : Int32), (0 : Int32), (0 : Int32), (0 : Int32), (0 : Int32), (0 : Int32), (0 : Int32), (0 : Int32), (0 : Int32), (0 : Int32), (0 : Int32), (0 : Int32), (0 : Int32), (0 : Int32), (0 : Int32), (0 : Int32), (0 : Int32), (0 : Int32), (0 : Int32), (0 : Int32), (0 : Int32), (0 : Int32), (0 : Int32), (0 : Int32), (0 : Int32), (0 : Int32), (0 : Int32), (0 : Int32), (0 : Int32), (0 : Int32), (0 : Int32), (0 : Int32), (0 : Int32)]) (pc' := 33) A4 ge_ad4 rfl (own_b8 _) rfl at_32 rfl ?_
  intro T5 h5 X5 A5 W5
  refine own_aload X5 (pc' := 35) at_33 rfl rfl rfl ?_
  refine own_iload X5 (pc' := 37) at_35 rfl rfl ?_
  refine own_iload X5 (pc' := 39) at_37 rfl rfl ?_
  refine own_callS X5 (W := 0) (argsL := [(.ref ad4), (.int v2), (.int v3)]) (rest := []) (S' := []) (pc' := 42) (rm1 l Z a0 hw n0 ad4 v2 v3 h5 X5.size _ A5 ge_ad4 ((v1 <<< ((4 : Int32) &&& 31)).toInt8.toInt32) rfl rfl rfl rfl) (hw _ (List.mem_of_getElem? (i := 1) rfl)) (hw _ (List.mem_of_getElem? (i := 2) rfl)) (hw _ (List.mem_of_getElem? (i := 3) rfl)) (hw _ (List.mem_of_getElem? (i := 4) rfl)) (by decide) (by decide) (by decide) rfl rfl (by decide) (by decide) (lenOf pd_0 rfl) rfl (by first | decide | exact Nat.le_of_eq rfl) rfl at_39 rfl rfl ?_
  intro T6 h6 X6 qq6
  obtain ⟨A7, K7⟩ := qq6
  replace A7 : own_A Z h6 ad4 .byte [((((v1 <<< ((4 : Int32) &&& 31)).toInt8.toInt32) ||| (((v2.toUInt32 >>> ((4 : Int32) &&& 31).toUInt32).toInt32).toInt8.toInt32)).toInt8.toInt32), (((v2 &&& (15 : Int32)) <<< ((4 : Int32) &&& 31)).toInt8.toInt32), (0 : Int32), (0 : Int32), (0 : Int32), (0 : Int32), (0 : Int32), (v3.toInt8.toInt32), (0 : Int32), (0 : Int32), (0 : Int32), (0 : Int32), (0 : Int32), (0 : Int32), (0 : Int32), (0 : Int32), (0 : Int32), (0 : Int32), (0 : Int32), (0 : Int32), (0 : Int32), (0 : Int32), (0 : Int32), (0 : Int32), (0 : Int32), (0 : Int32), (0 : Int32), (0 : Int32), (0 : Int32), (0 : Int32), (0 : Int32), (0 : Int32), (0 : Int32), (0 : Int32), (0 : Int32), (0 : Int32), (0 : Int32), (0 : Int32), (0 : Int32), (0 : Int32)] := A7
  refine own_aload X6 (pc' := 44) at_42 rfl rfl rfl ?_
  refine own_iconst X6 (v := (0 : Int32)) (pc' := 45) at_44 rfl (by decide) ?_
  refine own_baload X6 (v := ((((v1 <<< ((4 : Int32) &&& 31)).toInt8.toInt32) ||| (((v2.toUInt32 >>> ((4 : Int32) &&& 31).toUInt32).toInt32).toInt8.toInt32)).toInt8.toInt32)) (pc' := 46) A7 rfl rfl at_45 rfl ?_
  refine own_sipush X6 (v := (255 : Int32)) (pc' := 49) at_46 rfl (by decide) ?_
  refine own_iand X6 (r := (((((v1 <<< ((4 : Int32) &&& 31)).toInt8.toInt32) ||| (((v2.toUInt32 >>> ((4 : Int32) &&& 31).toUInt32).toInt32).toInt8.toInt32)).toInt8.toInt32) &&& (255 : Int32))) (pc' := 50) at_49 rfl rfl ?_
  refine own_iloadN X6 (pc' := 51) at_50 rfl rfl ?_
  refine own_iconst X6 (v := (4 : Int32)) (pc' := 52) at_51 rfl (by decide) ?_
  refine own_ishl X6 (r := (v1 <<< ((4 : Int32) &&& 31))) (pc' := 53) at_52 rfl rfl ?_
  refine own_iload X6 (pc' := 55) at_53 rfl rfl ?_
  refine own_iconst X6 (v := (4 : Int32)) (pc' := 56) at_55 rfl (by decide) ?_
  refine own_ishr X6 (r := (v2 >>> ((4 : Int32) &&& 31))) (pc' := 57) at_56 rfl rfl ?_
  refine own_ior X6 (r := ((v1 <<< ((4 : Int32) &&& 31)) ||| (v2 >>> ((4 : Int32) &&& 31)))) (pc' := 58) at_57 rfl rfl ?_
  refine own_icmp_ne X6 (pct := 65) (pc' := 61) at_58 rfl (by decide) (by decide) (fun hc => absurd hc (fun q => q (own_m0 _ _ hv ht))) (fun _ => ?_)
  refine own_iconst X6 (v := (1 : Int32)) (pc' := 62) at_61 rfl (by decide) ?_
  refine own_goto X6 (pc' := 66) at_62 (by decide) (by decide) ?_
  refine own_istore X6 (pc' := 68) (Ls' := #[.val (.int x0), .val (.int x1), .val (.int x2), .val (.int v1), .val (.int v2), .val (.int v3), .val (.ref ad4), .val (.int (1 : Int32)), .unset, .unset, .unset, .unset]) at_66 rfl rfl ?_
  refine own_aload X6 (pc' := 70) at_68 rfl rfl rfl ?_
  refine own_iconst X6 (v := (1 : Int32)) (pc' := 71) at_70 rfl (by decide) ?_
  refine own_baload X6 (v := (((v2 &&& (15 : Int32)) <<< ((4 : Int32) &&& 31)).toInt8.toInt32)) (pc' := 72) A7 rfl rfl at_71 rfl ?_
  refine own_sipush X6 (v := (255 : Int32)) (pc' := 75) at_72 rfl (by decide) ?_
  refine own_iand X6 (r := ((((v2 &&& (15 : Int32)) <<< ((4 : Int32) &&& 31)).toInt8.toInt32) &&& (255 : Int32))) (pc' := 76) at_75 rfl rfl ?_
  refine own_iload X6 (pc' := 78) at_76 rfl rfl ?_
  refine own_bipush X6 (v := (15 : Int32)) (pc' := 80) at_78 rfl (by decide) ?_
  refine own_iand X6 (r := (v2 &&& (15 : Int32))) (pc' := 81) at_80 rfl rfl ?_
  refine own_iconst X6 (v := (4 : Int32)) (pc' := 82) at_81 rfl (by decide) ?_
  refine own_ishl X6 (r := ((v2 &&& (15 : Int32)) <<< ((4 : Int32) &&& 31))) (pc' := 83) at_82 rfl rfl ?_
  refine own_icmp_ne X6 (pct := 90) (pc' := 86) at_83 rfl (by decide) (by decide) (fun hc => absurd hc (fun q => q (own_m1 _ ht))) (fun _ => ?_)
  refine own_iconst X6 (v := (1 : Int32)) (pc' := 87) at_86 rfl (by decide) ?_
  refine own_goto X6 (pc' := 91) at_87 (by decide) (by decide) ?_
  refine own_istore X6 (pc' := 93) (Ls' := #[.val (.int x0), .val (.int x1), .val (.int x2), .val (.int v1), .val (.int v2), .val (.int v3), .val (.ref ad4), .val (.int (1 : Int32)), .val (.int (1 : Int32)), .unset, .unset, .unset]) at_91 rfl rfl ?_
  refine own_aload X6 (pc' := 95) at_93 rfl rfl rfl ?_
  refine own_bipush X6 (v := (7 : Int32)) (pc' := 97) at_95 rfl (by decide) ?_
  refine own_baload X6 (v := (v3.toInt8.toInt32)) (pc' := 98) A7 rfl rfl at_97 rfl ?_
  refine own_sipush X6 (v := (255 : Int32)) (pc' := 101) at_98 rfl (by decide) ?_
  refine own_iand X6 (r := ((v3.toInt8.toInt32) &&& (255 : Int32))) (pc' := 102) at_101 rfl rfl ?_
  refine own_iload X6 (pc' := 104) at_102 rfl rfl ?_
  refine own_icmp_ne X6 (pct := 111) (pc' := 107) at_104 rfl (by decide) (by decide) (fun hc => absurd hc (fun q => q (own_m7 _ hk))) (fun _ => ?_)
  refine own_iconst X6 (v := (1 : Int32)) (pc' := 108) at_107 rfl (by decide) ?_
  refine own_goto X6 (pc' := 112) at_108 (by decide) (by decide) ?_
  refine own_istore X6 (pc' := 114) (Ls' := #[.val (.int x0), .val (.int x1), .val (.int x2), .val (.int v1), .val (.int v2), .val (.int v3), .val (.ref ad4), .val (.int (1 : Int32)), .val (.int (1 : Int32)), .val (.int (1 : Int32)), .unset, .unset]) at_112 rfl rfl ?_
  refine own_aload X6 (pc' := 116) at_114 rfl rfl rfl ?_
  refine own_callS X6 (W := 0) (argsL := [(.ref ad4)]) (rest := []) (S' := [(.int (own_tc ((((v1 <<< ((4 : Int32) &&& 31)).toInt8.toInt32) ||| (((v2.toUInt32 >>> ((4 : Int32) &&& 31).toUInt32).toInt32).toInt8.toInt32)).toInt8.toInt32) (((v2 &&& (15 : Int32)) <<< ((4 : Int32) &&& 31)).toInt8.toInt32)))]) (pc' := 119) (rm2 l Z a0 hw n0 ad4 h6 X6.size _ A7 ((((v1 <<< ((4 : Int32) &&& 31)).toInt8.toInt32) ||| (((v2.toUInt32 >>> ((4 : Int32) &&& 31).toUInt32).toInt32).toInt8.toInt32)).toInt8.toInt32) (((v2 &&& (15 : Int32)) <<< ((4 : Int32) &&& 31)).toInt8.toInt32) rfl rfl rfl rfl) (hw _ (List.mem_of_getElem? (i := 5) rfl)) (hw _ (List.mem_of_getElem? (i := 6) rfl)) (hw _ (List.mem_of_getElem? (i := 3) rfl)) (hw _ (List.mem_of_getElem? (i := 7) rfl)) (by decide) (by decide) (by decide) rfl rfl (by decide) (by decide) (lenOf pd_1 rfl) rfl (by first | decide | exact Nat.le_of_eq rfl) rfl at_116 rfl rfl ?_
  intro T8 h8 X8 qq8
  rw [show h8 = h6 from qq8] at X8
  refine own_iload X8 (pc' := 121) at_119 rfl rfl ?_
  refine own_icmp_ne X8 (pct := 128) (pc' := 124) at_121 rfl (by decide) (by decide) (fun hc => absurd hc (fun q => q (own_mt _ _ hv ht))) (fun _ => ?_)
  refine own_iconst X8 (v := (1 : Int32)) (pc' := 125) at_124 rfl (by decide) ?_
  refine own_goto X8 (pc' := 129) at_125 (by decide) (by decide) ?_
  refine own_istore X8 (pc' := 131) (Ls' := #[.val (.int x0), .val (.int x1), .val (.int x2), .val (.int v1), .val (.int v2), .val (.int v3), .val (.ref ad4), .val (.int (1 : Int32)), .val (.int (1 : Int32)), .val (.int (1 : Int32)), .val (.int (1 : Int32)), .unset]) at_129 rfl rfl ?_
  refine own_aload X8 (pc' := 133) at_131 rfl rfl rfl ?_
  refine own_iconst X8 (v := (2 : Int32)) (pc' := 134) at_133 rfl (by decide) ?_
  refine own_baload X8 (v := (0 : Int32)) (pc' := 135) A7 rfl rfl at_134 rfl ?_
  refine own_aload X8 (pc' := 137) at_135 rfl rfl rfl ?_
  refine own_iconst X8 (v := (3 : Int32)) (pc' := 138) at_137 rfl (by decide) ?_
  refine own_baload X8 (v := (0 : Int32)) (pc' := 139) A7 rfl rfl at_138 rfl ?_
  refine own_ior X8 (r := (0 : Int32)) (pc' := 140) at_139 rfl (by decide) ?_
  refine own_aload X8 (pc' := 142) at_140 rfl rfl rfl ?_
  refine own_iconst X8 (v := (4 : Int32)) (pc' := 143) at_142 rfl (by decide) ?_
  refine own_baload X8 (v := (0 : Int32)) (pc' := 144) A7 rfl rfl at_143 rfl ?_
  refine own_ior X8 (r := (0 : Int32)) (pc' := 145) at_144 rfl (by decide) ?_
  refine own_aload X8 (pc' := 147) at_145 rfl rfl rfl ?_
  refine own_iconst X8 (v := (5 : Int32)) (pc' := 148) at_147 rfl (by decide) ?_
  refine own_baload X8 (v := (0 : Int32)) (pc' := 149) A7 rfl rfl at_148 rfl ?_
  refine own_ior X8 (r := (0 : Int32)) (pc' := 150) at_149 rfl (by decide) ?_
  refine own_aload X8 (pc' := 152) at_150 rfl rfl rfl ?_
  refine own_bipush X8 (v := (6 : Int32)) (pc' := 154) at_152 rfl (by decide) ?_
  refine own_baload X8 (v := (0 : Int32)) (pc' := 155) A7 rfl rfl at_154 rfl ?_
  refine own_ior X8 (r := (0 : Int32)) (pc' := 156) at_155 rfl (by decide) ?_
  refine own_aload X8 (pc' := 158) at_156 rfl rfl rfl ?_
  refine own_bipush X8 (v := (8 : Int32)) (pc' := 160) at_158 rfl (by decide) ?_
  refine own_baload X8 (v := (0 : Int32)) (pc' := 161) A7 rfl rfl at_160 rfl ?_
  refine own_ior X8 (r := (0 : Int32)) (pc' := 162) at_161 rfl (by decide) ?_
  refine own_aload X8 (pc' := 164) at_162 rfl rfl rfl ?_
  refine own_bipush X8 (v := (9 : Int32)) (pc' := 166) at_164 rfl (by decide) ?_
  refine own_baload X8 (v := (0 : Int32)) (pc' := 167) A7 rfl rfl at_166 rfl ?_
  refine own_ior X8 (r := (0 : Int32)) (pc' := 168) at_167 rfl (by decide) ?_
  refine own_aload X8 (pc' := 170) at_168 rfl rfl rfl ?_
  refine own_bipush X8 (v := (10 : Int32)) (pc' := 172) at_170 rfl (by decide) ?_
  refine own_baload X8 (v := (0 : Int32)) (pc' := 173) A7 rfl rfl at_172 rfl ?_
  refine own_ior X8 (r := (0 : Int32)) (pc' := 174) at_173 rfl (by decide) ?_
  refine own_aload X8 (pc' := 176) at_174 rfl rfl rfl ?_
  refine own_bipush X8 (v := (11 : Int32)) (pc' := 178) at_176 rfl (by decide) ?_
  refine own_baload X8 (v := (0 : Int32)) (pc' := 179) A7 rfl rfl at_178 rfl ?_
  refine own_ior X8 (r := (0 : Int32)) (pc' := 180) at_179 rfl (by decide) ?_
  refine own_aload X8 (pc' := 182) at_180 rfl rfl rfl ?_
  refine own_bipush X8 (v := (12 : Int32)) (pc' := 184) at_182 rfl (by decide) ?_
  refine own_baload X8 (v := (0 : Int32)) (pc' := 185) A7 rfl rfl at_184 rfl ?_
  refine own_ior X8 (r := (0 : Int32)) (pc' := 186) at_185 rfl (by decide) ?_
  refine own_aload X8 (pc' := 188) at_186 rfl rfl rfl ?_
  refine own_bipush X8 (v := (13 : Int32)) (pc' := 190) at_188 rfl (by decide) ?_
  refine own_baload X8 (v := (0 : Int32)) (pc' := 191) A7 rfl rfl at_190 rfl ?_
  refine own_ior X8 (r := (0 : Int32)) (pc' := 192) at_191 rfl (by decide) ?_
  refine own_aload X8 (pc' := 194) at_192 rfl rfl rfl ?_
  refine own_bipush X8 (v := (14 : Int32)) (pc' := 196) at_194 rfl (by decide) ?_
  refine own_baload X8 (v := (0 : Int32)) (pc' := 197) A7 rfl rfl at_196 rfl ?_
  refine own_ior X8 (r := (0 : Int32)) (pc' := 198) at_197 rfl (by decide) ?_
  refine own_aload X8 (pc' := 200) at_198 rfl rfl rfl ?_
  refine own_bipush X8 (v := (15 : Int32)) (pc' := 202) at_200 rfl (by decide) ?_
  refine own_baload X8 (v := (0 : Int32)) (pc' := 203) A7 rfl rfl at_202 rfl ?_
  refine own_ior X8 (r := (0 : Int32)) (pc' := 204) at_203 rfl (by decide) ?_
  refine own_aload X8 (pc' := 206) at_204 rfl rfl rfl ?_
  refine own_bipush X8 (v := (16 : Int32)) (pc' := 208) at_206 rfl (by decide) ?_
  refine own_baload X8 (v := (0 : Int32)) (pc' := 209) A7 rfl rfl at_208 rfl ?_
  refine own_ior X8 (r := (0 : Int32)) (pc' := 210) at_209 rfl (by decide) ?_
  refine own_aload X8 (pc' := 212) at_210 rfl rfl rfl ?_
  refine own_bipush X8 (v := (17 : Int32)) (pc' := 214) at_212 rfl (by decide) ?_
  refine own_baload X8 (v := (0 : Int32)) (pc' := 215) A7 rfl rfl at_214 rfl ?_
  refine own_ior X8 (r := (0 : Int32)) (pc' := 216) at_215 rfl (by decide) ?_
  refine own_aload X8 (pc' := 218) at_216 rfl rfl rfl ?_
  refine own_bipush X8 (v := (18 : Int32)) (pc' := 220) at_218 rfl (by decide) ?_
  refine own_baload X8 (v := (0 : Int32)) (pc' := 221) A7 rfl rfl at_220 rfl ?_
  refine own_ior X8 (r := (0 : Int32)) (pc' := 222) at_221 rfl (by decide) ?_
  refine own_aload X8 (pc' := 224) at_222 rfl rfl rfl ?_
  refine own_bipush X8 (v := (19 : Int32)) (pc' := 226) at_224 rfl (by decide) ?_
  refine own_baload X8 (v := (0 : Int32)) (pc' := 227) A7 rfl rfl at_226 rfl ?_
  refine own_ior X8 (r := (0 : Int32)) (pc' := 228) at_227 rfl (by decide) ?_
  refine own_aload X8 (pc' := 230) at_228 rfl rfl rfl ?_
  refine own_bipush X8 (v := (20 : Int32)) (pc' := 232) at_230 rfl (by decide) ?_
  refine own_baload X8 (v := (0 : Int32)) (pc' := 233) A7 rfl rfl at_232 rfl ?_
  refine own_ior X8 (r := (0 : Int32)) (pc' := 234) at_233 rfl (by decide) ?_
  refine own_aload X8 (pc' := 236) at_234 rfl rfl rfl ?_
  refine own_bipush X8 (v := (21 : Int32)) (pc' := 238) at_236 rfl (by decide) ?_
  refine own_baload X8 (v := (0 : Int32)) (pc' := 239) A7 rfl rfl at_238 rfl ?_
  refine own_ior X8 (r := (0 : Int32)) (pc' := 240) at_239 rfl (by decide) ?_
  refine own_aload X8 (pc' := 242) at_240 rfl rfl rfl ?_
  refine own_bipush X8 (v := (22 : Int32)) (pc' := 244) at_242 rfl (by decide) ?_
  refine own_baload X8 (v := (0 : Int32)) (pc' := 245) A7 rfl rfl at_244 rfl ?_
  refine own_ior X8 (r := (0 : Int32)) (pc' := 246) at_245 rfl (by decide) ?_
  refine own_aload X8 (pc' := 248) at_246 rfl rfl rfl ?_
  refine own_bipush X8 (v := (23 : Int32)) (pc' := 250) at_248 rfl (by decide) ?_
  refine own_baload X8 (v := (0 : Int32)) (pc' := 251) A7 rfl rfl at_250 rfl ?_
  refine own_ior X8 (r := (0 : Int32)) (pc' := 252) at_251 rfl (by decide) ?_
  refine own_aload X8 (pc' := 254) at_252 rfl rfl rfl ?_
  refine own_bipush X8 (v := (24 : Int32)) (pc' := 256) at_254 rfl (by decide) ?_
  refine own_baload X8 (v := (0 : Int32)) (pc' := 257) A7 rfl rfl at_256 rfl ?_
  refine own_ior X8 (r := (0 : Int32)) (pc' := 258) at_257 rfl (by decide) ?_
  refine own_aload X8 (pc' := 260) at_258 rfl rfl rfl ?_
  refine own_bipush X8 (v := (25 : Int32)) (pc' := 262) at_260 rfl (by decide) ?_
  refine own_baload X8 (v := (0 : Int32)) (pc' := 263) A7 rfl rfl at_262 rfl ?_
  refine own_ior X8 (r := (0 : Int32)) (pc' := 264) at_263 rfl (by decide) ?_
  refine own_aload X8 (pc' := 266) at_264 rfl rfl rfl ?_
  refine own_bipush X8 (v := (26 : Int32)) (pc' := 268) at_266 rfl (by decide) ?_
  refine own_baload X8 (v := (0 : Int32)) (pc' := 269) A7 rfl rfl at_268 rfl ?_
  refine own_ior X8 (r := (0 : Int32)) (pc' := 270) at_269 rfl (by decide) ?_
  refine own_aload X8 (pc' := 272) at_270 rfl rfl rfl ?_
  refine own_bipush X8 (v := (27 : Int32)) (pc' := 274) at_272 rfl (by decide) ?_
  refine own_baload X8 (v := (0 : Int32)) (pc' := 275) A7 rfl rfl at_274 rfl ?_
  refine own_ior X8 (r := (0 : Int32)) (pc' := 276) at_275 rfl (by decide) ?_
  refine own_aload X8 (pc' := 278) at_276 rfl rfl rfl ?_
  refine own_bipush X8 (v := (28 : Int32)) (pc' := 280) at_278 rfl (by decide) ?_
  refine own_baload X8 (v := (0 : Int32)) (pc' := 281) A7 rfl rfl at_280 rfl ?_
  refine own_ior X8 (r := (0 : Int32)) (pc' := 282) at_281 rfl (by decide) ?_
  refine own_aload X8 (pc' := 284) at_282 rfl rfl rfl ?_
  refine own_bipush X8 (v := (29 : Int32)) (pc' := 286) at_284 rfl (by decide) ?_
  refine own_baload X8 (v := (0 : Int32)) (pc' := 287) A7 rfl rfl at_286 rfl ?_
  refine own_ior X8 (r := (0 : Int32)) (pc' := 288) at_287 rfl (by decide) ?_
  refine own_aload X8 (pc' := 290) at_288 rfl rfl rfl ?_
  refine own_bipush X8 (v := (30 : Int32)) (pc' := 292) at_290 rfl (by decide) ?_
  refine own_baload X8 (v := (0 : Int32)) (pc' := 293) A7 rfl rfl at_292 rfl ?_
  refine own_ior X8 (r := (0 : Int32)) (pc' := 294) at_293 rfl (by decide) ?_
  refine own_aload X8 (pc' := 296) at_294 rfl rfl rfl ?_
  refine own_bipush X8 (v := (31 : Int32)) (pc' := 298) at_296 rfl (by decide) ?_
  refine own_baload X8 (v := (0 : Int32)) (pc' := 299) A7 rfl rfl at_298 rfl ?_
  refine own_ior X8 (r := (0 : Int32)) (pc' := 300) at_299 rfl (by decide) ?_
  refine own_aload X8 (pc' := 302) at_300 rfl rfl rfl ?_
  refine own_bipush X8 (v := (32 : Int32)) (pc' := 304) at_302 rfl (by decide) ?_
  refine own_baload X8 (v := (0 : Int32)) (pc' := 305) A7 rfl rfl at_304 rfl ?_
  refine own_ior X8 (r := (0 : Int32)) (pc' := 306) at_305 rfl (by decide) ?_
  refine own_aload X8 (pc' := 308) at_306 rfl rfl rfl ?_
  refine own_bipush X8 (v := (33 : Int32)) (pc' := 310) at_308 rfl (by decide) ?_
  refine own_baload X8 (v := (0 : Int32)) (pc' := 311) A7 rfl rfl at_310 rfl ?_
  refine own_ior X8 (r := (0 : Int32)) (pc' := 312) at_311 rfl (by decide) ?_
  refine own_aload X8 (pc' := 314) at_312 rfl rfl rfl ?_
  refine own_bipush X8 (v := (34 : Int32)) (pc' := 316) at_314 rfl (by decide) ?_
  refine own_baload X8 (v := (0 : Int32)) (pc' := 317) A7 rfl rfl at_316 rfl ?_
  refine own_ior X8 (r := (0 : Int32)) (pc' := 318) at_317 rfl (by decide) ?_
  refine own_aload X8 (pc' := 320) at_318 rfl rfl rfl ?_
  refine own_bipush X8 (v := (35 : Int32)) (pc' := 322) at_320 rfl (by decide) ?_
  refine own_baload X8 (v := (0 : Int32)) (pc' := 323) A7 rfl rfl at_322 rfl ?_
  refine own_ior X8 (r := (0 : Int32)) (pc' := 324) at_323 rfl (by decide) ?_
  refine own_aload X8 (pc' := 326) at_324 rfl rfl rfl ?_
  refine own_bipush X8 (v := (36 : Int32)) (pc' := 328) at_326 rfl (by decide) ?_
  refine own_baload X8 (v := (0 : Int32)) (pc' := 329) A7 rfl rfl at_328 rfl ?_
  refine own_ior X8 (r := (0 : Int32)) (pc' := 330) at_329 rfl (by decide) ?_
  refine own_aload X8 (pc' := 332) at_330 rfl rfl rfl ?_
  refine own_bipush X8 (v := (37 : Int32)) (pc' := 334) at_332 rfl (by decide) ?_
  refine own_baload X8 (v := (0 : Int32)) (pc' := 335) A7 rfl rfl at_334 rfl ?_
  refine own_ior X8 (r := (0 : Int32)) (pc' := 336) at_335 rfl (by decide) ?_
  refine own_aload X8 (pc' := 338) at_336 rfl rfl rfl ?_
  refine own_bipush X8 (v := (38 : Int32)) (pc' := 340) at_338 rfl (by decide) ?_
  refine own_baload X8 (v := (0 : Int32)) (pc' := 341) A7 rfl rfl at_340 rfl ?_
  refine own_ior X8 (r := (0 : Int32)) (pc' := 342) at_341 rfl (by decide) ?_
  refine own_aload X8 (pc' := 344) at_342 rfl rfl rfl ?_
  refine own_bipush X8 (v := (39 : Int32)) (pc' := 346) at_344 rfl (by decide) ?_
  refine own_baload X8 (v := (0 : Int32)) (pc' := 347) A7 rfl rfl at_346 rfl ?_
  refine own_ior X8 (r := (0 : Int32)) (pc' := 348) at_347 rfl (by decide) ?_
  refine own_istore X8 (pc' := 350) (Ls' := #[.val (.int x0), .val (.int x1), .val (.int x2), .val (.int v1), .val (.int v2), .val (.int v3), .val (.ref ad4), .val (.int (1 : Int32)), .val (.int (1 : Int32)), .val (.int (1 : Int32)), .val (.int (1 : Int32)), .val (.int (0 : Int32))]) at_348 rfl rfl ?_
  refine own_iload X8 (pc' := 352) at_350 rfl rfl ?_
  refine own_if_eq X8 (pct := 379) (pc' := 355) at_352 rfl (by decide) (by decide) (fun hc => absurd hc (by decide)) (fun _ => ?_)
  refine own_iload X8 (pc' := 357) at_355 rfl rfl ?_
  refine own_if_eq X8 (pct := 379) (pc' := 360) at_357 rfl (by decide) (by decide) (fun hc => absurd hc (by decide)) (fun _ => ?_)
  refine own_iload X8 (pc' := 362) at_360 rfl rfl ?_
  refine own_if_eq X8 (pct := 379) (pc' := 365) at_362 rfl (by decide) (by decide) (fun hc => absurd hc (by decide)) (fun _ => ?_)
  refine own_iload X8 (pc' := 367) at_365 rfl rfl ?_
  refine own_if_eq X8 (pct := 379) (pc' := 370) at_367 rfl (by decide) (by decide) (fun hc => absurd hc (by decide)) (fun _ => ?_)
  refine own_iload X8 (pc' := 372) at_370 rfl rfl ?_
  refine own_if_ne X8 (pct := 379) (pc' := 375) at_372 rfl (by decide) (by decide) (fun hc => absurd hc (by decide)) (fun _ => ?_)
  refine own_iconst X8 (v := (1 : Int32)) (pc' := 376) at_375 rfl (by decide) ?_
  refine own_goto X8 (pc' := 380) at_376 (by decide) (by decide) ?_
  subst hΦ
  exact own_retZ X8 at_380 (by decide) (by decide) (by decide) rfl trivial
set_option maxRecDepth 65536 in
set_option maxHeartbeats 4000000 in
theorem comes_1 {Post : Tables → Env → Array Value → State → Outcome → State → Prop} (hpost : ∀ tb e args s v u, (limb_1_1.after args s (.returned v) u = true ∧ limb_1_2.after args s (.returned v) u = true ∧ True) → FrameEnd s (.returned v) u (Jvm.fieldLocs frame_1_writes args s ++ Jvm.arrayLocs frame_1_arrays args s ++ Jvm.staticLocs frame_1_statics s) 16 192 → Post tb e args s (.returned v) u) :
    ArmFor flags0 classFile x code maxLocals ret World_1 tables_1 room_1 Calls_1 rest_1 Pre_1 Post := by
  intro l hfl _ _ p e ha hc hk s m args below hf hA hF happ hP
  obtain ⟨hcalls, hrest, hpre⟩ := hP
  obtain ⟨-, -, -, hnamed, -, -, -, hat⟩ := (Spec.applies_iff hf).mp happ
  obtain ⟨hg, hn⟩ := and_e (Cond.before_iff.mp (show (Jvm.Cond.and given_1 narrow_1).before args s = true from hpre))
  obtain ⟨hcnt, r0⟩ := and_e hg
  obtain ⟨k0, r1⟩ := and_e r0
  obtain ⟨k1, r2⟩ := and_e r1
  obtain ⟨w0, w1, w2, rfl⟩ : ∃ w0 w1 w2 : Value, args = #[w0, w1, w2] := by
    have hs : args.size = 3 := by simpa [Cond.value, given_1] using hcnt
    obtain ⟨L⟩ := args
    match L, hs with
    | [w0, w1, w2], _ => exact ⟨w0, w1, w2, rfl⟩
  have hw := fun d (hd : d ∈ tables_1) => atoms_spec (ws := Jvm.Cond.code x code maxLocals ret :: tables_1) hat d (List.mem_cons_of_mem _ hd)
  obtain ⟨i0, ei0⟩ := is_v k0
  obtain rfl : w0 = (.int i0) := Option.some.inj ei0
  obtain ⟨i1, ei1⟩ := is_v k1
  obtain rfl : w1 = (.int i1) := Option.some.inj ei1
  obtain ⟨i2, ei2⟩ := is_v r2
  obtain rfl : w2 = (.int i2) := Option.some.inj ei2
  obtain ⟨n, o, h1, h2, h3, _, L, rfl, ⟨⟨rfl, -⟩, N⟩, hq⟩ := rm0 l s _ hw s.heap.size i0 i1 i2 s.heap (Nat.le_refl _) tables_1 p e ha hc hk s m _ below hf ((Spec.applies_iff_loose hf).mp happ).1 ⟨rfl, State.Warmed39.refl s, rfl⟩ trivial
  refine ⟨n, _, h1, h2, h3, hpost _ _ _ _ _ _ ⟨Cond.after_iff.mpr rfl, Cond.after_iff.mpr (eq_i res_at (Term.int_eval (1)) rfl), trivial⟩ ⟨hq.1, hq.2.1, (hq.2.2.sift fun y hy => Or.inr (N y hy)).mono (by decide) (by decide)⟩⟩
theorem main_1_1 : Claimed_1_1 := comes_1 fun _ _ _ _ _ _ h hF => ⟨h.1, hF⟩
theorem main_1_2 : Claimed_1_2 := comes_1 fun _ _ _ _ _ _ h hF => ⟨h.2.1, hF⟩
end Jvm.Pilot.@@N@@
namespace Jvm.Pilot.@@N@@
open Jvm Jvm.ClassFile Sem Op Lib Jvm.Free Jvm.Stand Jvm.Pilot.@@N@@.Jvm.D
/-! MADE BY PROGRAM (witnessworld.py) out of the Statement's table words and the real class files: 9 classes; the members and pool entries that the words name. The judged class is class 1, her method 1. -/
namespace start1
open Jvm.ClassFile
def u (s : String) : CpInfo := .utf8 (stringToUtf16 s)
/-- a pool by its gaps: so many unusable entries, then the entry; so many at the end -/
def gap : Nat → List CpInfo → List CpInfo
  | 0, r => r
  | n + 1, r => .unusable :: gap n r
def poolList (es : List (Nat × CpInfo)) (last : Nat) : List CpInfo := es.foldr (fun e r => gap e.1 (e.2 :: r)) (gap last [])
def pool (es : List (Nat × CpInfo)) (last : Nat) : Array CpInfo := ⟨poolList es last⟩
def fileOf (pool : Array CpInfo) (this : Nat) (attrs : Array Attribute := #[]) (ms : Array MethodInfo := #[]) (fl : Nat := 33) (sup : Nat := 0) (ifs : Array Nat := #[]) (fds : Array FieldInfo := #[]) : ClassFile where
  minorVersion := 0
  majorVersion := 65
  constantPool := pool
  accessFlags := fl
  thisClass := this
  superClass := sup
  interfaces := ifs
  fields := fds
  methods := ms
  attributes := attrs
def plain (name : String) (sup : Option ClassId) : Class where
  name := name
  kind := .ordinary
  loader := none
  accessFlags := 33
  super := sup
  interfaces := #[]
  cf := none
  fields := #[]
  methods := #[]
  instanceTypes := #[]
  staticTypes := #[]
  resolved := #[]
  callSites := []
  init := .initialized
  statics := none
  mirror := none

def pool0 : Array CpInfo := pool [(5, u "<init>"), (0, u "()V"), (1, .class_ 10), (1, u "java/lang/Object")] 113

def k0m0 : Method := { name := "<init>", desc := "()V", sig := { parameters := [], returnType := none }, accessFlags := 1, code := none }
/-- java/lang/Object -/
def k0 : Class := { plain "java/lang/Object" none with
  accessFlags := 33
  interfaces := #[]
  cf := some (fileOf pool0 8 #[] #[{ accessFlags := 1, nameIndex := 5, descriptorIndex := 6, attributes := #[] }] 33 0 #[] #[])
  fields := #[]
  methods := #[k0m0]
  instanceTypes := #[]
  staticTypes := #[]
  resolved := Array.replicate 124 none
  statics := none }

def pool1 : Array CpInfo := pool [(2, .class_ 4), (1, u "java/lang/Object"), (0, u "<init>"), (0, u "()V"), (0, .methodref 8 9), (0, .class_ 10), (0, .nameAndType 11 12), (0, u "com/example/sheath/sheath/ip/Ipv6"), (0, u "start"), (0, u "([BII)V"), (0, .methodref 8 14), (0, .nameAndType 15 16), (0, u "trafficClass"), (0, u "([B)I"), (0, .class_ 18), (0, u "com/example/sheath/sheath/ip/Ipv6StartPinLaw"), (2, u "law"), (0, u "(III)Z")] 5

def k1m0 : Method := { name := "<init>", desc := "()V", sig := { parameters := [], returnType := none }, accessFlags := 2, code := none }
def k1c1 : Code := { maxStack := 4, maxLocals := 12, code := code, exceptionTable := #[], attributes := #[] }
def k1m1 : Method := { name := "law", desc := "(III)Z", sig := { parameters := [.int, .int, .int], returnType := some .boolean }, accessFlags := 9, code := some k1c1 }
/-- com/example/sheath/sheath/ip/Ipv6StartPinLaw -/
def k1 : Class := { plain "com/example/sheath/sheath/ip/Ipv6StartPinLaw" (some 0) with
  accessFlags := 49
  interfaces := #[]
  cf := some (fileOf pool1 17 #[] #[{ accessFlags := 2, nameIndex := 5, descriptorIndex := 6, attributes := #[] }, { accessFlags := 9, nameIndex := 21, descriptorIndex := 22, attributes := #[] }] 49 2 #[] #[])
  fields := #[]
  methods := #[k1m0, k1m1]
  instanceTypes := #[]
  staticTypes := #[]
  resolved := Array.replicate 28 none
  statics := none }

def pool2 : Array CpInfo := pool [(1, .class_ 2), (0, u "com/example/sheath/sheath/ip/Ipv6"), (1, .class_ 6), (1, u "java/lang/Object"), (0, u "<init>"), (0, u "()V"), (3, u "([B)I"), (31, u "HEADER_LENGTH"), (0, u "I"), (2, u "MAX_DATAGRAM_LENGTH"), (0, u "NEXT_HEADER_FIELD"), (1, u "HOP_LIMIT_FIELD"), (1, u "HOP_BY_HOP"), (1, u "ROUTING"), (1, u "FRAGMENT"), (1, u "DESTINATION_OPTIONS"), (1, u "FRAGMENT_HEADER_LENGTH"), (1, u "FRAGMENT_OFFSET"), (0, u "MORE_FRAGMENTS"), (8, u "trafficClass"), (0, u "start"), (0, u "([BII)V")] 18

def k2m0 : Method := { name := "<init>", desc := "()V", sig := { parameters := [], returnType := none }, accessFlags := 2, code := none }
def k2c1 : Code := { maxStack := 3, maxLocals := 1, code := prog_29_method_5_code, exceptionTable := #[], attributes := #[] }
def k2m1 : Method := { name := "trafficClass", desc := "([B)I", sig := { parameters := [(.array .byte)], returnType := some .int }, accessFlags := 8, code := some k2c1 }
def k2c2 : Code := { maxStack := 5, maxLocals := 3, code := prog_29_method_6_code, exceptionTable := #[], attributes := #[] }
def k2m2 : Method := { name := "start", desc := "([BII)V", sig := { parameters := [(.array .byte), .int, .int], returnType := none }, accessFlags := 8, code := some k2c2 }
/-- com/example/sheath/sheath/ip/Ipv6 -/
def k2 : Class := { plain "com/example/sheath/sheath/ip/Ipv6" (some 0) with
  accessFlags := 49
  interfaces := #[]
  cf := some (fileOf pool2 1 #[] #[{ accessFlags := 2, nameIndex := 7, descriptorIndex := 8, attributes := #[] }, { accessFlags := 8, nameIndex := 73, descriptorIndex := 12, attributes := #[] }, { accessFlags := 8, nameIndex := 74, descriptorIndex := 75, attributes := #[] }] 49 4 #[] #[{ accessFlags := 25, nameIndex := 44, descriptorIndex := 45, attributes := #[] }, { accessFlags := 25, nameIndex := 48, descriptorIndex := 45, attributes := #[] }, { accessFlags := 24, nameIndex := 49, descriptorIndex := 45, attributes := #[] }, { accessFlags := 26, nameIndex := 51, descriptorIndex := 45, attributes := #[] }, { accessFlags := 26, nameIndex := 53, descriptorIndex := 45, attributes := #[] }, { accessFlags := 26, nameIndex := 55, descriptorIndex := 45, attributes := #[] }, { accessFlags := 26, nameIndex := 57, descriptorIndex := 45, attributes := #[] }, { accessFlags := 26, nameIndex := 59, descriptorIndex := 45, attributes := #[] }, { accessFlags := 26, nameIndex := 61, descriptorIndex := 45, attributes := #[] }, { accessFlags := 26, nameIndex := 63, descriptorIndex := 45, attributes := #[] }, { accessFlags := 26, nameIndex := 64, descriptorIndex := 45, attributes := #[] }])
  fields := #[{ name := "HEADER_LENGTH", type := .int, accessFlags := 25, slot := 0, constantValue := 0 }, { name := "MAX_DATAGRAM_LENGTH", type := .int, accessFlags := 25, slot := 1, constantValue := 0 }, { name := "NEXT_HEADER_FIELD", type := .int, accessFlags := 24, slot := 2, constantValue := 0 }, { name := "HOP_LIMIT_FIELD", type := .int, accessFlags := 26, slot := 3, constantValue := 0 }, { name := "HOP_BY_HOP", type := .int, accessFlags := 26, slot := 4, constantValue := 0 }, { name := "ROUTING", type := .int, accessFlags := 26, slot := 5, constantValue := 0 }, { name := "FRAGMENT", type := .int, accessFlags := 26, slot := 6, constantValue := 0 }, { name := "DESTINATION_OPTIONS", type := .int, accessFlags := 26, slot := 7, constantValue := 0 }, { name := "FRAGMENT_HEADER_LENGTH", type := .int, accessFlags := 26, slot := 8, constantValue := 0 }, { name := "FRAGMENT_OFFSET", type := .int, accessFlags := 26, slot := 9, constantValue := 0 }, { name := "MORE_FRAGMENTS", type := .int, accessFlags := 26, slot := 10, constantValue := 0 }]
  methods := #[k2m0, k2m1, k2m2]
  instanceTypes := #[]
  staticTypes := #[.int, .int, .int, .int, .int, .int, .int, .int, .int, .int, .int]
  resolved := Array.replicate 94 none
  statics := none }

def pool3 : Array CpInfo := pool [(1, u "java/lang/Cloneable"), (0, .class_ 1), (0, u "java/lang/Object"), (0, .class_ 3)] 3

/-- java/lang/Cloneable -/
def k3 : Class := { plain "java/lang/Cloneable" (some 0) with
  accessFlags := 1537
  interfaces := #[]
  cf := some (fileOf pool3 2 #[] #[] 1537 4 #[] #[])
  fields := #[]
  methods := #[]
  instanceTypes := #[]
  staticTypes := #[]
  resolved := Array.replicate 8 none
  statics := none }

def pool4 : Array CpInfo := pool [(1, u "java/io/Serializable"), (0, .class_ 1), (0, u "java/lang/Object"), (0, .class_ 3)] 3

/-- java/io/Serializable -/
def k4 : Class := { plain "java/io/Serializable" (some 0) with
  accessFlags := 1537
  interfaces := #[]
  cf := some (fileOf pool4 2 #[] #[] 1537 4 #[] #[])
  fields := #[]
  methods := #[]
  instanceTypes := #[]
  staticTypes := #[]
  resolved := Array.replicate 8 none
  statics := none }

/-- the primitive byte -/
def k5 : Class := { plain "byte" none with kind := .primitive 'B', accessFlags := 0x411 }
/-- [B -/
def k6 : Class := { plain "[B" (some 0) with kind := .array 5 .byte, interfaces := #[3, 4], accessFlags := 1041 }

/-- the primitive int -/
def k7 : Class := { plain "int" none with kind := .primitive 'I', accessFlags := 0x411 }
/-- [I -/
def k8 : Class := { plain "[I" (some 0) with kind := .array 7 .int, interfaces := #[3, 4], accessFlags := 1041 }

def heap : Heap := #[]
def classes : Array Class := #[k0, k1, k2, k3, k4, k5, k6, k7, k8]
def interned : List (Array UInt16 × Addr) := []
def slotsUsed : Nat := 0
def theMethod : MethodId := ⟨1, 1⟩
def args0 : Array Value := #[.int 1, .int 2, .int 3]
def aboutOver (below : List Frame) : State where
  vm := { classes := classes, interned := interned.toArray }
  heap := heap
  slotsUsed := slotsUsed
  threads := #[{ frames := .invoking theMethod args0 :: below }]
def below0 : List Frame := [.native { method := ⟨0, 0⟩, args := #[] }]
def about1 : State := aboutOver below0
def p0 : Program := .bare "" "" ""
def e0 : Env := launch0.env 0 0 0
theorem w_frames : about1.frames = Frame.invoking theMethod args0 :: below0 := rfl
set_option maxRecDepth 65536 in
theorem w_args : argsFit about1.vm theMethod args0 = true := by decide +kernel
set_option maxRecDepth 65536 in
theorem w_heap : heapFits about1 = true := by decide +kernel
set_option maxRecDepth 65536 in
theorem w_runnable : about1.curStatus? = some .runnable := by decide +kernel
set_option maxRecDepth 65536 in
theorem w_alone : about1.alone = true := by decide +kernel
set_option maxRecDepth 65536 in
theorem w_named : about1.methodNamed? x = some theMethod := by decide +kernel
set_option maxRecDepth 65536 in
theorem w_hears : about1.hears theMethod below0 = true := by decide +kernel
set_option maxRecDepth 65536 in
theorem w_ripe : about1.ripe theMethod args0 below0 = true := by decide +kernel
theorem w_running : about1.status = .running := rfl
set_option maxRecDepth 65536 in
theorem w_room : about1.hasRoom e0.platform room_1 = true :=
  launch0.hasRoom_least _ room_1 (by decide +kernel) (by decide +kernel) (by decide +kernel) (by decide +kernel) (by decide +kernel) (by decide +kernel)
theorem allAtoms_all (ts : List Jvm.Cond) (a : Array Jvm.Value) (st : Jvm.State) : (allAtoms ts).before a st = ts.all (fun c => c.before a st) := by
  induction ts with
  | nil => rfl
  | cons c t ih =>
    show (Jvm.Cond.and c (allAtoms t)).before a st = _
    rw [Jvm.Cond.before_and, ih, List.all_cons]
def words1 : List Jvm.Cond := Jvm.Cond.code x code maxLocals ret :: tables_1
/-- a 'code' word, met by the world's own term for the bytes: nothing is compared byte by byte -/
theorem code_word {y : MethodName} {bytes : ByteArray} {mx : Nat} {rt : Option FieldType} {a : Array Value} {s : State} {m : MethodId} {meth : Method} {c : Code} (h1 : s.methodNamed? y = some m) (h2 : s.vm.method? m = some meth) (h3 : meth.code = some c) (h4 : c.code = bytes)
    (h5 : (c.maxLocals == mx && c.exceptionTable.isEmpty && decide (c.maxStack ≤ mostOperands) && decide (meth.sig.returnType = rt) && !meth.locks && decide (parseMethodDescriptor y.desc = some meth.sig)) = true) : (Jvm.Cond.code y bytes mx rt).before a s = true := by
  simp only [Bool.and_eq_true, beq_iff_eq, Bool.not_eq_true', decide_eq_true_eq] at h5
  obtain ⟨⟨⟨⟨⟨g1, g2⟩, g3⟩, g4⟩, g5⟩, g6⟩ := h5
  simp [Cond.before, Cond.holds, Cond.value, h1, h2, h3, h4, g1, g2, g3, g4, g5, g6]
def isCode : Jvm.Cond → Bool
  | .code _ _ _ _ => true
  | _ => false
theorem all_split {L : List Jvm.Cond} {P : Jvm.Cond → Bool} (h1 : L.all (fun c => isCode c || P c) = true) (h2 : ∀ c ∈ L.filter isCode, P c = true) : L.all P = true := by
  refine List.all_eq_true.mpr fun c hc => ?_
  have h := List.all_eq_true.mp h1 c hc
  rcases Bool.eq_false_or_eq_true (isCode c) with hi | hi
  · exact h2 c (List.mem_filter.mpr ⟨hc, hi⟩)
  · simpa [hi] using h
set_option maxRecDepth 65536 in
theorem w_c0 : (Jvm.Cond.code x code maxLocals ret).before args0 about1 = true := code_word (m := ⟨1, 1⟩) (meth := k1m1) (c := k1c1) (by decide +kernel) rfl rfl rfl (by decide +kernel)
set_option maxRecDepth 65536 in
theorem w_c1 : (Jvm.Cond.code ({ cls := "com/example/sheath/sheath/ip/Ipv6", name := "start", desc := "([BII)V" } : Jvm.MethodName) prog_29_method_6_code (3 : Nat) (Option.none : Option Jvm.ClassFile.FieldType)).before args0 about1 = true := code_word (m := ⟨2, 2⟩) (meth := k2m2) (c := k2c2) (by decide +kernel) rfl rfl rfl (by decide +kernel)
set_option maxRecDepth 65536 in
theorem w_c2 : (Jvm.Cond.code ({ cls := "com/example/sheath/sheath/ip/Ipv6", name := "trafficClass", desc := "([B)I" } : Jvm.MethodName) prog_29_method_5_code (1 : Nat) (Option.some Jvm.ClassFile.FieldType.int)).before args0 about1 = true := code_word (m := ⟨2, 1⟩) (meth := k2m1) (c := k2c1) (by decide +kernel) rfl rfl rfl (by decide +kernel)
def codes1 : List Jvm.Cond := [Jvm.Cond.code x code maxLocals ret, Jvm.Cond.code ({ cls := "com/example/sheath/sheath/ip/Ipv6", name := "start", desc := "([BII)V" } : Jvm.MethodName) prog_29_method_6_code (3 : Nat) (Option.none : Option Jvm.ClassFile.FieldType), Jvm.Cond.code ({ cls := "com/example/sheath/sheath/ip/Ipv6", name := "trafficClass", desc := "([B)I" } : Jvm.MethodName) prog_29_method_5_code (1 : Nat) (Option.some Jvm.ClassFile.FieldType.int)]
set_option maxRecDepth 65536 in
theorem codes_eq : words1.filter isCode = codes1 := rfl
theorem w_codes : ∀ c ∈ words1.filter isCode, c.before args0 about1 = true := by
  rw [codes_eq]
  intro c hc
  simp only [codes1, List.mem_cons, List.not_mem_nil, or_false] at hc
  rcases hc with rfl | rfl | rfl
  · exact w_c0
  · exact w_c1
  · exact w_c2
set_option maxRecDepth 65536 in
theorem w_t1 : words1.all (fun c => isCode c || c.before args0 about1) = true := by decide +kernel
theorem w_tables : (allAtoms (Jvm.Cond.code x code maxLocals ret :: tables_1)).before args0 about1 = true := by
  rw [allAtoms_all]
  show words1.all (fun c => c.before args0 about1) = true
  refine all_split ?_ w_codes
  rw [w_t1]
set_option maxRecDepth 65536 in
theorem w_case : (Jvm.Cond.and given_1 narrow_1).before args0 about1 = true := by decide +kernel
theorem w_applies : (headSpec (Jvm.Cond.code x code maxLocals ret :: tables_1) room_1).applies x e0.platform about1 = true :=
  (Spec.applies_iff w_frames).mpr ⟨w_running, w_runnable, w_alone, w_named, w_hears, w_ripe, w_room, w_tables⟩
theorem atStart : AtStart classFile x code maxLocals ret World_1 tables_1 room_1 Calls_1 rest_1 Pre_1 launch0 p0 e0 about1 theMethod args0 below0 :=
  ⟨lists_1, trivial, launch0.admits_env _ _ _, launch0.least_env, fairChoices_fair.cas, fairChoices_fair.clock, w_frames, w_args, w_heap, w_applies, trivial, trivial, w_case⟩
end start1
theorem witness_1 : WitnessClaimed_1 := ⟨start1.p0, start1.e0, start1.about1, start1.theMethod, start1.args0, start1.below0, start1.atStart⟩
end Jvm.Pilot.@@N@@
