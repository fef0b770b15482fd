import JvmDerived
import JvmDerived.Pilot.@@N@@Statement
import JvmDerived.Pilot.@@N@@Code
set_option linter.unusedVariables false
set_option linter.unusedSimpArgs false
namespace Jvm.Own
open Jvm Jvm.ClassFile Sem Op Lib Jvm.Free Jvm.Stand Jvm.LawKit Jvm.RoadKit
def b2i (b : Bool) : Int32 := if b then 1 else 0
theorem wd {ws : List Jvm.Cond} {a0 : Array Value} {Z : State} (hw : ∀ d ∈ ws, d.before a0 Z = true) (i : Nat) {d : Jvm.Cond} (h : ws[i]? = some d) : d.before a0 Z = true := hw d (List.mem_of_getElem? h)
/-- a contract of a body: from the heap h with these arguments it returns, writes nothing below n0, and Q holds of what it returns and of the heap -/
def Met (l : Launch) (Z : State) (y : MethodName) (bytes : ByteArray) (maxL : Nat) (ret : Option FieldType) (rm : Room) (as' : Array Value) (h : Heap) (n0 : Nat) (Q : Option Value → Heap → Prop) : Prop :=
  ∀ ws, MetFree l y (head1 (Jvm.Cond.code y bytes maxL ret :: ws) rm) (fun a U => a = as' ∧ Z.Warmed39 U.vm ∧ U.heap = h) (fun _ _ _ _ _ => True) (fun _ U o U' => ∃ v L, o = .returned v ∧ (Fr n0 L ∧ Q v U'.heap) ∧ FrameEnd U o U' L rm.cells rm.slots)
def Cx (p : Program) (s : State) (m : MethodId) (meth : Method) (c : Code) (Z : State) (y : MethodName) (bytes : ByteArray) (maxL : Nat) (ret : Option FieldType) : Prop :=
  p.tables.exec = Jvm.exec ∧ Z.Warmed39 s.vm ∧ s.vm.findClass y.cls = some m.cls ∧ meth.name = y.name ∧ c.code = bytes ∧ c.maxLocals = maxL ∧ meth.sig.returnType = ret ∧ meth.locks = false
def Go (p : Program) (l : Launch) (e : Env) (R : Room) (s : State) (m : MethodId) (args : Array Value) (below : List Frame) (meth : Method) (c : Code) (n0 : Nat) (Q : Option Value → Heap → Prop) (cells slots : Nat) (h : Heap) (f : JFrame) : Prop :=
  ∀ T locs, Stand p l e R s m args below meth c T locs cells slots → Fr n0 locs → T.heap = h → ∃ t o, Steps p.tables e below (T.setTop f) t ∧ t.status = .running ∧ Ended t below o ∧ ∃ v L, o = .returned v ∧ (Fr n0 L ∧ Q v t.heap) ∧ FrameEnd s o t L R.cells R.slots
section
variable {p : Program} {l : Launch} {e : Env} {R : Room} {s : State} {m : MethodId} {args : Array Value} {below : List Frame} {meth : Method} {c : Code} {Z : State} {y : MethodName} {bytes : ByteArray} {maxL : Nat} {ret : Option FieldType} {n0 : Nat} {Q : Option Value → Heap → Prop} {cells slots : Nat} {h : Heap} {pc n n' : Nat} {Ls : Array Slot} {st : List Value} {a0 : Array Value}
theorem Cx.x (C : Cx p s m meth c Z y bytes maxL ret) : p.tables.exec = Jvm.exec := C.1
theorem Cx.z (C : Cx p s m meth c Z y bytes maxL ret) : Z.Warmed39 s.vm := C.2.1
theorem Cx.own (C : Cx p s m meth c Z y bytes maxL ret) : s.vm.findClass y.cls = some m.cls := C.2.2.1
theorem Cx.nm (C : Cx p s m meth c Z y bytes maxL ret) : meth.name = y.name := C.2.2.2.1
theorem Cx.by (C : Cx p s m meth c Z y bytes maxL ret) : c.code = bytes := C.2.2.2.2.1
theorem Cx.ml (C : Cx p s m meth c Z y bytes maxL ret) : c.maxLocals = maxL := C.2.2.2.2.2.1
theorem Cx.rt (C : Cx p s m meth c Z y bytes maxL ret) : meth.sig.returnType = ret := C.2.2.2.2.2.2.1
theorem Cx.locks (C : Cx p s m meth c Z y bytes maxL ret) : meth.locks = false := C.2.2.2.2.2.2.2
theorem Met.of {rm : Room} {as' : Array Value} {Ls0 : Array Slot} (hp : plainFor y = true) (he : ∀ m, entryFrame m as' maxL = mkF m 0 Ls0 [])
    (body : ∀ p e s m args below meth c, Cx p s m meth c Z y bytes maxL ret → Go p l e rm s m args below meth c n0 Q 0 0 h (mkF m 0 Ls0 [])) : Met l Z y bytes maxL ret rm as' h n0 Q := by
  intro ws
  refine MetFree.of_bodySF hp hisR ?_
  intro p e s m args below meth c s₁ Bd hml0 hP hK
  obtain ⟨rfl, hZ, hh⟩ := hP
  have C : Cx p s m meth c Z y bytes maxL ret := ⟨Bd.exec, hZ, findClass_of_methodNamed Bd.named, (name_of_methodNamed Bd.named Bd.method).1, Bd.bytes, hml0, Bd.returns, Bd.notSynchronized⟩
  have X0 : Stand p l e rm s m args below meth c s₁ [] 0 0 := Stand.of_body Bd
  have e0 : s₁.heap = h := by rw [← hh, Bd.state]; rfl
  obtain ⟨t, o, st, r⟩ := body p e s m args below meth c C s₁ [] X0 (Fr.nil n0) e0
  exact ⟨t, o, castTop (he m) st, r⟩
theorem Met.weaken {rm : Room} {as' : Array Value} {Q' : Option Value → Heap → Prop} (M : Met l Z y bytes maxL ret rm as' h n0 Q) (q : ∀ v h', Q v h' → Q' v h') : Met l Z y bytes maxL ret rm as' h n0 Q' := by
  intro ws p e ha hc hk s m args below hf happ hP hK
  obtain ⟨n, o, h1, h2, h3, v, L, h4, h5, h6⟩ := M ws p e ha hc hk s m args below hf happ hP hK
  exact ⟨n, o, h1, h2, h3, v, L, h4, ⟨h5.1, q _ _ h5.2⟩, h6⟩
theorem Go.via {f f' : JFrame} (hs : ∀ T locs, Stand p l e R s m args below meth c T locs cells slots → T.heap = h → ∀ t, Steps p.tables e below (T.setTop f') t → Steps p.tables e below (T.setTop f) t)
    (k : Go p l e R s m args below meth c n0 Q cells slots h f') : Go p l e R s m args below meth c n0 Q cells slots h f := fun T locs X N q => by
  obtain ⟨t, o, st, r⟩ := k T locs X N q
  exact ⟨t, o, hs T locs X q t st, r⟩
theorem Go.mono {f : JFrame} {cells' slots' : Nat} (h1 : cells ≤ cells') (h2 : slots ≤ slots') (k : Go p l e R s m args below meth c n0 Q cells' slots' h f) : Go p l e R s m args below meth c n0 Q cells slots h f := fun T locs X N q =>
  k T locs ⟨X.admits, X.cas, X.clock, X.frames, X.room, X.hears, X.method, X.code, X.here, X.tail, X.warmed, X.limits, X.bytes, X.same.mono h1 h2⟩ N q
theorem Go.cast {f f' : JFrame} (q : f = f') (k : Go p l e R s m args below meth c n0 Q cells slots h f') : Go p l e R s m args below meth c n0 Q cells slots h f := q ▸ k

theorem G.iadd (C : Cx p s m meth c Z y bytes maxL ret) {x1 x2 : Int32} (hd : decode bytes pc = .ok (.iadd, 1))  (hn : pc + 1 = n) (k : Go p l e R s m args below meth c n0 Q cells slots h (mkF m n Ls (.int (x1 + x2) :: st))) : Go p l e R s m args below meth c n0 Q cells slots h (mkF m pc Ls (.int x2 :: .int x1 :: st)) := by
  subst hn
  exact Go.via (fun T locs X _ t q => XS.iadd X.here C.x rfl (hb C.by hd) rfl q) k
theorem G.isub (C : Cx p s m meth c Z y bytes maxL ret) {x1 x2 : Int32} (hd : decode bytes pc = .ok (.isub, 1))  (hn : pc + 1 = n) (k : Go p l e R s m args below meth c n0 Q cells slots h (mkF m n Ls (.int (x1 - x2) :: st))) : Go p l e R s m args below meth c n0 Q cells slots h (mkF m pc Ls (.int x2 :: .int x1 :: st)) := by
  subst hn
  exact Go.via (fun T locs X _ t q => XS.isub X.here C.x rfl (hb C.by hd) rfl q) k
theorem G.imul (C : Cx p s m meth c Z y bytes maxL ret) {x1 x2 : Int32} (hd : decode bytes pc = .ok (.imul, 1))  (hn : pc + 1 = n) (k : Go p l e R s m args below meth c n0 Q cells slots h (mkF m n Ls (.int (x1 * x2) :: st))) : Go p l e R s m args below meth c n0 Q cells slots h (mkF m pc Ls (.int x2 :: .int x1 :: st)) := by
  subst hn
  exact Go.via (fun T locs X _ t q => XS.imul X.here C.x rfl (hb C.by hd) rfl q) k
theorem G.iand (C : Cx p s m meth c Z y bytes maxL ret) {x1 x2 : Int32} (hd : decode bytes pc = .ok (.iand, 1))  (hn : pc + 1 = n) (k : Go p l e R s m args below meth c n0 Q cells slots h (mkF m n Ls (.int (x1 &&& x2) :: st))) : Go p l e R s m args below meth c n0 Q cells slots h (mkF m pc Ls (.int x2 :: .int x1 :: st)) := by
  subst hn
  exact Go.via (fun T locs X _ t q => XS.iand X.here C.x rfl (hb C.by hd) rfl q) k
theorem G.ior (C : Cx p s m meth c Z y bytes maxL ret) {x1 x2 : Int32} (hd : decode bytes pc = .ok (.ior, 1))  (hn : pc + 1 = n) (k : Go p l e R s m args below meth c n0 Q cells slots h (mkF m n Ls (.int (x1 ||| x2) :: st))) : Go p l e R s m args below meth c n0 Q cells slots h (mkF m pc Ls (.int x2 :: .int x1 :: st)) := by
  subst hn
  exact Go.via (fun T locs X _ t q => XS.ior X.here C.x rfl (hb C.by hd) rfl q) k
theorem G.ixor (C : Cx p s m meth c Z y bytes maxL ret) {x1 x2 : Int32} (hd : decode bytes pc = .ok (.ixor, 1))  (hn : pc + 1 = n) (k : Go p l e R s m args below meth c n0 Q cells slots h (mkF m n Ls (.int (x1 ^^^ x2) :: st))) : Go p l e R s m args below meth c n0 Q cells slots h (mkF m pc Ls (.int x2 :: .int x1 :: st)) := by
  subst hn
  exact Go.via (fun T locs X _ t q => XS.ixor X.here C.x rfl (hb C.by hd) rfl q) k
theorem G.ladd (C : Cx p s m meth c Z y bytes maxL ret) {x1 x2 : Int64} (hd : decode bytes pc = .ok (.ladd, 1))  (hn : pc + 1 = n) (k : Go p l e R s m args below meth c n0 Q cells slots h (mkF m n Ls (.long (x1 + x2) :: st))) : Go p l e R s m args below meth c n0 Q cells slots h (mkF m pc Ls (.long x2 :: .long x1 :: st)) := by
  subst hn
  exact Go.via (fun T locs X _ t q => XS.ladd X.here C.x rfl (hb C.by hd) rfl q) k
theorem G.lsub (C : Cx p s m meth c Z y bytes maxL ret) {x1 x2 : Int64} (hd : decode bytes pc = .ok (.lsub, 1))  (hn : pc + 1 = n) (k : Go p l e R s m args below meth c n0 Q cells slots h (mkF m n Ls (.long (x1 - x2) :: st))) : Go p l e R s m args below meth c n0 Q cells slots h (mkF m pc Ls (.long x2 :: .long x1 :: st)) := by
  subst hn
  exact Go.via (fun T locs X _ t q => XS.lsub X.here C.x rfl (hb C.by hd) rfl q) k
theorem G.lmul (C : Cx p s m meth c Z y bytes maxL ret) {x1 x2 : Int64} (hd : decode bytes pc = .ok (.lmul, 1))  (hn : pc + 1 = n) (k : Go p l e R s m args below meth c n0 Q cells slots h (mkF m n Ls (.long (x1 * x2) :: st))) : Go p l e R s m args below meth c n0 Q cells slots h (mkF m pc Ls (.long x2 :: .long x1 :: st)) := by
  subst hn
  exact Go.via (fun T locs X _ t q => XS.lmul X.here C.x rfl (hb C.by hd) rfl q) k
theorem G.land (C : Cx p s m meth c Z y bytes maxL ret) {x1 x2 : Int64} (hd : decode bytes pc = .ok (.land, 1))  (hn : pc + 1 = n) (k : Go p l e R s m args below meth c n0 Q cells slots h (mkF m n Ls (.long (x1 &&& x2) :: st))) : Go p l e R s m args below meth c n0 Q cells slots h (mkF m pc Ls (.long x2 :: .long x1 :: st)) := by
  subst hn
  exact Go.via (fun T locs X _ t q => XS.land X.here C.x rfl (hb C.by hd) rfl q) k
theorem G.lor (C : Cx p s m meth c Z y bytes maxL ret) {x1 x2 : Int64} (hd : decode bytes pc = .ok (.lor, 1))  (hn : pc + 1 = n) (k : Go p l e R s m args below meth c n0 Q cells slots h (mkF m n Ls (.long (x1 ||| x2) :: st))) : Go p l e R s m args below meth c n0 Q cells slots h (mkF m pc Ls (.long x2 :: .long x1 :: st)) := by
  subst hn
  exact Go.via (fun T locs X _ t q => XS.lor X.here C.x rfl (hb C.by hd) rfl q) k
theorem G.lxor (C : Cx p s m meth c Z y bytes maxL ret) {x1 x2 : Int64} (hd : decode bytes pc = .ok (.lxor, 1))  (hn : pc + 1 = n) (k : Go p l e R s m args below meth c n0 Q cells slots h (mkF m n Ls (.long (x1 ^^^ x2) :: st))) : Go p l e R s m args below meth c n0 Q cells slots h (mkF m pc Ls (.long x2 :: .long x1 :: st)) := by
  subst hn
  exact Go.via (fun T locs X _ t q => XS.lxor X.here C.x rfl (hb C.by hd) rfl q) k
theorem G.idiv (C : Cx p s m meth c Z y bytes maxL ret) {x1 x2 : Int32} (hd : decode bytes pc = .ok (.idiv, 1)) (hy : x2 ≠ 0) (hn : pc + 1 = n) (k : Go p l e R s m args below meth c n0 Q cells slots h (mkF m n Ls (.int (x1 / x2) :: st))) : Go p l e R s m args below meth c n0 Q cells slots h (mkF m pc Ls (.int x2 :: .int x1 :: st)) := by
  subst hn
  exact Go.via (fun T locs X _ t q => XS.idiv X.here C.x rfl (hb C.by hd) rfl hy q) k
theorem G.ishl (C : Cx p s m meth c Z y bytes maxL ret) {x1 x2 : Int32} (hd : decode bytes pc = .ok (.ishl, 1))  (hn : pc + 1 = n) (k : Go p l e R s m args below meth c n0 Q cells slots h (mkF m n Ls (.int (x1 <<< (x2 &&& 31)) :: st))) : Go p l e R s m args below meth c n0 Q cells slots h (mkF m pc Ls (.int x2 :: .int x1 :: st)) := by
  subst hn
  exact Go.via (fun T locs X _ t q => XS.ishl X.here C.x rfl (hb C.by hd) rfl q) k
theorem G.ishr (C : Cx p s m meth c Z y bytes maxL ret) {x1 x2 : Int32} (hd : decode bytes pc = .ok (.ishr, 1))  (hn : pc + 1 = n) (k : Go p l e R s m args below meth c n0 Q cells slots h (mkF m n Ls (.int (x1 >>> (x2 &&& 31)) :: st))) : Go p l e R s m args below meth c n0 Q cells slots h (mkF m pc Ls (.int x2 :: .int x1 :: st)) := by
  subst hn
  exact Go.via (fun T locs X _ t q => XS.ishr X.here C.x rfl (hb C.by hd) rfl q) k
theorem G.iushr (C : Cx p s m meth c Z y bytes maxL ret) {x1 x2 : Int32} (hd : decode bytes pc = .ok (.iushr, 1))  (hn : pc + 1 = n) (k : Go p l e R s m args below meth c n0 Q cells slots h (mkF m n Ls (.int ((x1.toUInt32 >>> (x2 &&& 31).toUInt32).toInt32) :: st))) : Go p l e R s m args below meth c n0 Q cells slots h (mkF m pc Ls (.int x2 :: .int x1 :: st)) := by
  subst hn
  exact Go.via (fun T locs X _ t q => XS.iushr X.here C.x rfl (hb C.by hd) rfl q) k
theorem G.irem (C : Cx p s m meth c Z y bytes maxL ret) {x1 x2 : Int32} (hd : decode bytes pc = .ok (.irem, 1)) (hy : x2 ≠ 0) (hn : pc + 1 = n) (k : Go p l e R s m args below meth c n0 Q cells slots h (mkF m n Ls (.int (x1 % x2) :: st))) : Go p l e R s m args below meth c n0 Q cells slots h (mkF m pc Ls (.int x2 :: .int x1 :: st)) := by
  subst hn
  exact Go.via (fun T locs X _ t q => iremM X C.x rfl (hb C.by hd) rfl hy q) k
theorem G.ldiv (C : Cx p s m meth c Z y bytes maxL ret) {x1 x2 : Int64} (hd : decode bytes pc = .ok (.ldiv, 1)) (hy : x2 ≠ 0) (hn : pc + 1 = n) (k : Go p l e R s m args below meth c n0 Q cells slots h (mkF m n Ls (.long (x1 / x2) :: st))) : Go p l e R s m args below meth c n0 Q cells slots h (mkF m pc Ls (.long x2 :: .long x1 :: st)) := by
  subst hn
  exact Go.via (fun T locs X _ t q => XS.ldiv X.here C.x rfl (hb C.by hd) rfl hy q) k
theorem G.lrem (C : Cx p s m meth c Z y bytes maxL ret) {x1 x2 : Int64} (hd : decode bytes pc = .ok (.lrem, 1)) (hy : x2 ≠ 0) (hn : pc + 1 = n) (k : Go p l e R s m args below meth c n0 Q cells slots h (mkF m n Ls (.long (x1 - (x1 / x2) * x2) :: st))) : Go p l e R s m args below meth c n0 Q cells slots h (mkF m pc Ls (.long x2 :: .long x1 :: st)) := by
  subst hn
  exact Go.via (fun T locs X _ t q => XS.lrem X.here C.x rfl (hb C.by hd) rfl hy q) k
theorem G.lshl (C : Cx p s m meth c Z y bytes maxL ret) {x1 : Int64} {x2 : Int32} (hd : decode bytes pc = .ok (.lshl, 1))  (hn : pc + 1 = n) (k : Go p l e R s m args below meth c n0 Q cells slots h (mkF m n Ls (.long (x1 <<< (x2 &&& 0x3f).toInt64) :: st))) : Go p l e R s m args below meth c n0 Q cells slots h (mkF m pc Ls (.int x2 :: .long x1 :: st)) := by
  subst hn
  exact Go.via (fun T locs X _ t q => XS.lshl X.here C.x rfl (hb C.by hd) rfl q) k
theorem G.lshr (C : Cx p s m meth c Z y bytes maxL ret) {x1 : Int64} {x2 : Int32} (hd : decode bytes pc = .ok (.lshr, 1))  (hn : pc + 1 = n) (k : Go p l e R s m args below meth c n0 Q cells slots h (mkF m n Ls (.long (x1 >>> (x2 &&& 0x3f).toInt64) :: st))) : Go p l e R s m args below meth c n0 Q cells slots h (mkF m pc Ls (.int x2 :: .long x1 :: st)) := by
  subst hn
  exact Go.via (fun T locs X _ t q => XS.lshr X.here C.x rfl (hb C.by hd) rfl q) k
theorem G.lushr (C : Cx p s m meth c Z y bytes maxL ret) {x1 : Int64} {x2 : Int32} (hd : decode bytes pc = .ok (.lushr, 1))  (hn : pc + 1 = n) (k : Go p l e R s m args below meth c n0 Q cells slots h (mkF m n Ls (.long ((x1.toUInt64 >>> (x2 &&& 0x3f).toInt64.toUInt64).toInt64) :: st))) : Go p l e R s m args below meth c n0 Q cells slots h (mkF m pc Ls (.int x2 :: .long x1 :: st)) := by
  subst hn
  exact Go.via (fun T locs X _ t q => XS.lushr X.here C.x rfl (hb C.by hd) rfl q) k
theorem G.ineg (C : Cx p s m meth c Z y bytes maxL ret) {x : Int32} (hd : decode bytes pc = .ok (.ineg, 1))  (hn : pc + 1 = n) (k : Go p l e R s m args below meth c n0 Q cells slots h (mkF m n Ls (.int (-x) :: st))) : Go p l e R s m args below meth c n0 Q cells slots h (mkF m pc Ls (.int x :: st)) := by
  subst hn
  exact Go.via (fun T locs X _ t q => XS.ineg X.here C.x rfl (hb C.by hd) rfl q) k
theorem G.lneg (C : Cx p s m meth c Z y bytes maxL ret) {x : Int64} (hd : decode bytes pc = .ok (.lneg, 1))  (hn : pc + 1 = n) (k : Go p l e R s m args below meth c n0 Q cells slots h (mkF m n Ls (.long (-x) :: st))) : Go p l e R s m args below meth c n0 Q cells slots h (mkF m pc Ls (.long x :: st)) := by
  subst hn
  exact Go.via (fun T locs X _ t q => XS.lneg X.here C.x rfl (hb C.by hd) rfl q) k
theorem G.i2l (C : Cx p s m meth c Z y bytes maxL ret) {x : Int32} (hd : decode bytes pc = .ok (.i2l, 1))  (hn : pc + 1 = n) (k : Go p l e R s m args below meth c n0 Q cells slots h (mkF m n Ls (.long (x.toInt64) :: st))) : Go p l e R s m args below meth c n0 Q cells slots h (mkF m pc Ls (.int x :: st)) := by
  subst hn
  exact Go.via (fun T locs X _ t q => XS.i2l X.here C.x rfl (hb C.by hd) rfl q) k
theorem G.l2i (C : Cx p s m meth c Z y bytes maxL ret) {x : Int64} (hd : decode bytes pc = .ok (.l2i, 1))  (hn : pc + 1 = n) (k : Go p l e R s m args below meth c n0 Q cells slots h (mkF m n Ls (.int (x.toInt32) :: st))) : Go p l e R s m args below meth c n0 Q cells slots h (mkF m pc Ls (.long x :: st)) := by
  subst hn
  exact Go.via (fun T locs X _ t q => XS.l2i X.here C.x rfl (hb C.by hd) rfl q) k
theorem G.i2b (C : Cx p s m meth c Z y bytes maxL ret) {x : Int32} (hd : decode bytes pc = .ok (.i2b, 1))  (hn : pc + 1 = n) (k : Go p l e R s m args below meth c n0 Q cells slots h (mkF m n Ls (.int (x.toInt8.toInt32) :: st))) : Go p l e R s m args below meth c n0 Q cells slots h (mkF m pc Ls (.int x :: st)) := by
  subst hn
  exact Go.via (fun T locs X _ t q => XS.i2b X.here C.x rfl (hb C.by hd) rfl q) k
theorem G.i2s (C : Cx p s m meth c Z y bytes maxL ret) {x : Int32} (hd : decode bytes pc = .ok (.i2s, 1))  (hn : pc + 1 = n) (k : Go p l e R s m args below meth c n0 Q cells slots h (mkF m n Ls (.int (x.toInt16.toInt32) :: st))) : Go p l e R s m args below meth c n0 Q cells slots h (mkF m pc Ls (.int x :: st)) := by
  subst hn
  exact Go.via (fun T locs X _ t q => XS.i2s X.here C.x rfl (hb C.by hd) rfl q) k
theorem G.i2c (C : Cx p s m meth c Z y bytes maxL ret) {x : Int32} (hd : decode bytes pc = .ok (.i2c, 1))  (hn : pc + 1 = n) (k : Go p l e R s m args below meth c n0 Q cells slots h (mkF m n Ls (.int (x.toUInt32.toUInt16.toUInt32.toInt32) :: st))) : Go p l e R s m args below meth c n0 Q cells slots h (mkF m pc Ls (.int x :: st)) := by
  subst hn
  exact Go.via (fun T locs X _ t q => XS.i2c X.here C.x rfl (hb C.by hd) rfl q) k
theorem G.iconst (C : Cx p s m meth c Z y bytes maxL ret) {i : Int} (v : Int32) (hd : decode bytes pc = .ok (.iconst i, 1)) (hv : Int32.ofInt i = v) (hn : pc + 1 = n) (k : Go p l e R s m args below meth c n0 Q cells slots h (mkF m n Ls (.int v :: st))) : Go p l e R s m args below meth c n0 Q cells slots h (mkF m pc Ls (st)) := by
  subst hn hv
  exact Go.via (fun T locs X _ t q => XS.iconst X.here C.x rfl (hb C.by hd)  q) k
theorem G.bipush (C : Cx p s m meth c Z y bytes maxL ret) {i : Int} (v : Int32) (hd : decode bytes pc = .ok (.bipush i, 2)) (hv : (Int8.ofInt i).toInt32 = v) (hn : pc + 2 = n) (k : Go p l e R s m args below meth c n0 Q cells slots h (mkF m n Ls (.int v :: st))) : Go p l e R s m args below meth c n0 Q cells slots h (mkF m pc Ls (st)) := by
  subst hn hv
  exact Go.via (fun T locs X _ t q => XS.bipush X.here C.x rfl (hb C.by hd)  q) k
theorem G.sipush (C : Cx p s m meth c Z y bytes maxL ret) {i : Int} (v : Int32) (hd : decode bytes pc = .ok (.sipush i, 3)) (hv : (Int16.ofInt i).toInt32 = v) (hn : pc + 3 = n) (k : Go p l e R s m args below meth c n0 Q cells slots h (mkF m n Ls (.int v :: st))) : Go p l e R s m args below meth c n0 Q cells slots h (mkF m pc Ls (st)) := by
  subst hn hv
  exact Go.via (fun T locs X _ t q => XS.sipush X.here C.x rfl (hb C.by hd)  q) k
theorem G.lconst (C : Cx p s m meth c Z y bytes maxL ret) {i : Fin 2} (v : Int64) (hd : decode bytes pc = .ok (.lconst i, 1)) (hv : Int64.ofNat i = v) (hn : pc + 1 = n) (k : Go p l e R s m args below meth c n0 Q cells slots h (mkF m n Ls (.long v :: st))) : Go p l e R s m args below meth c n0 Q cells slots h (mkF m pc Ls (st)) := by
  subst hn hv
  exact Go.via (fun T locs X _ t q => XS.lconst X.here C.x rfl (hb C.by hd)  q) k
theorem G.aconst_null (C : Cx p s m meth c Z y bytes maxL ret)  (hd : decode bytes pc = .ok (.aconst_null, 1))  (hn : pc + 1 = n) (k : Go p l e R s m args below meth c n0 Q cells slots h (mkF m n Ls (.null :: st))) : Go p l e R s m args below meth c n0 Q cells slots h (mkF m pc Ls (st)) := by
  subst hn
  exact Go.via (fun T locs X _ t q => XS.aconstNull X.here C.x rfl (hb C.by hd)  q) k
theorem G.iload (C : Cx p s m meth c Z y bytes maxL ret) {k : Nat} {v : Int32} (hd : decode bytes pc = .ok (.iload k, 2)) (hl : Ls[k]? = some (.val (.int v)))  (hn : pc + 2 = n) (k : Go p l e R s m args below meth c n0 Q cells slots h (mkF m n Ls (.int v :: st))) : Go p l e R s m args below meth c n0 Q cells slots h (mkF m pc Ls (st)) := by
  subst hn
  exact Go.via (fun T locs X _ t q => XS.iload X.here C.x rfl (hb C.by hd) hl q) k
theorem G.iloadN (C : Cx p s m meth c Z y bytes maxL ret) {k : Fin 4} {v : Int32} (hd : decode bytes pc = .ok (.iload_n k, 1)) (hl : Ls[k.val]? = some (.val (.int v)))  (hn : pc + 1 = n) (k : Go p l e R s m args below meth c n0 Q cells slots h (mkF m n Ls (.int v :: st))) : Go p l e R s m args below meth c n0 Q cells slots h (mkF m pc Ls (st)) := by
  subst hn
  exact Go.via (fun T locs X _ t q => XS.iloadN X.here C.x rfl (hb C.by hd) hl q) k
theorem G.lload (C : Cx p s m meth c Z y bytes maxL ret) {k : Nat} {v : Int64} (hd : decode bytes pc = .ok (.lload k, 2)) (hl : Ls[k]? = some (.val (.long v)))  (hn : pc + 2 = n) (k : Go p l e R s m args below meth c n0 Q cells slots h (mkF m n Ls (.long v :: st))) : Go p l e R s m args below meth c n0 Q cells slots h (mkF m pc Ls (st)) := by
  subst hn
  exact Go.via (fun T locs X _ t q => XS.lload X.here C.x rfl (hb C.by hd) hl q) k
theorem G.lloadN (C : Cx p s m meth c Z y bytes maxL ret) {k : Fin 4} {v : Int64} (hd : decode bytes pc = .ok (.lload_n k, 1)) (hl : Ls[k.val]? = some (.val (.long v)))  (hn : pc + 1 = n) (k : Go p l e R s m args below meth c n0 Q cells slots h (mkF m n Ls (.long v :: st))) : Go p l e R s m args below meth c n0 Q cells slots h (mkF m pc Ls (st)) := by
  subst hn
  exact Go.via (fun T locs X _ t q => XS.lloadN X.here C.x rfl (hb C.by hd) hl q) k
theorem G.aload (C : Cx p s m meth c Z y bytes maxL ret) {k : Nat} {v : Value} (hd : decode bytes pc = .ok (.aload k, 2)) (hl : Ls[k]? = some (.val (v))) (hv : v.isRef = true) (hn : pc + 2 = n) (k : Go p l e R s m args below meth c n0 Q cells slots h (mkF m n Ls (v :: st))) : Go p l e R s m args below meth c n0 Q cells slots h (mkF m pc Ls (st)) := by
  subst hn
  exact Go.via (fun T locs X _ t q => XS.aload X.here C.x rfl (hb C.by hd) hl hv q) k
theorem G.aloadN (C : Cx p s m meth c Z y bytes maxL ret) {k : Fin 4} {v : Value} (hd : decode bytes pc = .ok (.aload_n k, 1)) (hl : Ls[k.val]? = some (.val (v))) (hv : v.isRef = true) (hn : pc + 1 = n) (k : Go p l e R s m args below meth c n0 Q cells slots h (mkF m n Ls (v :: st))) : Go p l e R s m args below meth c n0 Q cells slots h (mkF m pc Ls (st)) := by
  subst hn
  exact Go.via (fun T locs X _ t q => XS.aloadN X.here C.x rfl (hb C.by hd) hl hv q) k
theorem G.istore (C : Cx p s m meth c Z y bytes maxL ret) {k : Nat} {x : Int32} {l' : Array Slot} (hd : decode bytes pc = .ok (.istore k, 2))  (hl : storeLocals Ls k (.int x) = some l') (hn : pc + 2 = n) (kk : Go p l e R s m args below meth c n0 Q cells slots h (mkF m n l' (st))) : Go p l e R s m args below meth c n0 Q cells slots h (mkF m pc Ls (.int x :: st)) := by
  subst hn
  exact Go.via (fun T locs X _ t q => XS.istore X.here C.x rfl (hb C.by hd) rfl hl q) kk
theorem G.istoreZ (C : Cx p s m meth c Z y bytes maxL ret) {k : Nat} {x : Int32} {l' : Int32 → Array Slot} (hd : decode bytes pc = .ok (.istore k, 2)) (hl : ∀ z, storeLocals Ls k (.int z) = some (l' z)) (hn : pc + 2 = n) (kk : ∀ z, z = x → Go p l e R s m args below meth c n0 Q cells slots h (mkF m n (l' z) (st))) : Go p l e R s m args below meth c n0 Q cells slots h (mkF m pc Ls (.int x :: st)) :=
  G.istore C hd (hl x) hn (kk x rfl)
theorem G.istoreN (C : Cx p s m meth c Z y bytes maxL ret) {k : Fin 4} {x : Int32} {l' : Array Slot} (hd : decode bytes pc = .ok (.istore_n k, 1))  (hl : storeLocals Ls k.val (.int x) = some l') (hn : pc + 1 = n) (kk : Go p l e R s m args below meth c n0 Q cells slots h (mkF m n l' (st))) : Go p l e R s m args below meth c n0 Q cells slots h (mkF m pc Ls (.int x :: st)) := by
  subst hn
  exact Go.via (fun T locs X _ t q => XS.istoreN X.here C.x rfl (hb C.by hd) rfl hl q) kk
theorem G.istoreNZ (C : Cx p s m meth c Z y bytes maxL ret) {k : Fin 4} {x : Int32} {l' : Int32 → Array Slot} (hd : decode bytes pc = .ok (.istore_n k, 1)) (hl : ∀ z, storeLocals Ls k.val (.int z) = some (l' z)) (hn : pc + 1 = n) (kk : ∀ z, z = x → Go p l e R s m args below meth c n0 Q cells slots h (mkF m n (l' z) (st))) : Go p l e R s m args below meth c n0 Q cells slots h (mkF m pc Ls (.int x :: st)) :=
  G.istoreN C hd (hl x) hn (kk x rfl)
theorem G.lstore (C : Cx p s m meth c Z y bytes maxL ret) {k : Nat} {x : Int64} {l' : Array Slot} (hd : decode bytes pc = .ok (.lstore k, 2))  (hl : storeLocals Ls k (.long x) = some l') (hn : pc + 2 = n) (kk : Go p l e R s m args below meth c n0 Q cells slots h (mkF m n l' (st))) : Go p l e R s m args below meth c n0 Q cells slots h (mkF m pc Ls (.long x :: st)) := by
  subst hn
  exact Go.via (fun T locs X _ t q => XS.lstore X.here C.x rfl (hb C.by hd) rfl hl q) kk
theorem G.lstoreZ (C : Cx p s m meth c Z y bytes maxL ret) {k : Nat} {x : Int64} {l' : Int64 → Array Slot} (hd : decode bytes pc = .ok (.lstore k, 2)) (hl : ∀ z, storeLocals Ls k (.long z) = some (l' z)) (hn : pc + 2 = n) (kk : ∀ z, z = x → Go p l e R s m args below meth c n0 Q cells slots h (mkF m n (l' z) (st))) : Go p l e R s m args below meth c n0 Q cells slots h (mkF m pc Ls (.long x :: st)) :=
  G.lstore C hd (hl x) hn (kk x rfl)
theorem G.lstoreN (C : Cx p s m meth c Z y bytes maxL ret) {k : Fin 4} {x : Int64} {l' : Array Slot} (hd : decode bytes pc = .ok (.lstore_n k, 1))  (hl : storeLocals Ls k.val (.long x) = some l') (hn : pc + 1 = n) (kk : Go p l e R s m args below meth c n0 Q cells slots h (mkF m n l' (st))) : Go p l e R s m args below meth c n0 Q cells slots h (mkF m pc Ls (.long x :: st)) := by
  subst hn
  exact Go.via (fun T locs X _ t q => XS.lstoreN X.here C.x rfl (hb C.by hd) rfl hl q) kk
theorem G.lstoreNZ (C : Cx p s m meth c Z y bytes maxL ret) {k : Fin 4} {x : Int64} {l' : Int64 → Array Slot} (hd : decode bytes pc = .ok (.lstore_n k, 1)) (hl : ∀ z, storeLocals Ls k.val (.long z) = some (l' z)) (hn : pc + 1 = n) (kk : ∀ z, z = x → Go p l e R s m args below meth c n0 Q cells slots h (mkF m n (l' z) (st))) : Go p l e R s m args below meth c n0 Q cells slots h (mkF m pc Ls (.long x :: st)) :=
  G.lstoreN C hd (hl x) hn (kk x rfl)
theorem G.astore (C : Cx p s m meth c Z y bytes maxL ret) {k : Nat} {x : Value} {l' : Array Slot} (hd : decode bytes pc = .ok (.astore k, 2)) (hv : x.isRef = true) (hl : storeLocals Ls k (x) = some l') (hn : pc + 2 = n) (kk : Go p l e R s m args below meth c n0 Q cells slots h (mkF m n l' (st))) : Go p l e R s m args below meth c n0 Q cells slots h (mkF m pc Ls (x :: st)) := by
  subst hn
  exact Go.via (fun T locs X _ t q => XS.astore X.here C.x rfl (hb C.by hd) rfl hv hl q) kk
theorem G.astoreN (C : Cx p s m meth c Z y bytes maxL ret) {k : Fin 4} {x : Value} {l' : Array Slot} (hd : decode bytes pc = .ok (.astore_n k, 1)) (hv : x.isRef = true) (hl : storeLocals Ls k.val (x) = some l') (hn : pc + 1 = n) (kk : Go p l e R s m args below meth c n0 Q cells slots h (mkF m n l' (st))) : Go p l e R s m args below meth c n0 Q cells slots h (mkF m pc Ls (x :: st)) := by
  subst hn
  exact Go.via (fun T locs X _ t q => XS.astoreN X.here C.x rfl (hb C.by hd) rfl hv hl q) kk
theorem G.iinc (C : Cx p s m meth c Z y bytes maxL ret) {k : Nat} {cst : Int} (v : Int32) {x : Int32} {l' : Array Slot} (hd : decode bytes pc = .ok (.iinc k cst, 3)) (hv : Int32.ofInt cst = v) (hx : Ls[k]? = some (.val (.int x))) (hl : storeLocals Ls k (.int (x + v)) = some l') (hn : pc + 3 = n) (kk : Go p l e R s m args below meth c n0 Q cells slots h (mkF m n l' (st))) : Go p l e R s m args below meth c n0 Q cells slots h (mkF m pc Ls (st)) := by
  subst hn hv
  exact Go.via (fun T locs X _ t q => XS.iinc X.here C.x rfl (hb C.by hd) hx hl q) kk
theorem G.iincZ (C : Cx p s m meth c Z y bytes maxL ret) {k : Nat} {cst : Int} (v : Int32) {x : Int32} {l' : Int32 → Array Slot} (hd : decode bytes pc = .ok (.iinc k cst, 3)) (hv : Int32.ofInt cst = v) (hx : Ls[k]? = some (.val (.int x))) (hl : ∀ z, storeLocals Ls k (.int z) = some (l' z)) (hn : pc + 3 = n) (kk : ∀ z, z = x + v → Go p l e R s m args below meth c n0 Q cells slots h (mkF m n (l' z) (st))) : Go p l e R s m args below meth c n0 Q cells slots h (mkF m pc Ls (st)) :=
  G.iinc C v hd hv hx (hl _) hn (kk _ rfl)
theorem G.iincK (C : Cx p s m meth c Z y bytes maxL ret) {k : Nat} {cst : Int} (v : Int32) {x : Int32} (z : Int32) {l' : Array Slot} (hd : decode bytes pc = .ok (.iinc k cst, 3)) (hv : Int32.ofInt cst = v) (hx : Ls[k]? = some (.val (.int x))) (hz : x + v = z) (hl : storeLocals Ls k (.int z) = some l') (hn : pc + 3 = n) (kk : Go p l e R s m args below meth c n0 Q cells slots h (mkF m n l' (st))) : Go p l e R s m args below meth c n0 Q cells slots h (mkF m pc Ls (st)) := by
  subst hz
  exact G.iinc C v hd hv hx hl hn kk
theorem G.name_int {x : Int32} (kk : ∀ z, z = x → Go p l e R s m args below meth c n0 Q cells slots h (mkF m pc Ls (.int z :: st))) : Go p l e R s m args below meth c n0 Q cells slots h (mkF m pc Ls (.int x :: st)) := kk x rfl
theorem G.name_long {x : Int64} (kk : ∀ z, z = x → Go p l e R s m args below meth c n0 Q cells slots h (mkF m pc Ls (.long z :: st))) : Go p l e R s m args below meth c n0 Q cells slots h (mkF m pc Ls (.long x :: st)) := kk x rfl
theorem G.fold_int {x z : Int32} (hz : x = z) (kk : Go p l e R s m args below meth c n0 Q cells slots h (mkF m pc Ls (.int z :: st))) : Go p l e R s m args below meth c n0 Q cells slots h (mkF m pc Ls (.int x :: st)) := hz ▸ kk
theorem G.fold_long {x z : Int64} (hz : x = z) (kk : Go p l e R s m args below meth c n0 Q cells slots h (mkF m pc Ls (.long z :: st))) : Go p l e R s m args below meth c n0 Q cells slots h (mkF m pc Ls (.long x :: st)) := hz ▸ kk
theorem G.dup (C : Cx p s m meth c Z y bytes maxL ret) {x : Value} (hd : decode bytes pc = .ok (.dup, 1)) (hc : x.category = 1) (hn : pc + 1 = n) (k : Go p l e R s m args below meth c n0 Q cells slots h (mkF m n Ls (x :: x :: st))) : Go p l e R s m args below meth c n0 Q cells slots h (mkF m pc Ls (x :: st)) := by
  subst hn
  exact Go.via (fun T locs X _ t q => XS.dup X.here C.x rfl (hb C.by hd) rfl hc q) k
theorem G.pop (C : Cx p s m meth c Z y bytes maxL ret) {x : Value} (hd : decode bytes pc = .ok (.pop, 1)) (hc : x.category = 1) (hn : pc + 1 = n) (k : Go p l e R s m args below meth c n0 Q cells slots h (mkF m n Ls (st))) : Go p l e R s m args below meth c n0 Q cells slots h (mkF m pc Ls (x :: st)) := by
  subst hn
  exact Go.via (fun T locs X _ t q => XS.pop X.here C.x rfl (hb C.by hd) rfl hc q) k
theorem G.dup_x1 (C : Cx p s m meth c Z y bytes maxL ret) {x x2 : Value} (hd : decode bytes pc = .ok (.dup_x1, 1)) (hc : x.category = 1) (hc2 : x2.category = 1) (hn : pc + 1 = n) (k : Go p l e R s m args below meth c n0 Q cells slots h (mkF m n Ls (x :: x2 :: x :: st))) : Go p l e R s m args below meth c n0 Q cells slots h (mkF m pc Ls (x :: x2 :: st)) := by
  subst hn
  exact Go.via (fun T locs X _ t q => XS.dupX1 X.here C.x rfl (hb C.by hd) rfl hc hc2 q) k
theorem G.dup2 (C : Cx p s m meth c Z y bytes maxL ret) {x x2 : Value} (hd : decode bytes pc = .ok (.dup2, 1)) (hc : x.category = 1) (hc2 : x2.category = 1) (hn : pc + 1 = n) (k : Go p l e R s m args below meth c n0 Q cells slots h (mkF m n Ls (x :: x2 :: x :: x2 :: st))) : Go p l e R s m args below meth c n0 Q cells slots h (mkF m pc Ls (x :: x2 :: st)) := by
  subst hn
  exact Go.via (fun T locs X _ t q => XT.dup2 X.here C.x rfl (hb C.by hd) rfl hc hc2 q) k
theorem G.dup2L (C : Cx p s m meth c Z y bytes maxL ret) {x : Int64} (hd : decode bytes pc = .ok (.dup2, 1)) (hn : pc + 1 = n) (k : Go p l e R s m args below meth c n0 Q cells slots h (mkF m n Ls (.long x :: .long x :: st))) : Go p l e R s m args below meth c n0 Q cells slots h (mkF m pc Ls (.long x :: st)) := by
  subst hn
  exact Go.via (fun T locs X _ t q => XT.dup2L X.here C.x rfl (hb C.by hd) rfl q) k
theorem G.goto (C : Cx p s m meth c Z y bytes maxL ret) {o : Int} (hd : decode bytes pc = .ok (.goto o, 3)) (ho : 0 ≤ (pc : Int) + o) (hp : ((pc : Int) + o).toNat = n) (k : Go p l e R s m args below meth c n0 Q cells slots h (mkF m n Ls (st))) : Go p l e R s m args below meth c n0 Q cells slots h (mkF m pc Ls (st)) :=
  Go.via (fun T locs X _ t q => XS.goto X.here C.x rfl rfl (hb C.by hd) ho hp q) k
theorem lt_i {x y : Int32} : x < y ↔ x.toInt < y.toInt := Int32.lt_iff_toInt_lt
theorem lt_l {x y : Int64} : x < y ↔ x.toInt < y.toInt := Int64.lt_iff_toInt_lt
theorem le_i {x y : Int32} : x ≤ y ↔ x.toInt ≤ y.toInt := Int32.le_iff_toInt_le
theorem le_l {x y : Int64} : x ≤ y ↔ x.toInt ≤ y.toInt := Int64.le_iff_toInt_le
theorem ich_lt {x1 x2 : Int32} : (x1.toInt < x2.toInt ∧ if_icmp.holds .lt x1 x2 = true) ∨ (x2.toInt ≤ x1.toInt ∧ if_icmp.holds .lt x1 x2 = false) := by
  by_cases q : x1.toInt < x2.toInt
  · exact Or.inl ⟨q, by simp [if_icmp.holds, lt_i, le_i, Int32.lt_iff_toInt_lt, Int32.le_iff_toInt_le, q]⟩
  · exact Or.inr ⟨by omega, by first | (simp [if_icmp.holds, lt_i, le_i, Int32.lt_iff_toInt_lt, Int32.le_iff_toInt_le, q]; done) | (simp [if_icmp.holds, lt_i, le_i, Int32.lt_iff_toInt_lt, Int32.le_iff_toInt_le]; omega)⟩
theorem G.icmp_lt (C : Cx p s m meth c Z y bytes maxL ret) {x1 x2 : Int32} {o : Int} {A B : Int} (hA : x1.toInt = A) (hB : x2.toInt = B) (hd : decode bytes pc = .ok (.if_icmp .lt o, 3)) (ho : 0 ≤ (pc : Int) + o) (hp : ((pc : Int) + o).toNat = n') (hn : pc + 3 = n) (kt : A < B → Go p l e R s m args below meth c n0 Q cells slots h (mkF m n' Ls (st))) (kf : B ≤ A → Go p l e R s m args below meth c n0 Q cells slots h (mkF m n Ls (st))) : Go p l e R s m args below meth c n0 Q cells slots h (mkF m pc Ls (.int x2 :: .int x1 :: st)) := by
  subst hn hA hB
  rcases ich_lt (x1 := x1) (x2 := x2) with ⟨q, r⟩ | ⟨q, r⟩
  · exact Go.via (fun T locs X _ t q => XS.icmpYes X.here C.x rfl rfl (hb C.by hd) rfl r ho hp q) (kt q)
  · exact Go.via (fun T locs X _ t q => XS.icmpNo X.here C.x rfl (hb C.by hd) rfl r q) (kf q)
theorem G.if_lt (C : Cx p s m meth c Z y bytes maxL ret) {x1 : Int32} {o : Int} {A : Int} (hA : x1.toInt = A) (hd : decode bytes pc = .ok (.ifCond .lt o, 3)) (ho : 0 ≤ (pc : Int) + o) (hp : ((pc : Int) + o).toNat = n') (hn : pc + 3 = n) (kt : A < 0 → Go p l e R s m args below meth c n0 Q cells slots h (mkF m n' Ls (st))) (kf : 0 ≤ A → Go p l e R s m args below meth c n0 Q cells slots h (mkF m n Ls (st))) : Go p l e R s m args below meth c n0 Q cells slots h (mkF m pc Ls (.int x1 :: st)) := by
  subst hn hA
  rcases ich_lt (x1 := x1) (x2 := 0) with ⟨q, r⟩ | ⟨q, r⟩
  · exact Go.via (fun T locs X _ t q => XS.ifYes X.here C.x rfl rfl (hb C.by hd) rfl ((if0 _ _).trans r) ho hp q) (kt q)
  · exact Go.via (fun T locs X _ t q => XS.ifNo X.here C.x rfl (hb C.by hd) rfl ((if0 _ _).trans r) q) (kf q)
theorem lch_lt (x1 x2 : Int64) : ((lcmpW x1 x2).toInt < 0 → x1.toInt < x2.toInt) ∧ (0 ≤ (lcmpW x1 x2).toInt → x2.toInt ≤ x1.toInt) := by
  have q := c_lcmp x1 x2
  have z : ∀ x : Int32, x = 0 ↔ x.toInt = 0 := fun x => ⟨fun q => by rw [q]; rfl, fun q => Int32.toInt_inj.mp q⟩
  have w : x1 = x2 ↔ x1.toInt = x2.toInt := Int64.toInt_inj.symm
  
  constructor <;> intro r <;> omega
theorem G.lcmp_lt (C : Cx p s m meth c Z y bytes maxL ret) {x1 x2 : Int64} {o : Int} {A B : Int} (hA : x1.toInt = A) (hB : x2.toInt = B) (hc : decode bytes pc = .ok (.lcmp, 1)) (hd : decode bytes (pc + 1) = .ok (.ifCond .lt o, 3)) (ho : 0 ≤ ((pc + 1 : Nat) : Int) + o) (hp : (((pc + 1 : Nat) : Int) + o).toNat = n') (hn : pc + 4 = n) (kt : A < B → Go p l e R s m args below meth c n0 Q cells slots h (mkF m n' Ls (st))) (kf : B ≤ A → Go p l e R s m args below meth c n0 Q cells slots h (mkF m n Ls (st))) : Go p l e R s m args below meth c n0 Q cells slots h (mkF m pc Ls (.long x2 :: .long x1 :: st)) := by
  subst hn hA hB
  refine Go.via (fun T locs X _ t q => XS.lcmp X.here C.x rfl (hb C.by hc) rfl q) ?_
  exact G.if_lt C (A := (lcmpW x1 x2).toInt) rfl (pc := pc + 1) hd ho hp (n := pc + 4) rfl (fun q => kt ((lch_lt x1 x2).1 q)) (fun q => kf ((lch_lt x1 x2).2 q))
theorem ich_ge {x1 x2 : Int32} : (x2.toInt ≤ x1.toInt ∧ if_icmp.holds .ge x1 x2 = true) ∨ (x1.toInt < x2.toInt ∧ if_icmp.holds .ge x1 x2 = false) := by
  by_cases q : x2.toInt ≤ x1.toInt
  · exact Or.inl ⟨q, by simp [if_icmp.holds, lt_i, le_i, Int32.lt_iff_toInt_lt, Int32.le_iff_toInt_le, q]⟩
  · exact Or.inr ⟨by omega, by first | (simp [if_icmp.holds, lt_i, le_i, Int32.lt_iff_toInt_lt, Int32.le_iff_toInt_le, q]; done) | (simp [if_icmp.holds, lt_i, le_i, Int32.lt_iff_toInt_lt, Int32.le_iff_toInt_le]; omega)⟩
theorem G.icmp_ge (C : Cx p s m meth c Z y bytes maxL ret) {x1 x2 : Int32} {o : Int} {A B : Int} (hA : x1.toInt = A) (hB : x2.toInt = B) (hd : decode bytes pc = .ok (.if_icmp .ge o, 3)) (ho : 0 ≤ (pc : Int) + o) (hp : ((pc : Int) + o).toNat = n') (hn : pc + 3 = n) (kt : B ≤ A → Go p l e R s m args below meth c n0 Q cells slots h (mkF m n' Ls (st))) (kf : A < B → Go p l e R s m args below meth c n0 Q cells slots h (mkF m n Ls (st))) : Go p l e R s m args below meth c n0 Q cells slots h (mkF m pc Ls (.int x2 :: .int x1 :: st)) := by
  subst hn hA hB
  rcases ich_ge (x1 := x1) (x2 := x2) with ⟨q, r⟩ | ⟨q, r⟩
  · exact Go.via (fun T locs X _ t q => XS.icmpYes X.here C.x rfl rfl (hb C.by hd) rfl r ho hp q) (kt q)
  · exact Go.via (fun T locs X _ t q => XS.icmpNo X.here C.x rfl (hb C.by hd) rfl r q) (kf q)
theorem G.if_ge (C : Cx p s m meth c Z y bytes maxL ret) {x1 : Int32} {o : Int} {A : Int} (hA : x1.toInt = A) (hd : decode bytes pc = .ok (.ifCond .ge o, 3)) (ho : 0 ≤ (pc : Int) + o) (hp : ((pc : Int) + o).toNat = n') (hn : pc + 3 = n) (kt : 0 ≤ A → Go p l e R s m args below meth c n0 Q cells slots h (mkF m n' Ls (st))) (kf : A < 0 → Go p l e R s m args below meth c n0 Q cells slots h (mkF m n Ls (st))) : Go p l e R s m args below meth c n0 Q cells slots h (mkF m pc Ls (.int x1 :: st)) := by
  subst hn hA
  rcases ich_ge (x1 := x1) (x2 := 0) with ⟨q, r⟩ | ⟨q, r⟩
  · exact Go.via (fun T locs X _ t q => XS.ifYes X.here C.x rfl rfl (hb C.by hd) rfl ((if0 _ _).trans r) ho hp q) (kt q)
  · exact Go.via (fun T locs X _ t q => XS.ifNo X.here C.x rfl (hb C.by hd) rfl ((if0 _ _).trans r) q) (kf q)
theorem lch_ge (x1 x2 : Int64) : (0 ≤ (lcmpW x1 x2).toInt → x2.toInt ≤ x1.toInt) ∧ ((lcmpW x1 x2).toInt < 0 → x1.toInt < x2.toInt) := by
  have q := c_lcmp x1 x2
  have z : ∀ x : Int32, x = 0 ↔ x.toInt = 0 := fun x => ⟨fun q => by rw [q]; rfl, fun q => Int32.toInt_inj.mp q⟩
  have w : x1 = x2 ↔ x1.toInt = x2.toInt := Int64.toInt_inj.symm
  
  constructor <;> intro r <;> omega
theorem G.lcmp_ge (C : Cx p s m meth c Z y bytes maxL ret) {x1 x2 : Int64} {o : Int} {A B : Int} (hA : x1.toInt = A) (hB : x2.toInt = B) (hc : decode bytes pc = .ok (.lcmp, 1)) (hd : decode bytes (pc + 1) = .ok (.ifCond .ge o, 3)) (ho : 0 ≤ ((pc + 1 : Nat) : Int) + o) (hp : (((pc + 1 : Nat) : Int) + o).toNat = n') (hn : pc + 4 = n) (kt : B ≤ A → Go p l e R s m args below meth c n0 Q cells slots h (mkF m n' Ls (st))) (kf : A < B → Go p l e R s m args below meth c n0 Q cells slots h (mkF m n Ls (st))) : Go p l e R s m args below meth c n0 Q cells slots h (mkF m pc Ls (.long x2 :: .long x1 :: st)) := by
  subst hn hA hB
  refine Go.via (fun T locs X _ t q => XS.lcmp X.here C.x rfl (hb C.by hc) rfl q) ?_
  exact G.if_ge C (A := (lcmpW x1 x2).toInt) rfl (pc := pc + 1) hd ho hp (n := pc + 4) rfl (fun q => kt ((lch_ge x1 x2).1 q)) (fun q => kf ((lch_ge x1 x2).2 q))
theorem ich_gt {x1 x2 : Int32} : (x2.toInt < x1.toInt ∧ if_icmp.holds .gt x1 x2 = true) ∨ (x1.toInt ≤ x2.toInt ∧ if_icmp.holds .gt x1 x2 = false) := by
  by_cases q : x2.toInt < x1.toInt
  · exact Or.inl ⟨q, by simp [if_icmp.holds, lt_i, le_i, Int32.lt_iff_toInt_lt, Int32.le_iff_toInt_le, q]⟩
  · exact Or.inr ⟨by omega, by first | (simp [if_icmp.holds, lt_i, le_i, Int32.lt_iff_toInt_lt, Int32.le_iff_toInt_le, q]; done) | (simp [if_icmp.holds, lt_i, le_i, Int32.lt_iff_toInt_lt, Int32.le_iff_toInt_le]; omega)⟩
theorem G.icmp_gt (C : Cx p s m meth c Z y bytes maxL ret) {x1 x2 : Int32} {o : Int} {A B : Int} (hA : x1.toInt = A) (hB : x2.toInt = B) (hd : decode bytes pc = .ok (.if_icmp .gt o, 3)) (ho : 0 ≤ (pc : Int) + o) (hp : ((pc : Int) + o).toNat = n') (hn : pc + 3 = n) (kt : B < A → Go p l e R s m args below meth c n0 Q cells slots h (mkF m n' Ls (st))) (kf : A ≤ B → Go p l e R s m args below meth c n0 Q cells slots h (mkF m n Ls (st))) : Go p l e R s m args below meth c n0 Q cells slots h (mkF m pc Ls (.int x2 :: .int x1 :: st)) := by
  subst hn hA hB
  rcases ich_gt (x1 := x1) (x2 := x2) with ⟨q, r⟩ | ⟨q, r⟩
  · exact Go.via (fun T locs X _ t q => XS.icmpYes X.here C.x rfl rfl (hb C.by hd) rfl r ho hp q) (kt q)
  · exact Go.via (fun T locs X _ t q => XS.icmpNo X.here C.x rfl (hb C.by hd) rfl r q) (kf q)
theorem G.if_gt (C : Cx p s m meth c Z y bytes maxL ret) {x1 : Int32} {o : Int} {A : Int} (hA : x1.toInt = A) (hd : decode bytes pc = .ok (.ifCond .gt o, 3)) (ho : 0 ≤ (pc : Int) + o) (hp : ((pc : Int) + o).toNat = n') (hn : pc + 3 = n) (kt : 0 < A → Go p l e R s m args below meth c n0 Q cells slots h (mkF m n' Ls (st))) (kf : A ≤ 0 → Go p l e R s m args below meth c n0 Q cells slots h (mkF m n Ls (st))) : Go p l e R s m args below meth c n0 Q cells slots h (mkF m pc Ls (.int x1 :: st)) := by
  subst hn hA
  rcases ich_gt (x1 := x1) (x2 := 0) with ⟨q, r⟩ | ⟨q, r⟩
  · exact Go.via (fun T locs X _ t q => XS.ifYes X.here C.x rfl rfl (hb C.by hd) rfl ((if0 _ _).trans r) ho hp q) (kt q)
  · exact Go.via (fun T locs X _ t q => XS.ifNo X.here C.x rfl (hb C.by hd) rfl ((if0 _ _).trans r) q) (kf q)
theorem lch_gt (x1 x2 : Int64) : (0 < (lcmpW x1 x2).toInt → x2.toInt < x1.toInt) ∧ ((lcmpW x1 x2).toInt ≤ 0 → x1.toInt ≤ x2.toInt) := by
  have q := c_lcmp x1 x2
  have z : ∀ x : Int32, x = 0 ↔ x.toInt = 0 := fun x => ⟨fun q => by rw [q]; rfl, fun q => Int32.toInt_inj.mp q⟩
  have w : x1 = x2 ↔ x1.toInt = x2.toInt := Int64.toInt_inj.symm
  
  constructor <;> intro r <;> omega
theorem G.lcmp_gt (C : Cx p s m meth c Z y bytes maxL ret) {x1 x2 : Int64} {o : Int} {A B : Int} (hA : x1.toInt = A) (hB : x2.toInt = B) (hc : decode bytes pc = .ok (.lcmp, 1)) (hd : decode bytes (pc + 1) = .ok (.ifCond .gt o, 3)) (ho : 0 ≤ ((pc + 1 : Nat) : Int) + o) (hp : (((pc + 1 : Nat) : Int) + o).toNat = n') (hn : pc + 4 = n) (kt : B < A → Go p l e R s m args below meth c n0 Q cells slots h (mkF m n' Ls (st))) (kf : A ≤ B → Go p l e R s m args below meth c n0 Q cells slots h (mkF m n Ls (st))) : Go p l e R s m args below meth c n0 Q cells slots h (mkF m pc Ls (.long x2 :: .long x1 :: st)) := by
  subst hn hA hB
  refine Go.via (fun T locs X _ t q => XS.lcmp X.here C.x rfl (hb C.by hc) rfl q) ?_
  exact G.if_gt C (A := (lcmpW x1 x2).toInt) rfl (pc := pc + 1) hd ho hp (n := pc + 4) rfl (fun q => kt ((lch_gt x1 x2).1 q)) (fun q => kf ((lch_gt x1 x2).2 q))
theorem ich_le {x1 x2 : Int32} : (x1.toInt ≤ x2.toInt ∧ if_icmp.holds .le x1 x2 = true) ∨ (x2.toInt < x1.toInt ∧ if_icmp.holds .le x1 x2 = false) := by
  by_cases q : x1.toInt ≤ x2.toInt
  · exact Or.inl ⟨q, by simp [if_icmp.holds, lt_i, le_i, Int32.lt_iff_toInt_lt, Int32.le_iff_toInt_le, q]⟩
  · exact Or.inr ⟨by omega, by first | (simp [if_icmp.holds, lt_i, le_i, Int32.lt_iff_toInt_lt, Int32.le_iff_toInt_le, q]; done) | (simp [if_icmp.holds, lt_i, le_i, Int32.lt_iff_toInt_lt, Int32.le_iff_toInt_le]; omega)⟩
theorem G.icmp_le (C : Cx p s m meth c Z y bytes maxL ret) {x1 x2 : Int32} {o : Int} {A B : Int} (hA : x1.toInt = A) (hB : x2.toInt = B) (hd : decode bytes pc = .ok (.if_icmp .le o, 3)) (ho : 0 ≤ (pc : Int) + o) (hp : ((pc : Int) + o).toNat = n') (hn : pc + 3 = n) (kt : A ≤ B → Go p l e R s m args below meth c n0 Q cells slots h (mkF m n' Ls (st))) (kf : B < A → Go p l e R s m args below meth c n0 Q cells slots h (mkF m n Ls (st))) : Go p l e R s m args below meth c n0 Q cells slots h (mkF m pc Ls (.int x2 :: .int x1 :: st)) := by
  subst hn hA hB
  rcases ich_le (x1 := x1) (x2 := x2) with ⟨q, r⟩ | ⟨q, r⟩
  · exact Go.via (fun T locs X _ t q => XS.icmpYes X.here C.x rfl rfl (hb C.by hd) rfl r ho hp q) (kt q)
  · exact Go.via (fun T locs X _ t q => XS.icmpNo X.here C.x rfl (hb C.by hd) rfl r q) (kf q)
theorem G.if_le (C : Cx p s m meth c Z y bytes maxL ret) {x1 : Int32} {o : Int} {A : Int} (hA : x1.toInt = A) (hd : decode bytes pc = .ok (.ifCond .le o, 3)) (ho : 0 ≤ (pc : Int) + o) (hp : ((pc : Int) + o).toNat = n') (hn : pc + 3 = n) (kt : A ≤ 0 → Go p l e R s m args below meth c n0 Q cells slots h (mkF m n' Ls (st))) (kf : 0 < A → Go p l e R s m args below meth c n0 Q cells slots h (mkF m n Ls (st))) : Go p l e R s m args below meth c n0 Q cells slots h (mkF m pc Ls (.int x1 :: st)) := by
  subst hn hA
  rcases ich_le (x1 := x1) (x2 := 0) with ⟨q, r⟩ | ⟨q, r⟩
  · exact Go.via (fun T locs X _ t q => XS.ifYes X.here C.x rfl rfl (hb C.by hd) rfl ((if0 _ _).trans r) ho hp q) (kt q)
  · exact Go.via (fun T locs X _ t q => XS.ifNo X.here C.x rfl (hb C.by hd) rfl ((if0 _ _).trans r) q) (kf q)
theorem lch_le (x1 x2 : Int64) : ((lcmpW x1 x2).toInt ≤ 0 → x1.toInt ≤ x2.toInt) ∧ (0 < (lcmpW x1 x2).toInt → x2.toInt < x1.toInt) := by
  have q := c_lcmp x1 x2
  have z : ∀ x : Int32, x = 0 ↔ x.toInt = 0 := fun x => ⟨fun q => by rw [q]; rfl, fun q => Int32.toInt_inj.mp q⟩
  have w : x1 = x2 ↔ x1.toInt = x2.toInt := Int64.toInt_inj.symm
  
  constructor <;> intro r <;> omega
theorem G.lcmp_le (C : Cx p s m meth c Z y bytes maxL ret) {x1 x2 : Int64} {o : Int} {A B : Int} (hA : x1.toInt = A) (hB : x2.toInt = B) (hc : decode bytes pc = .ok (.lcmp, 1)) (hd : decode bytes (pc + 1) = .ok (.ifCond .le o, 3)) (ho : 0 ≤ ((pc + 1 : Nat) : Int) + o) (hp : (((pc + 1 : Nat) : Int) + o).toNat = n') (hn : pc + 4 = n) (kt : A ≤ B → Go p l e R s m args below meth c n0 Q cells slots h (mkF m n' Ls (st))) (kf : B < A → Go p l e R s m args below meth c n0 Q cells slots h (mkF m n Ls (st))) : Go p l e R s m args below meth c n0 Q cells slots h (mkF m pc Ls (.long x2 :: .long x1 :: st)) := by
  subst hn hA hB
  refine Go.via (fun T locs X _ t q => XS.lcmp X.here C.x rfl (hb C.by hc) rfl q) ?_
  exact G.if_le C (A := (lcmpW x1 x2).toInt) rfl (pc := pc + 1) hd ho hp (n := pc + 4) rfl (fun q => kt ((lch_le x1 x2).1 q)) (fun q => kf ((lch_le x1 x2).2 q))
theorem ich_eq {x1 x2 : Int32} : (x1 = x2 ∧ if_icmp.holds .eq x1 x2 = true) ∨ (x1 ≠ x2 ∧ if_icmp.holds .eq x1 x2 = false) := by
  by_cases q : x1 = x2 <;> simp [if_icmp.holds, q]
theorem G.icmp_eq (C : Cx p s m meth c Z y bytes maxL ret) {x1 x2 : Int32} {o : Int} {A B : Int} (hA : x1.toInt = A) (hB : x2.toInt = B) (hd : decode bytes pc = .ok (.if_icmp .eq o, 3)) (ho : 0 ≤ (pc : Int) + o) (hp : ((pc : Int) + o).toNat = n') (hn : pc + 3 = n) (kt : x1 = x2 → A = B → Go p l e R s m args below meth c n0 Q cells slots h (mkF m n' Ls (st))) (kf : x1 ≠ x2 → A ≠ B → Go p l e R s m args below meth c n0 Q cells slots h (mkF m n Ls (st))) : Go p l e R s m args below meth c n0 Q cells slots h (mkF m pc Ls (.int x2 :: .int x1 :: st)) := by
  subst hn hA hB
  rcases ich_eq (x1 := x1) (x2 := x2) with ⟨q, r⟩ | ⟨q, r⟩
  · exact Go.via (fun T locs X _ t q => XS.icmpYes X.here C.x rfl rfl (hb C.by hd) rfl r ho hp q) (kt q (congrArg _ q))
  · exact Go.via (fun T locs X _ t q => XS.icmpNo X.here C.x rfl (hb C.by hd) rfl r q) (kf q (fun r => q (Int32.toInt_inj.mp r)))
theorem G.if_eq (C : Cx p s m meth c Z y bytes maxL ret) {x1 : Int32} {o : Int} {A : Int} (hA : x1.toInt = A) (hd : decode bytes pc = .ok (.ifCond .eq o, 3)) (ho : 0 ≤ (pc : Int) + o) (hp : ((pc : Int) + o).toNat = n') (hn : pc + 3 = n) (kt : x1 = 0 → A = 0 → Go p l e R s m args below meth c n0 Q cells slots h (mkF m n' Ls (st))) (kf : x1 ≠ 0 → A ≠ 0 → Go p l e R s m args below meth c n0 Q cells slots h (mkF m n Ls (st))) : Go p l e R s m args below meth c n0 Q cells slots h (mkF m pc Ls (.int x1 :: st)) := by
  subst hn hA
  rcases ich_eq (x1 := x1) (x2 := 0) with ⟨q, r⟩ | ⟨q, r⟩
  · exact Go.via (fun T locs X _ t q => XS.ifYes X.here C.x rfl rfl (hb C.by hd) rfl ((if0 _ _).trans r) ho hp q) (kt q (congrArg Int32.toInt q))
  · exact Go.via (fun T locs X _ t q => XS.ifNo X.here C.x rfl (hb C.by hd) rfl ((if0 _ _).trans r) q) (kf q (fun r => q (Int32.toInt_inj.mp r)))
theorem lch_eq (x1 x2 : Int64) : ((lcmpW x1 x2) = 0 → x1 = x2) ∧ ((lcmpW x1 x2) ≠ 0 → x1 ≠ x2) := by
  have q := c_lcmp x1 x2
  have z : ∀ x : Int32, x = 0 ↔ x.toInt = 0 := fun x => ⟨fun q => by rw [q]; rfl, fun q => Int32.toInt_inj.mp q⟩
  have w : x1 = x2 ↔ x1.toInt = x2.toInt := Int64.toInt_inj.symm
  simp only [ne_eq, z, w]
  constructor <;> intro r <;> omega
theorem G.lcmp_eq (C : Cx p s m meth c Z y bytes maxL ret) {x1 x2 : Int64} {o : Int} {A B : Int} (hA : x1.toInt = A) (hB : x2.toInt = B) (hc : decode bytes pc = .ok (.lcmp, 1)) (hd : decode bytes (pc + 1) = .ok (.ifCond .eq o, 3)) (ho : 0 ≤ ((pc + 1 : Nat) : Int) + o) (hp : (((pc + 1 : Nat) : Int) + o).toNat = n') (hn : pc + 4 = n) (kt : x1 = x2 → A = B → Go p l e R s m args below meth c n0 Q cells slots h (mkF m n' Ls (st))) (kf : x1 ≠ x2 → A ≠ B → Go p l e R s m args below meth c n0 Q cells slots h (mkF m n Ls (st))) : Go p l e R s m args below meth c n0 Q cells slots h (mkF m pc Ls (.long x2 :: .long x1 :: st)) := by
  subst hn hA hB
  refine Go.via (fun T locs X _ t q => XS.lcmp X.here C.x rfl (hb C.by hc) rfl q) ?_
  exact G.if_eq C (A := (lcmpW x1 x2).toInt) rfl (pc := pc + 1) hd ho hp (n := pc + 4) rfl (fun q _ => kt ((lch_eq x1 x2).1 q) (congrArg _ ((lch_eq x1 x2).1 q))) (fun q _ => kf ((lch_eq x1 x2).2 q) (fun r => (lch_eq x1 x2).2 q (Int64.toInt_inj.mp r)))
theorem ich_ne {x1 x2 : Int32} : (x1 ≠ x2 ∧ if_icmp.holds .ne x1 x2 = true) ∨ (x1 = x2 ∧ if_icmp.holds .ne x1 x2 = false) := by
  by_cases q : x1 = x2 <;> simp [if_icmp.holds, q]
theorem G.icmp_ne (C : Cx p s m meth c Z y bytes maxL ret) {x1 x2 : Int32} {o : Int} {A B : Int} (hA : x1.toInt = A) (hB : x2.toInt = B) (hd : decode bytes pc = .ok (.if_icmp .ne o, 3)) (ho : 0 ≤ (pc : Int) + o) (hp : ((pc : Int) + o).toNat = n') (hn : pc + 3 = n) (kt : x1 ≠ x2 → A ≠ B → Go p l e R s m args below meth c n0 Q cells slots h (mkF m n' Ls (st))) (kf : x1 = x2 → A = B → Go p l e R s m args below meth c n0 Q cells slots h (mkF m n Ls (st))) : Go p l e R s m args below meth c n0 Q cells slots h (mkF m pc Ls (.int x2 :: .int x1 :: st)) := by
  subst hn hA hB
  rcases ich_ne (x1 := x1) (x2 := x2) with ⟨q, r⟩ | ⟨q, r⟩
  · exact Go.via (fun T locs X _ t q => XS.icmpYes X.here C.x rfl rfl (hb C.by hd) rfl r ho hp q) (kt q (fun r => q (Int32.toInt_inj.mp r)))
  · exact Go.via (fun T locs X _ t q => XS.icmpNo X.here C.x rfl (hb C.by hd) rfl r q) (kf q (congrArg _ q))
theorem G.if_ne (C : Cx p s m meth c Z y bytes maxL ret) {x1 : Int32} {o : Int} {A : Int} (hA : x1.toInt = A) (hd : decode bytes pc = .ok (.ifCond .ne o, 3)) (ho : 0 ≤ (pc : Int) + o) (hp : ((pc : Int) + o).toNat = n') (hn : pc + 3 = n) (kt : x1 ≠ 0 → A ≠ 0 → Go p l e R s m args below meth c n0 Q cells slots h (mkF m n' Ls (st))) (kf : x1 = 0 → A = 0 → Go p l e R s m args below meth c n0 Q cells slots h (mkF m n Ls (st))) : Go p l e R s m args below meth c n0 Q cells slots h (mkF m pc Ls (.int x1 :: st)) := by
  subst hn hA
  rcases ich_ne (x1 := x1) (x2 := 0) with ⟨q, r⟩ | ⟨q, r⟩
  · exact Go.via (fun T locs X _ t q => XS.ifYes X.here C.x rfl rfl (hb C.by hd) rfl ((if0 _ _).trans r) ho hp q) (kt q (fun r => q (Int32.toInt_inj.mp r)))
  · exact Go.via (fun T locs X _ t q => XS.ifNo X.here C.x rfl (hb C.by hd) rfl ((if0 _ _).trans r) q) (kf q (congrArg Int32.toInt q))
theorem lch_ne (x1 x2 : Int64) : ((lcmpW x1 x2) ≠ 0 → x1 ≠ x2) ∧ ((lcmpW x1 x2) = 0 → x1 = x2) := by
  have q := c_lcmp x1 x2
  have z : ∀ x : Int32, x = 0 ↔ x.toInt = 0 := fun x => ⟨fun q => by rw [q]; rfl, fun q => Int32.toInt_inj.mp q⟩
  have w : x1 = x2 ↔ x1.toInt = x2.toInt := Int64.toInt_inj.symm
  simp only [ne_eq, z, w]
  constructor <;> intro r <;> omega
theorem G.lcmp_ne (C : Cx p s m meth c Z y bytes maxL ret) {x1 x2 : Int64} {o : Int} {A B : Int} (hA : x1.toInt = A) (hB : x2.toInt = B) (hc : decode bytes pc = .ok (.lcmp, 1)) (hd : decode bytes (pc + 1) = .ok (.ifCond .ne o, 3)) (ho : 0 ≤ ((pc + 1 : Nat) : Int) + o) (hp : (((pc + 1 : Nat) : Int) + o).toNat = n') (hn : pc + 4 = n) (kt : x1 ≠ x2 → A ≠ B → Go p l e R s m args below meth c n0 Q cells slots h (mkF m n' Ls (st))) (kf : x1 = x2 → A = B → Go p l e R s m args below meth c n0 Q cells slots h (mkF m n Ls (st))) : Go p l e R s m args below meth c n0 Q cells slots h (mkF m pc Ls (.long x2 :: .long x1 :: st)) := by
  subst hn hA hB
  refine Go.via (fun T locs X _ t q => XS.lcmp X.here C.x rfl (hb C.by hc) rfl q) ?_
  exact G.if_ne C (A := (lcmpW x1 x2).toInt) rfl (pc := pc + 1) hd ho hp (n := pc + 4) rfl (fun q _ => kt ((lch_ne x1 x2).1 q) (fun r => (lch_ne x1 x2).1 q (Int64.toInt_inj.mp r))) (fun q _ => kf ((lch_ne x1 x2).2 q) (congrArg _ ((lch_ne x1 x2).2 q)))
theorem G.ifnullN (C : Cx p s m meth c Z y bytes maxL ret) {b : Addr} {o : Int} (hd : decode bytes pc = .ok (.ifnull o, 3)) (hn : pc + 3 = n) (k : Go p l e R s m args below meth c n0 Q cells slots h (mkF m n Ls (st))) : Go p l e R s m args below meth c n0 Q cells slots h (mkF m pc Ls (.ref b :: st)) := by
  subst hn
  exact Go.via (fun T locs X _ t q => XS.ifnullNo X.here C.x rfl (hb C.by hd) rfl q) k
theorem G.ifnullY (C : Cx p s m meth c Z y bytes maxL ret) {o : Int} (hd : decode bytes pc = .ok (.ifnull o, 3)) (ho : 0 ≤ (pc : Int) + o) (hp : ((pc : Int) + o).toNat = n) (k : Go p l e R s m args below meth c n0 Q cells slots h (mkF m n Ls (st))) : Go p l e R s m args below meth c n0 Q cells slots h (mkF m pc Ls (.null :: st)) :=
  Go.via (fun T locs X _ t q => XS.ifnullYes X.here C.x rfl rfl (hb C.by hd) rfl ho hp q) k
theorem G.ifnonnullY (C : Cx p s m meth c Z y bytes maxL ret) {b : Addr} {o : Int} (hd : decode bytes pc = .ok (.ifnonnull o, 3)) (ho : 0 ≤ (pc : Int) + o) (hp : ((pc : Int) + o).toNat = n) (k : Go p l e R s m args below meth c n0 Q cells slots h (mkF m n Ls (st))) : Go p l e R s m args below meth c n0 Q cells slots h (mkF m pc Ls (.ref b :: st)) :=
  Go.via (fun T locs X _ t q => XS.ifnonnullYes X.here C.x rfl rfl (hb C.by hd) rfl ho hp q) k
theorem G.ifnonnullN (C : Cx p s m meth c Z y bytes maxL ret) {o : Int} (hd : decode bytes pc = .ok (.ifnonnull o, 3)) (hn : pc + 3 = n) (k : Go p l e R s m args below meth c n0 Q cells slots h (mkF m n Ls (st))) : Go p l e R s m args below meth c n0 Q cells slots h (mkF m pc Ls (.null :: st)) := by
  subst hn
  exact Go.via (fun T locs X _ t q => XS.ifnonnullNo X.here C.x rfl (hb C.by hd) rfl q) k
theorem G.acmp_eq (C : Cx p s m meth c Z y bytes maxL ret) {x1 x2 : Value} {o : Int} (h1 : x1.isRef = true) (h2 : x2.isRef = true) (hd : decode bytes pc = .ok (.if_acmp .eq o, 3)) (ho : 0 ≤ (pc : Int) + o) (hp : ((pc : Int) + o).toNat = n') (hn : pc + 3 = n) (kt : x1 = x2 → Go p l e R s m args below meth c n0 Q cells slots h (mkF m n' Ls (st))) (kf : x1 ≠ x2 → Go p l e R s m args below meth c n0 Q cells slots h (mkF m n Ls (st))) : Go p l e R s m args below meth c n0 Q cells slots h (mkF m pc Ls (x2 :: x1 :: st)) := by
  subst hn
  by_cases r : x1 = x2
  · exact Go.via (fun T locs X _ t q => Jvm.RoadKit.acmp (g := mkF m pc Ls (x2 :: x1 :: st)) X C.x rfl h1 h2 (same := true) rfl (hb C.by hd) rfl (decide_eq_true r) ho (hp.symm) q) (kt r)
  · exact Go.via (fun T locs X _ t q => Jvm.RoadKit.acmp (g := mkF m pc Ls (x2 :: x1 :: st)) X C.x rfl h1 h2 (same := false) rfl (hb C.by hd) rfl (decide_eq_false r) ho (rfl) q) (kf r)
theorem G.acmp_ne (C : Cx p s m meth c Z y bytes maxL ret) {x1 x2 : Value} {o : Int} (h1 : x1.isRef = true) (h2 : x2.isRef = true) (hd : decode bytes pc = .ok (.if_acmp .ne o, 3)) (ho : 0 ≤ (pc : Int) + o) (hp : ((pc : Int) + o).toNat = n') (hn : pc + 3 = n) (kt : x1 ≠ x2 → Go p l e R s m args below meth c n0 Q cells slots h (mkF m n' Ls (st))) (kf : x1 = x2 → Go p l e R s m args below meth c n0 Q cells slots h (mkF m n Ls (st))) : Go p l e R s m args below meth c n0 Q cells slots h (mkF m pc Ls (x2 :: x1 :: st)) := by
  subst hn
  by_cases r : x1 = x2
  · exact Go.via (fun T locs X _ t q => Jvm.RoadKit.acmp (g := mkF m pc Ls (x2 :: x1 :: st)) X C.x rfl h1 h2 (same := true) rfl (hb C.by hd) rfl (decide_eq_true r) ho (rfl) q) (kf r)
  · exact Go.via (fun T locs X _ t q => Jvm.RoadKit.acmp (g := mkF m pc Ls (x2 :: x1 :: st)) X C.x rfl h1 h2 (same := false) rfl (hb C.by hd) rfl (decide_eq_false r) ho (hp.symm) q) (kt r)
theorem G.ldc (C : Cx p s m meth c Z y bytes maxL ret) {index : Nat} {v : Int32} (w : (Jvm.Cond.constant y.cls index v).before a0 Z = true) (hd : decode bytes pc = .ok (.ldc index, 2)) (hn : pc + 2 = n) (k : Go p l e R s m args below meth c n0 Q cells slots h (mkF m n Ls (.int v :: st))) : Go p l e R s m args below meth c n0 Q cells slots h (mkF m pc Ls (st)) := by
  subst hn
  exact Go.via (fun T locs X _ t q => X.ldcInt C.x C.own (mvT C.z w) (g := mkF m pc Ls st) rfl (hb C.by hd) t q) k
theorem G.ldc_w (C : Cx p s m meth c Z y bytes maxL ret) {index : Nat} {v : Int32} (w : (Jvm.Cond.constant y.cls index v).before a0 Z = true) (hd : decode bytes pc = .ok (.ldc_w index, 3)) (hn : pc + 3 = n) (k : Go p l e R s m args below meth c n0 Q cells slots h (mkF m n Ls (.int v :: st))) : Go p l e R s m args below meth c n0 Q cells slots h (mkF m pc Ls (st)) := by
  subst hn
  exact Go.via (fun T locs X _ t q => X.ldcwInt C.x C.own (mvT C.z w) (g := mkF m pc Ls st) rfl (hb C.by hd) t q) k
theorem G.ldc2 (C : Cx p s m meth c Z y bytes maxL ret) {index : Nat} {v : Int64} (w : (Jvm.Cond.constantLong y.cls index v).before a0 Z = true) (hd : decode bytes pc = .ok (.ldc2_w index, 3)) (hn : pc + 3 = n) (k : Go p l e R s m args below meth c n0 Q cells slots h (mkF m n Ls (.long v :: st))) : Go p l e R s m args below meth c n0 Q cells slots h (mkF m pc Ls (st)) := by
  subst hn
  exact Go.via (fun T locs X _ t q => X.ldc2Long C.x C.own (mvT C.z w) (g := mkF m pc Ls st) rfl (hb C.by hd) t q) k
theorem Go.leave (C : Cx p s m meth c Z y bytes maxL ret) {v : Option Value} {f : JFrame} (hv : ret = none → v = none) (hc : cells ≤ R.cells) (hs : slots ≤ R.slots)
    (hret : ∀ T locs, Stand p l e R s m args below meth c T locs cells slots → ∀ fs, (∀ (f : JFrame) (acts : List Action), f.method = m → f.locked = none → f.entered = [] → (doReturn e (T.setTop f) acts v).1 = T.setFrames fs) → Steps p.tables e below (T.setTop f) (T.setFrames fs))
    (q : Q v h) : Go p l e R s m args below meth c n0 Q cells slots h f := fun T locs X N e0 => by
  obtain ⟨fs, hr, hrun, hended, hW, hsame⟩ := X.leave (v := v) (fun q => hv (C.rt.symm.trans q)) C.locks
  refine ⟨_, _, hret T locs X fs hr, hrun, hended, v, locs, rfl, ⟨N, ?_⟩, ⟨_, rfl⟩, hW, hsame.mono hc hs⟩
  show Q v T.heap
  rw [e0]; exact q
theorem G.return_ (C : Cx p s m meth c Z y bytes maxL none) (hd : decode bytes pc = .ok (.return_, 1)) (hc : cells ≤ R.cells) (hs : slots ≤ R.slots) (q : Q none h) : Go p l e R s m args below meth c n0 Q cells slots h (mkF m pc Ls ([])) :=
  Go.leave C (v := none) (fun _ => rfl) hc hs (fun T locs X fs hr => X.returnOut C.x C.rt (hb C.by hd) hr) q
theorem G.ireturn {t : FieldType} (C : Cx p s m meth c Z y bytes maxL (some t)) {x : Int32} (hd : decode bytes pc = .ok (.ireturn, 1)) (hnn : narrow t (.int x) = .int x) (ht : t = .int ∨ t = .boolean ∨ t = .byte ∨ t = .char ∨ t = .short) (hc : cells ≤ R.cells) (hs : slots ≤ R.slots) (q : Q (some (.int x)) h) : Go p l e R s m args below meth c n0 Q cells slots h (mkF m pc Ls (.int x :: st)) :=
  Go.leave C (v := some (.int x)) (fun q => nomatch q) hc hs (fun T locs X fs hr => retOut X C.x C.rt hnn (Or.inl ⟨rfl, ht, _, rfl⟩) (hb C.by hd) hr) q
theorem G.lreturn (C : Cx p s m meth c Z y bytes maxL (some .long)) {x : Int64} (hd : decode bytes pc = .ok (.lreturn, 1)) (hc : cells ≤ R.cells) (hs : slots ≤ R.slots) (q : Q (some (.long x)) h) : Go p l e R s m args below meth c n0 Q cells slots h (mkF m pc Ls (.long x :: st)) :=
  Go.leave C (v := some (.long x)) (fun q => nomatch q) hc hs (fun T locs X fs hr => retOut X C.x C.rt rfl (Or.inr (Or.inl ⟨rfl, rfl, _, rfl⟩)) (hb C.by hd) hr) q
theorem G.areturn {t : FieldType} (C : Cx p s m meth c Z y bytes maxL (some t)) {x : Value} (hd : decode bytes pc = .ok (.areturn, 1)) (ht : t.isReference = true) (hx : x.isRef = true) (hnn : narrow t x = x) (hc : cells ≤ R.cells) (hs : slots ≤ R.slots) (q : Q (some x) h) : Go p l e R s m args below meth c n0 Q cells slots h (mkF m pc Ls (x :: st)) :=
  Go.leave C (v := some x) (fun q => nomatch q) hc hs (fun T locs X fs hr => retOut X C.x C.rt hnn (Or.inr (Or.inr (Or.inr (Or.inr ⟨rfl, ht, hx⟩)))) (hb C.by hd) hr) q
theorem G.getfield (C : Cx p s m meth c Z y bytes maxL ret) {R0 O nm d host : String} {index : Nat} (w : (Jvm.Cond.fieldLink y.cls index R0 nm d).before a0 Z = true ∨ (Jvm.Cond.fieldLinkNest y.cls index R0 nm d host).before a0 Z = true) (via : Via Z R0 O nm d) {a : Addr} {v : Value} (F : Fld Z h a O nm d v) (hd : decode bytes pc = .ok (.getfield index, 3)) (hn : pc + 3 = n) (k : Go p l e R s m args below meth c n0 Q cells slots h (mkF m n Ls (v :: st))) : Go p l e R s m args below meth c n0 Q cells slots h (mkF m pc Ls (.ref a :: st)) := fun T locs X N q => by
  subst hn
  obtain ⟨T', X', e', st'⟩ := getF X C.x C.z C.own w via q F (g := mkF m pc Ls (.ref a :: st)) rfl rfl (hb C.by hd)
  obtain ⟨t, o, s1, r⟩ := k T' locs X' N e'
  exact ⟨t, o, st' t s1, r⟩
theorem G.getstatic (C : Cx p s m meth c Z y bytes maxL ret) {R0 O nm d host : String} {index : Nat} (w : (Jvm.Cond.fieldLink y.cls index R0 nm d).before a0 Z = true ∨ (Jvm.Cond.fieldLinkNest y.cls index R0 nm d host).before a0 Z = true) (via : Via Z R0 O nm d) {v : Value} (F : Sta Z h O nm d v) (hd : decode bytes pc = .ok (.getstatic index, 3)) (hn : pc + 3 = n) (k : Go p l e R s m args below meth c n0 Q cells slots h (mkF m n Ls (v :: st))) : Go p l e R s m args below meth c n0 Q cells slots h (mkF m pc Ls (st)) := fun T locs X N q => by
  subst hn
  obtain ⟨T', X', e', st'⟩ := getS2 X C.x C.z C.own w via q F (g := mkF m pc Ls st) rfl (hb C.by hd)
  obtain ⟨t, o, s1, r⟩ := k T' locs X' N e'
  exact ⟨t, o, st' t s1, r⟩
theorem G.putfield (C : Cx p s m meth c Z y bytes maxL ret) {R0 O nm d host K : String} {index kk : Nat} {ty : FieldType} (w : (Jvm.Cond.fieldLink y.cls index R0 nm d).before a0 Z = true ∨ (Jvm.Cond.fieldLinkNest y.cls index R0 nm d host).before a0 Z = true) (via : Via Z R0 O nm d) {a : Addr} {v old : Value} (F : Fld Z h a O nm d old) (E : Exa Z h a K)
    (L : (Jvm.Cond.lays K O nm d).before a0 Z = true ∨ ((Jvm.Cond.laysFinal K O nm d).before a0 Z = true ∧ y.cls = O ∧ y.name = "<init>")) (wi : (Jvm.Cond.instantiable K kk).before a0 Z = true) (hty : parseFieldDescriptor d = some ty) (hnn : narrow ty v = v) (hf : fits ty v = true) (g : n0 ≤ a)
    (hd : decode bytes pc = .ok (.putfield index, 3)) (hn : pc + 3 = n) (k : ∀ h', Wr h h' a (RoadKit.slotOf Z O nm d) v → Go p l e R s m args below meth c n0 Q cells slots h' (mkF m n Ls (st))) : Go p l e R s m args below meth c n0 Q cells slots h (mkF m pc Ls (v :: .ref a :: st)) := fun T locs X N q => by
  subst hn
  obtain ⟨T', h', X', e', W, st'⟩ := putF X C.x C.z C.own w via q F E (L.imp id fun r => ⟨r.1, r.2.1, C.nm.trans r.2.2⟩) wi hty hnn hf (g := mkF m pc Ls (v :: .ref a :: st)) rfl rfl (hb C.by hd)
  obtain ⟨t, o, s1, r⟩ := k h' W T' _ X' (Fr.snoc X' N g) e'
  exact ⟨t, o, st' t s1, r⟩
theorem G.putfieldN (C : Cx p s m meth c Z y bytes maxL ret) {R0 O nm d K : String} {index kk : Nat} {ty : FieldType} (w : (Jvm.Cond.fieldLink y.cls index R0 nm d).before a0 Z = true) (via : Via Z R0 O nm d) {a : Addr} {v v' old : Value} (F : Fld Z h a O nm d old) (E : Exa Z h a K)
    (L : (Jvm.Cond.lays K O nm d).before a0 Z = true ∨ ((Jvm.Cond.laysFinal K O nm d).before a0 Z = true ∧ y.cls = O ∧ y.name = "<init>")) (wi : (Jvm.Cond.instantiable K kk).before a0 Z = true) (hty : parseFieldDescriptor d = some ty) (hnn : narrow ty v = v') (hf : fits ty v' = true) (g : n0 ≤ a)
    (hd : decode bytes pc = .ok (.putfield index, 3)) (hn : pc + 3 = n) (k : ∀ h', Wr h h' a (RoadKit.slotOf Z O nm d) v' → Go p l e R s m args below meth c n0 Q cells slots h' (mkF m n Ls (st))) : Go p l e R s m args below meth c n0 Q cells slots h (mkF m pc Ls (v :: .ref a :: st)) := fun T locs X N q => by
  subst hn
  obtain ⟨T', h', X', e', W, st'⟩ := putFN X C.x C.z C.own w via q F E (L.imp id fun r => ⟨r.1, r.2.1, C.nm.trans r.2.2⟩) wi hty hnn hf (g := mkF m pc Ls (v :: .ref a :: st)) rfl rfl (hb C.by hd)
  obtain ⟨t, o, s1, r⟩ := k h' W T' _ X' (Fr.snoc X' N g) e'
  exact ⟨t, o, st' t s1, r⟩
theorem G.new (C : Cx p s m meth c Z y bytes maxL ret) {K : String} {index ns c' s' : Nat} (w : (Jvm.Cond.classLink y.cls index K).before a0 Z = true) (wi : (Jvm.Cond.instantiable K ns).before a0 Z = true) (wz : (Jvm.Cond.initialized K).before a0 Z = true) (hd : decode bytes pc = .ok (.new index, 3)) (hn : pc + 3 = n) (hc' : cells + 1 = c') (hs' : slots + ns = s') (hc : c' ≤ R.cells) (hs : s' ≤ R.slots)
    (k : ∀ h' b, b = h.size → Ext h h' → Exa Z h' b K → (∀ {O nm d : String} {ty : FieldType}, Laid Z a0 K O nm d → parseFieldDescriptor d = some ty → Fld Z h' b O nm d (defaultValue ty)) → Go p l e R s m args below meth c n0 Q c' s' h' (mkF m n Ls (.ref b :: st))) : Go p l e R s m args below meth c n0 Q cells slots h (mkF m pc Ls (st)) := fun T locs X N q => by
  subst hn hc' hs'
  obtain ⟨T', h', X', e', E, A, D, -, st'⟩ := newO X C.x C.z C.own w wi wz q (g := mkF m pc Ls st) rfl (hb C.by hd) hc hs
  obtain ⟨t, o, s1, r⟩ := k h' _ rfl E A D T' _ X' N e'
  exact ⟨t, o, st' t s1, r⟩
theorem G.objinit (C : Cx p s m meth c Z y bytes maxL ret) {index W : Nat} (w1 : (Jvm.Cond.methodLink y.cls index Lib.objectInit).before a0 Z = true) (w2 : (Jvm.Cond.instanceMethod Lib.objectInit).before a0 Z = true) (w3 : (Jvm.Cond.code Lib.objectInit ⟨#[0xb1]⟩ 1 none).before a0 Z = true) {a : Addr} (hd : decode bytes pc = .ok (.invokespecial index, 3)) (hsz : Ls.size = maxL) (hf : 1 ≤ R.frames) (hW : (st.map fun v => v.category).sum = W) (hl : W + 12 ≤ R.locals) (hn : pc + 3 = n) (k : Go p l e R s m args below meth c n0 Q cells slots h (mkF m n Ls (st))) : Go p l e R s m args below meth c n0 Q cells slots h (mkF m pc Ls (.ref a :: st)) := fun T locs X N q => by
  subst hn hW
  obtain ⟨T', X', e', st'⟩ := initO X C.x C.z C.own w1 w2 w3 q (g := mkF m pc Ls (.ref a :: st)) rfl (hsz.trans C.ml.symm) rfl (hb C.by hd) hf (W := (st.map fun v => v.category).sum) (by show 2 * 0 + _ ≤ _; omega) hl
  obtain ⟨t, o, s1, r⟩ := k T' locs X' N e'
  exact ⟨t, o, st' t s1, r⟩
theorem G.callS (C : Cx p s m meth c Z y bytes maxL ret) {index W : Nat} {yc : MethodName} {bc : ByteArray} {mc : Nat} {rc : Option FieldType} {rm : Room} {c' s' : Nat} {Qc : Option Value → Heap → Prop} {ps : List FieldType} {argsL stk : List Value} (w1 : (Jvm.Cond.methodLink y.cls index yc).before a0 Z = true) (w2 : (Jvm.Cond.static yc).before a0 Z = true) (w3 : (Jvm.Cond.initialized yc.cls).before a0 Z = true) (w4 : (Jvm.Cond.code yc bc mc rc).before a0 Z = true) (hy : yc.cls ≠ "java/lang/invoke/MethodHandle" ∧ yc.cls ≠ "java/lang/invoke/VarHandle") (M : Met l Z yc bc mc rc rm argsL.toArray h n0 Qc) (hsz : Ls.size = maxL) (hf : rm.frames + 1 ≤ R.frames) (hW : (st.map fun v => v.category).sum = W) (hl : W + (mc + 11) + rm.locals ≤ R.locals) (hc' : cells + rm.cells = c') (hs' : slots + rm.slots = s') (hc : c' ≤ R.cells) (hs : s' ≤ R.slots) (hd : decode bytes pc = .ok (.invokestatic index, 3)) (hn : pc + 3 = n) (hlen : parseMethodDescriptor yc.desc = some ⟨ps, rc⟩) (hal : argsL.length = ps.length) (hst : stk = argsL.reverse ++ st) (k : ∀ v h', Qc v h' → Go p l e R s m args below meth c n0 Q c' s' h' (mkF m n Ls (v.toList ++ st))) : Go p l e R s m args below meth c n0 Q cells slots h (mkF m pc Ls (stk)) := fun T locs X N q => by
  subst hn hW hc' hs' hst
  obtain ⟨v, _, ⟨T', L', k', n''⟩, -, X', ⟨Lc, hQ, h1, h2, h3⟩, st'⟩ := Jvm.LawKit.callS X C.x (y := yc) C.own (mvT C.z w1) (mvT C.z w2) (mvT C.z w3) (mvT C.z w4) hy (backOf (W := (st.map fun v => v.category).sum) (Q := fun v h L => Fr n0 L ∧ Qc v h) (M []) C.z w4 w3 hf hl) (g := mkF m pc Ls (argsL.reverse ++ st)) rfl (hsz.trans C.ml.symm) (argsL := argsL) (rest := st) (lenOf hlen hal) rfl (by show 2 * 0 + _ ≤ _; omega) (hb C.by hd) (fun _ _ => ⟨rfl, q, hc, hs⟩)
  dsimp only [Pt.U, Pt.locs, Pt.cells, Pt.slots] at X' h1 h2 h3 st' hQ
  subst h1 h2 h3
  obtain ⟨t, o, s1, r⟩ := k v _ hQ.2 T' _ X' (Fr.app N hQ.1) rfl
  exact ⟨t, o, st' t s1, r⟩
theorem G.callC (C : Cx p s m meth c Z y bytes maxL ret) {index W : Nat} {yc : MethodName} {bc : ByteArray} {mc : Nat} {rm : Room} {c' s' : Nat} {Qc : Option Value → Heap → Prop} {ps : List FieldType} {argsL stk : List Value} {a : Addr} (hy1 : yc.name = "<init>") (w1 : (Jvm.Cond.methodLink y.cls index yc).before a0 Z = true) (w2 : (Jvm.Cond.instanceMethod yc).before a0 Z = true) (w3 : (Jvm.Cond.initialized yc.cls).before a0 Z = true) (w4 : (Jvm.Cond.code yc bc mc none).before a0 Z = true) (hy : yc.cls ≠ "java/lang/invoke/MethodHandle" ∧ yc.cls ≠ "java/lang/invoke/VarHandle") (M : Met l Z yc bc mc none rm (.ref a :: argsL).toArray h n0 Qc) (hsz : Ls.size = maxL) (hf : rm.frames + 1 ≤ R.frames) (hW : (st.map fun v => v.category).sum = W) (hl : W + (mc + 11) + rm.locals ≤ R.locals) (hc' : cells + rm.cells = c') (hs' : slots + rm.slots = s') (hc : c' ≤ R.cells) (hs : s' ≤ R.slots) (hd : decode bytes pc = .ok (.invokespecial index, 3)) (hn : pc + 3 = n) (hlen : parseMethodDescriptor yc.desc = some ⟨ps, none⟩) (hal : argsL.length = ps.length) (hst : stk = argsL.reverse ++ .ref a :: st) (k : ∀ v h', Qc v h' → Go p l e R s m args below meth c n0 Q c' s' h' (mkF m n Ls (v.toList ++ st))) : Go p l e R s m args below meth c n0 Q cells slots h (mkF m pc Ls (stk)) := fun T locs X N q => by
  subst hn hW hc' hs' hst
  obtain ⟨v, _, ⟨T', L', k', n''⟩, -, X', ⟨Lc, hQ, h1, h2, h3⟩, st'⟩ := X.specialBack C.x (y := yc) hy1 C.own (mvT C.z w1) (mvT C.z w2) (mvT C.z w4) hy (backOf (W := (st.map fun v => v.category).sum) (Q := fun v h L => Fr n0 L ∧ Qc v h) (M []) C.z w4 w3 hf hl) (g := mkF m pc Ls (argsL.reverse ++ .ref a :: st)) rfl (hsz.trans C.ml.symm) (Steps.refl _) (a := a) (argsL := argsL) (rest := st) (lenOf hlen hal) rfl (by show 2 * 0 + _ ≤ _; omega) (hb C.by hd) (fun _ _ => ⟨rfl, q, hc, hs⟩)
  dsimp only [Pt.U, Pt.locs, Pt.cells, Pt.slots] at X' h1 h2 h3 st' hQ
  subst h1 h2 h3
  obtain ⟨t, o, s1, r⟩ := k v _ hQ.2 T' _ X' (Fr.app N hQ.1) rfl
  exact ⟨t, o, st'.trans s1, r⟩
theorem G.callV (C : Cx p s m meth c Z y bytes maxL ret) {index W : Nat} {yc : MethodName} {bc : ByteArray} {mc : Nat} {rc : Option FieldType} {rm : Room} {c' s' : Nat} {Qc : Option Value → Heap → Prop} {ps : List FieldType} {K : String} {yr : MethodName} {argsL stk : List Value} {a : Addr} (E : Exa Z h a K) (w1 : (Jvm.Cond.methodLink y.cls index yr).before a0 Z = true) (w5 : (Jvm.Cond.declares yr).before a0 Z = true) (hnf : ∀ s : State, Z.Warmed39 s.vm → NotFace s yr) (w6 : (Jvm.Cond.selects K yr yc).before a0 Z = true) (w2 : (Jvm.Cond.instanceMethod yc).before a0 Z = true) (w3 : (Jvm.Cond.initialized yc.cls).before a0 Z = true) (w4 : (Jvm.Cond.code yc bc mc rc).before a0 Z = true) (hy : yr.cls ≠ "java/lang/invoke/MethodHandle" ∧ yr.cls ≠ "java/lang/invoke/VarHandle") (M : Met l Z yc bc mc rc rm (.ref a :: argsL).toArray h n0 Qc) (hsz : Ls.size = maxL) (hf : rm.frames + 1 ≤ R.frames) (hW : (st.map fun v => v.category).sum = W) (hl : W + (mc + 11) + rm.locals ≤ R.locals) (hc' : cells + rm.cells = c') (hs' : slots + rm.slots = s') (hc : c' ≤ R.cells) (hs : s' ≤ R.slots) (hd : decode bytes pc = .ok (.invokevirtual index, 3)) (hn : pc + 3 = n) (hlen : parseMethodDescriptor yr.desc = some ⟨ps, rc⟩) (hal : argsL.length = ps.length) (hst : stk = argsL.reverse ++ .ref a :: st) (k : ∀ v h', Qc v h' → Go p l e R s m args below meth c n0 Q c' s' h' (mkF m n Ls (v.toList ++ st))) : Go p l e R s m args below meth c n0 Q cells slots h (mkF m pc Ls (stk)) := fun T locs X N q => by
  subst hn hW hc' hs' hst
  obtain ⟨cq, kq, qa, qb, qc⟩ := isOf C.z q E
  obtain ⟨v, _, ⟨T', L', k', n''⟩, -, X', ⟨Lc, hQ, h1, h2, h3⟩, st'⟩ := X.virtualBack C.x (y := yr) (z := yc) C.own (mvT C.z w1) (mvT C.z w5) (hnf s C.z) (mvT C.z w6) (mvT C.z w2) hy (backOf (W := (st.map fun v => v.category).sum) (Q := fun v h L => Fr n0 L ∧ Qc v h) (M []) C.z w4 w3 hf hl) qa qc (g := mkF m pc Ls (argsL.reverse ++ .ref a :: st)) rfl (hsz.trans C.ml.symm) (Steps.refl _) (argsL := argsL) (rest := st) (lenOf hlen hal) rfl (by show 2 * 0 + _ ≤ _; omega) (hb C.by hd) (fun _ _ => ⟨rfl, q, hc, hs⟩)
  dsimp only [Pt.U, Pt.locs, Pt.cells, Pt.slots] at X' h1 h2 h3 st' hQ
  subst h1 h2 h3
  obtain ⟨t, o, s1, r⟩ := k v _ hQ.2 T' _ X' (Fr.app N hQ.1) rfl
  exact ⟨t, o, st'.trans s1, r⟩
theorem nfS {yr : MethodName} {K : String} {z : MethodName} (w6 : (Jvm.Cond.selects K yr z).before a0 Z = true) (hz : z = yr) : ∀ s : State, Z.Warmed39 s.vm → NotFace s yr := fun s hZ => by
  subst hz
  exact notFace_of_selects (args := #[]) (mvT hZ w6)
def Ints (Z : State) (h : Heap) (a : Addr) (ty : FieldType) (vs : List Int32) : Prop := ∃ k z, Arv Z h a k ty z (vs.map Value.int) (.int 0) ∧ z.toInt = vs.length
def Longs (Z : State) (h : Heap) (a : Addr) (vs : List Int64) : Prop := ∃ k z, Arv Z h a k .long z (vs.map Value.long) (.long 0) ∧ z.toInt = vs.length
theorem nat_clamp {j : Int32} : j.toNatClampNeg = j.toInt.toNat := rfl
theorem not_neg {j : Int32} (hj : 0 ≤ j.toInt) : ¬ j < 0 := by rw [lt_i]; exact Int.not_lt.mpr hj
theorem of_not_neg {j : Int32} (hj : ¬ j < 0) : 0 ≤ j.toInt := by rw [lt_i] at hj; exact Int.not_lt.mp hj
theorem inb {j z : Int32} {cl : Cell} {len : Nat} (hj : 0 ≤ j.toInt) (S : cl.slots.size = z.toNatClampNeg) (hz : z.toInt = len) (hl : j.toInt.toNat < len) : ¬ (j < 0 ∨ cl.slots.size ≤ j.toNatClampNeg) := by
  rintro (q | q)
  · exact not_neg hj q
  · rw [S, nat_clamp, nat_clamp, hz] at q; omega
theorem getD_map {α : Type} (f : α → Value) (vs : List α) (i : Nat) (d : Value) {x : α} (hx : vs[i]? = some x) : (vs.map f).getD i d = f x := by
  rw [List.getD_eq_getElem?_getD, List.getElem?_map, hx]; rfl
theorem lt_of_some {α : Type} {vs : List α} {i : Nat} {x : α} (hx : vs[i]? = some x) : i < vs.length := (List.getElem?_eq_some_iff.mp hx).1
theorem Ints.lt {a : Addr} {ty : FieldType} {vs : List Int32} (F : Ints Z h a ty vs) : a < h.size := by obtain ⟨k, z, A, -⟩ := F; exact A.lt
theorem Ints.ext {h' : Heap} {a : Addr} {ty : FieldType} {vs : List Int32} (F : Ints Z h a ty vs) (E : Ext h h') : Ints Z h' a ty vs := by obtain ⟨k, z, A, q⟩ := F; exact ⟨k, z, A.ext E, q⟩
theorem Ints.keep {h' : Heap} {ws : List Addr} {a : Addr} {ty : FieldType} {vs : List Int32} (F : Ints Z h a ty vs) (K : Keep h h' ws) (r : a ∉ ws) : Ints Z h' a ty vs := by obtain ⟨k, z, A, q⟩ := F; exact ⟨k, z, A.keep K r, q⟩
theorem Ints.other {h' : Heap} {sl : Nat} {v : Value} {a b : Addr} {ty : FieldType} {vs : List Int32} (F : Ints Z h a ty vs) (W : Wr h h' b sl v) (r : a ≠ b) : Ints Z h' a ty vs := by obtain ⟨k, z, A, q⟩ := F; exact ⟨k, z, A.other W r, q⟩
theorem Ints.len {a : Addr} {ty : FieldType} {vs : List Int32} (F : Ints Z h a ty vs) : (vs.length : Int) < 2147483648 := by obtain ⟨k, z, A, q⟩ := F; rw [← q]; exact (rng32 z).2
theorem Ints.at {a : Addr} {ty : FieldType} {vs : List Int32} (F : Ints Z h a ty vs) {j : Int32} {x : Int32} (hj : 0 ≤ j.toInt) (hx : vs[j.toInt.toNat]? = some x) : ∃ cl, Arr Z h a cl ty ∧ ¬ (j < 0 ∨ cl.slots.size ≤ j.toNatClampNeg) ∧ cl.slots[j.toNatClampNeg]? = some (.int x) ∧ fits ty (.int x) = true := by
  obtain ⟨k, z, ⟨cl, A, q1, S, N, H, G⟩, hz⟩ := F
  have hi := inb hj S hz (lt_of_some hx)
  have hi2 : j.toNatClampNeg < cl.slots.size := Nat.lt_of_not_le fun y => hi (Or.inr y)
  have e1 := H _ hi2
  have e2 := G _ hi2
  rw [nat_clamp, getD_map _ _ _ _ hx] at e1 e2
  exact ⟨cl, A, hi, e1, e2⟩
theorem Ints.put {h' : Heap} {a : Addr} {ty : FieldType} {vs : List Int32} (F : Ints Z h a ty vs) {j : Int32} {x : Int32} (hj : 0 ≤ j.toInt) (hl : j.toInt < vs.length) (hf : fits ty (.int x) = true) : ∃ cl, Arr Z h a cl ty ∧ ¬ (j < 0 ∨ cl.slots.size ≤ j.toNatClampNeg) ∧ (Wr h h' a j.toNatClampNeg (.int x) → Ints Z h' a ty (vs.set j.toInt.toNat x)) := by
  obtain ⟨k, z, ⟨cl, A, q1, S, N, H, G⟩, hz⟩ := F
  have hl2 : j.toInt.toNat < vs.length := by omega
  refine ⟨cl, A, inb hj S hz hl2, fun W => ⟨k, z, ?_, ?_⟩⟩
  · have r := Arv.set A q1 S N H G hf W j.toInt.toNat rfl (by rw [List.length_map]; exact hl2)
    rw [List.map_set]; exact r
  · rw [List.length_set]; exact hz
theorem Longs.lt {a : Addr} {vs : List Int64} (F : Longs Z h a vs) : a < h.size := by obtain ⟨k, z, A, -⟩ := F; exact A.lt
theorem Longs.ext {h' : Heap} {a : Addr} {vs : List Int64} (F : Longs Z h a vs) (E : Ext h h') : Longs Z h' a vs := by obtain ⟨k, z, A, q⟩ := F; exact ⟨k, z, A.ext E, q⟩
theorem Longs.keep {h' : Heap} {ws : List Addr} {a : Addr} {vs : List Int64} (F : Longs Z h a vs) (K : Keep h h' ws) (r : a ∉ ws) : Longs Z h' a vs := by obtain ⟨k, z, A, q⟩ := F; exact ⟨k, z, A.keep K r, q⟩
theorem Longs.other {h' : Heap} {sl : Nat} {v : Value} {a b : Addr} {vs : List Int64} (F : Longs Z h a vs) (W : Wr h h' b sl v) (r : a ≠ b) : Longs Z h' a vs := by obtain ⟨k, z, A, q⟩ := F; exact ⟨k, z, A.other W r, q⟩
theorem Longs.len {a : Addr} {vs : List Int64} (F : Longs Z h a vs) : (vs.length : Int) < 2147483648 := by obtain ⟨k, z, A, q⟩ := F; rw [← q]; exact (rng32 z).2
theorem Longs.at {a : Addr} {vs : List Int64} (F : Longs Z h a vs) {j : Int32} {x : Int64} (hj : 0 ≤ j.toInt) (hx : vs[j.toInt.toNat]? = some x) : ∃ cl, Arr Z h a cl .long ∧ ¬ (j < 0 ∨ cl.slots.size ≤ j.toNatClampNeg) ∧ cl.slots[j.toNatClampNeg]? = some (.long x) ∧ fits .long (.long x) = true := by
  obtain ⟨k, z, ⟨cl, A, q1, S, N, H, G⟩, hz⟩ := F
  have hi := inb hj S hz (lt_of_some hx)
  have hi2 : j.toNatClampNeg < cl.slots.size := Nat.lt_of_not_le fun y => hi (Or.inr y)
  have e1 := H _ hi2
  have e2 := G _ hi2
  rw [nat_clamp, getD_map _ _ _ _ hx] at e1 e2
  exact ⟨cl, A, hi, e1, e2⟩
theorem Longs.put {h' : Heap} {a : Addr} {vs : List Int64} (F : Longs Z h a vs) {j : Int32} {x : Int64} (hj : 0 ≤ j.toInt) (hl : j.toInt < vs.length) (hf : fits .long (.long x) = true) : ∃ cl, Arr Z h a cl .long ∧ ¬ (j < 0 ∨ cl.slots.size ≤ j.toNatClampNeg) ∧ (Wr h h' a j.toNatClampNeg (.long x) → Longs Z h' a (vs.set j.toInt.toNat x)) := by
  obtain ⟨k, z, ⟨cl, A, q1, S, N, H, G⟩, hz⟩ := F
  have hl2 : j.toInt.toNat < vs.length := by omega
  refine ⟨cl, A, inb hj S hz hl2, fun W => ⟨k, z, ?_, ?_⟩⟩
  · have r := Arv.set A q1 S N H G hf W j.toInt.toNat rfl (by rw [List.length_map]; exact hl2)
    rw [List.map_set]; exact r
  · rw [List.length_set]; exact hz
theorem G.iaload (C : Cx p s m meth c Z y bytes maxL ret) {a : Addr} {j : Int32} {x : Int32} {vs : List Int32} (F : Ints Z h a .int vs) (hj : 0 ≤ j.toInt) (hx : vs[j.toInt.toNat]? = some x) (hd : decode bytes pc = .ok (.iaload, 1)) (hn : pc + 1 = n) (k : Go p l e R s m args below meth c n0 Q cells slots h (mkF m n Ls (.int x :: st))) : Go p l e R s m args below meth c n0 Q cells slots h (mkF m pc Ls (.int j :: .ref a :: st)) := by
  subst hn
  obtain ⟨cl, A, h1, h2, -⟩ := F.at hj hx
  exact Go.via (fun T locs X q t r => X.iaload C.x (j := j) (v := .int x) (by rw [q]; exact A.1) (State.isArrayOf_alike C.z.alike A.2.1) A.2.2 h1 h2 (g := mkF m pc Ls (.int j :: .ref a :: st)) rfl rfl (hb C.by hd) t r) k
theorem G.laload (C : Cx p s m meth c Z y bytes maxL ret) {a : Addr} {j : Int32} {x : Int64} {vs : List Int64} (F : Longs Z h a vs) (hj : 0 ≤ j.toInt) (hx : vs[j.toInt.toNat]? = some x) (hd : decode bytes pc = .ok (.laload, 1)) (hn : pc + 1 = n) (k : Go p l e R s m args below meth c n0 Q cells slots h (mkF m n Ls (.long x :: st))) : Go p l e R s m args below meth c n0 Q cells slots h (mkF m pc Ls (.int j :: .ref a :: st)) := by
  subst hn
  obtain ⟨cl, A, h1, h2, -⟩ := F.at hj hx
  exact Go.via (fun T locs X q t r => X.laload C.x (j := j) (v := .long x) (by rw [q]; exact A.1) (State.isArrayOf_alike C.z.alike A.2.1) A.2.2 h1 h2 (g := mkF m pc Ls (.int j :: .ref a :: st)) rfl rfl (hb C.by hd) t r) k
theorem G.caload (C : Cx p s m meth c Z y bytes maxL ret) {a : Addr} {j : Int32} {x : Int32} {vs : List Int32} (F : Ints Z h a .char vs) (hj : 0 ≤ j.toInt) (hx : vs[j.toInt.toNat]? = some x) (hd : decode bytes pc = .ok (.caload, 1)) (hn : pc + 1 = n) (k : Go p l e R s m args below meth c n0 Q cells slots h (mkF m n Ls (.int x :: st))) : Go p l e R s m args below meth c n0 Q cells slots h (mkF m pc Ls (.int j :: .ref a :: st)) := by
  subst hn
  obtain ⟨cl, A, h1, h2, -⟩ := F.at hj hx
  exact Go.via (fun T locs X q t r => X.caload C.x (j := j) (v := .int x) (by rw [q]; exact A.1) (State.isArrayOf_alike C.z.alike A.2.1) A.2.2 h1 h2 (g := mkF m pc Ls (.int j :: .ref a :: st)) rfl rfl (hb C.by hd) t r) k
theorem G.baload (C : Cx p s m meth c Z y bytes maxL ret) {a : Addr} {j : Int32} {x : Int32} {vs : List Int32} (F : Ints Z h a .byte vs) (hj : 0 ≤ j.toInt) (hx : vs[j.toInt.toNat]? = some x) (hd : decode bytes pc = .ok (.baload, 1)) (hn : pc + 1 = n) (k : Go p l e R s m args below meth c n0 Q cells slots h (mkF m n Ls (.int x :: st))) : Go p l e R s m args below meth c n0 Q cells slots h (mkF m pc Ls (.int j :: .ref a :: st)) := by
  subst hn
  obtain ⟨cl, A, h1, h2, -⟩ := F.at hj hx
  exact Go.via (fun T locs X q t r => X.baloadBytes C.x (j := j) (v := .int x) (by rw [q]; exact A.1) (State.isArrayOf_alike C.z.alike A.2.1) A.2.2 h1 h2 (g := mkF m pc Ls (.int j :: .ref a :: st)) rfl rfl (hb C.by hd) t r) k
theorem G.baloadZ (C : Cx p s m meth c Z y bytes maxL ret) {a : Addr} {j : Int32} {x : Int32} {vs : List Int32} (F : Ints Z h a .boolean vs) (hj : 0 ≤ j.toInt) (hx : vs[j.toInt.toNat]? = some x) (hd : decode bytes pc = .ok (.baload, 1)) (hn : pc + 1 = n) (k : Go p l e R s m args below meth c n0 Q cells slots h (mkF m n Ls (.int x :: st))) : Go p l e R s m args below meth c n0 Q cells slots h (mkF m pc Ls (.int j :: .ref a :: st)) := by
  subst hn
  obtain ⟨cl, A, h1, h2, -⟩ := F.at hj hx
  exact Go.via (fun T locs X q t r => X.baloadBooleans C.x (j := j) (v := .int x) (by rw [q]; exact A.1) (State.isArrayOf_alike C.z.alike A.2.1) A.2.2 h1 h2 (g := mkF m pc Ls (.int j :: .ref a :: st)) rfl rfl (hb C.by hd) t r) k
theorem G.iastore (C : Cx p s m meth c Z y bytes maxL ret) {a : Addr} {j : Int32} {x : Int32} {vs : List Int32} (F : Ints Z h a .int vs) (hj : 0 ≤ j.toInt) (hl : j.toInt < vs.length) (g : n0 ≤ a) (hd : decode bytes pc = .ok (.iastore, 1)) (hn : pc + 1 = n) (k : ∀ h', Keep h h' [a] → (∃ w, Wr h h' a j.toNatClampNeg w) → Ints Z h' a .int (vs.set j.toInt.toNat x) → Go p l e R s m args below meth c n0 Q cells slots h' (mkF m n Ls (st))) : Go p l e R s m args below meth c n0 Q cells slots h (mkF m pc Ls (.int x :: .int j :: .ref a :: st)) := fun T locs X N q => by
  subst hn
  obtain ⟨cl, A, h1, -⟩ := F.put (h' := h) hj hl (x := x) rfl
  obtain ⟨T', h', X', e', W, st'⟩ := stI X C.x C.z q A (j := j) h1 (g := mkF m pc Ls (.int x :: .int j :: .ref a :: st)) rfl rfl (hb C.by hd)
  obtain ⟨cl2, A2, -, h3⟩ := F.put (h' := h') hj hl (x := x) rfl
  obtain ⟨t, o, s1, r⟩ := k h' (Keep.of_wr W) ⟨_, W⟩ (h3 W) T' _ X' (Fr.snoc X' N g) e'
  exact ⟨t, o, st' t s1, r⟩
theorem G.lastore (C : Cx p s m meth c Z y bytes maxL ret) {a : Addr} {j : Int32} {x : Int64} {vs : List Int64} (F : Longs Z h a vs) (hj : 0 ≤ j.toInt) (hl : j.toInt < vs.length) (g : n0 ≤ a) (hd : decode bytes pc = .ok (.lastore, 1)) (hn : pc + 1 = n) (k : ∀ h', Keep h h' [a] → (∃ w, Wr h h' a j.toNatClampNeg w) → Longs Z h' a (vs.set j.toInt.toNat x) → Go p l e R s m args below meth c n0 Q cells slots h' (mkF m n Ls (st))) : Go p l e R s m args below meth c n0 Q cells slots h (mkF m pc Ls (.long x :: .int j :: .ref a :: st)) := fun T locs X N q => by
  subst hn
  obtain ⟨cl, A, h1, -⟩ := F.put (h' := h) hj hl (x := x) rfl
  obtain ⟨T', h', X', e', W, st'⟩ := stJ X C.x C.z q A (j := j) h1 (g := mkF m pc Ls (.long x :: .int j :: .ref a :: st)) rfl rfl (hb C.by hd)
  obtain ⟨cl2, A2, -, h3⟩ := F.put (h' := h') hj hl (x := x) rfl
  obtain ⟨t, o, s1, r⟩ := k h' (Keep.of_wr W) ⟨_, W⟩ (h3 W) T' _ X' (Fr.snoc X' N g) e'
  exact ⟨t, o, st' t s1, r⟩
theorem G.castore (C : Cx p s m meth c Z y bytes maxL ret) {a : Addr} {j : Int32} {x : Int32} {vs : List Int32} (F : Ints Z h a .char vs) (hj : 0 ≤ j.toInt) (hl : j.toInt < vs.length) (g : n0 ≤ a) (hd : decode bytes pc = .ok (.castore, 1)) (hn : pc + 1 = n) (k : ∀ h', Keep h h' [a] → (∃ w, Wr h h' a j.toNatClampNeg w) → Ints Z h' a .char (vs.set j.toInt.toNat (nar .char x)) → Go p l e R s m args below meth c n0 Q cells slots h' (mkF m n Ls (st))) : Go p l e R s m args below meth c n0 Q cells slots h (mkF m pc Ls (.int x :: .int j :: .ref a :: st)) := fun T locs X N q => by
  subst hn
  obtain ⟨cl, A, h1, -⟩ := F.put (h' := h) hj hl (x := (nar .char x)) (fits_nar_char x)
  obtain ⟨T', h', X', e', W, st'⟩ := stC X C.x C.z q A (j := j) h1 (g := mkF m pc Ls (.int x :: .int j :: .ref a :: st)) rfl rfl (hb C.by hd)
  obtain ⟨cl2, A2, -, h3⟩ := F.put (h' := h') hj hl (x := (nar .char x)) (fits_nar_char x)
  obtain ⟨t, o, s1, r⟩ := k h' (Keep.of_wr W) ⟨_, W⟩ (h3 W) T' _ X' (Fr.snoc X' N g) e'
  exact ⟨t, o, st' t s1, r⟩
theorem G.bastore (C : Cx p s m meth c Z y bytes maxL ret) {a : Addr} {j : Int32} {x : Int32} {vs : List Int32} (F : Ints Z h a .byte vs) (hj : 0 ≤ j.toInt) (hl : j.toInt < vs.length) (g : n0 ≤ a) (hd : decode bytes pc = .ok (.bastore, 1)) (hn : pc + 1 = n) (k : ∀ h', Keep h h' [a] → (∃ w, Wr h h' a j.toNatClampNeg w) → Ints Z h' a .byte (vs.set j.toInt.toNat (nar .byte x)) → Go p l e R s m args below meth c n0 Q cells slots h' (mkF m n Ls (st))) : Go p l e R s m args below meth c n0 Q cells slots h (mkF m pc Ls (.int x :: .int j :: .ref a :: st)) := fun T locs X N q => by
  subst hn
  obtain ⟨cl, A, h1, -⟩ := F.put (h' := h) hj hl (x := (nar .byte x)) (fits_nar_byte x)
  obtain ⟨T', h', X', e', W, st'⟩ := stB X C.x C.z q A (j := j) h1 (g := mkF m pc Ls (.int x :: .int j :: .ref a :: st)) rfl rfl (hb C.by hd)
  obtain ⟨cl2, A2, -, h3⟩ := F.put (h' := h') hj hl (x := (nar .byte x)) (fits_nar_byte x)
  obtain ⟨t, o, s1, r⟩ := k h' (Keep.of_wr W) ⟨_, W⟩ (h3 W) T' _ X' (Fr.snoc X' N g) e'
  exact ⟨t, o, st' t s1, r⟩
theorem G.bastoreZ (C : Cx p s m meth c Z y bytes maxL ret) {a : Addr} {j : Int32} {x : Int32} {vs : List Int32} (F : Ints Z h a .boolean vs) (hj : 0 ≤ j.toInt) (hl : j.toInt < vs.length) (g : n0 ≤ a) (hd : decode bytes pc = .ok (.bastore, 1)) (hn : pc + 1 = n) (k : ∀ h', Keep h h' [a] → (∃ w, Wr h h' a j.toNatClampNeg w) → Ints Z h' a .boolean (vs.set j.toInt.toNat (nar .boolean x)) → Go p l e R s m args below meth c n0 Q cells slots h' (mkF m n Ls (st))) : Go p l e R s m args below meth c n0 Q cells slots h (mkF m pc Ls (.int x :: .int j :: .ref a :: st)) := fun T locs X N q => by
  subst hn
  obtain ⟨cl, A, h1, -⟩ := F.put (h' := h) hj hl (x := (nar .boolean x)) (fits_nar_bool x)
  obtain ⟨T', h', X', e', W, st'⟩ := stZ X C.x C.z q A (j := j) h1 (g := mkF m pc Ls (.int x :: .int j :: .ref a :: st)) rfl rfl (hb C.by hd)
  obtain ⟨cl2, A2, -, h3⟩ := F.put (h' := h') hj hl (x := (nar .boolean x)) (fits_nar_bool x)
  obtain ⟨t, o, s1, r⟩ := k h' (Keep.of_wr W) ⟨_, W⟩ (h3 W) T' _ X' (Fr.snoc X' N g) e'
  exact ⟨t, o, st' t s1, r⟩
theorem len32 {z : Int32} {k : Nat} (hz : z.toInt = k) : z = Int32.ofNat k := by
  have h2 := (rng32 z).2
  exact Int32.toInt_inj.mp (by rw [Int32.toInt_ofNat_of_lt (by omega)]; exact hz)
theorem G.arraylengthI (C : Cx p s m meth c Z y bytes maxL ret) {a : Addr} {ty : FieldType} {vs : List Int32} {len : Int32} (F : Ints Z h a ty vs) (hlen : len.toInt = vs.length) (hd : decode bytes pc = .ok (.arraylength, 1)) (hn : pc + 1 = n) (k : Go p l e R s m args below meth c n0 Q cells slots h (mkF m n Ls (.int len :: st))) : Go p l e R s m args below meth c n0 Q cells slots h (mkF m pc Ls (.ref a :: st)) := by
  subst hn
  obtain ⟨k', z, ⟨cl, A, q1, S, N, H, G⟩, hz⟩ := F
  have e1 : cl.slots.size.toInt32 = len := (len_of S N).trans (Int32.toInt_inj.mp (hz.trans hlen.symm))
  exact Go.via (fun T locs X q t r => X.arraylength C.x (by rw [q]; exact A.1) (State.isArrayOf_alike C.z.alike A.2.1) (g := mkF m pc Ls (.ref a :: st)) rfl rfl (hb C.by hd) t (by rw [e1]; exact r)) k
theorem G.arraylengthL (C : Cx p s m meth c Z y bytes maxL ret) {a : Addr} {vs : List Int64} {len : Int32} (F : Longs Z h a vs) (hlen : len.toInt = vs.length) (hd : decode bytes pc = .ok (.arraylength, 1)) (hn : pc + 1 = n) (k : Go p l e R s m args below meth c n0 Q cells slots h (mkF m n Ls (.int len :: st))) : Go p l e R s m args below meth c n0 Q cells slots h (mkF m pc Ls (.ref a :: st)) := by
  subst hn
  obtain ⟨k', z, ⟨cl, A, q1, S, N, H, G⟩, hz⟩ := F
  have e1 : cl.slots.size.toInt32 = len := (len_of S N).trans (Int32.toInt_inj.mp (hz.trans hlen.symm))
  exact Go.via (fun T locs X q t r => X.arraylength C.x (by rw [q]; exact A.1) (State.isArrayOf_alike C.z.alike A.2.1) (g := mkF m pc Ls (.ref a :: st)) rfl rfl (hb C.by hd) t (by rw [e1]; exact r)) k
theorem G.newarray (C : Cx p s m meth c Z y bytes maxL ret) {aty : ArrayType} {ty : FieldType} {len : Int32} {cap c' s' : Nat} (w : (Jvm.Cond.arrayClass ty).before a0 Z = true) (hty : newarray.typeOf aty = ty) (hdv : defaultValue ty = .int 0) (hlen : 0 ≤ len.toInt) (hcap : len.toInt ≤ cap) (hbig : cap * 8 ≤ 536870912) (hd : decode bytes pc = .ok (.newarray aty, 2)) (hn : pc + 2 = n) (hc' : cells + 1 = c') (hs' : slots + cap = s') (hc : c' ≤ R.cells) (hs : s' ≤ R.slots)
    (k : ∀ h' b, b = h.size → Ext h h' → Ints Z h' b ty (List.replicate len.toInt.toNat 0) → Go p l e R s m args below meth c n0 Q c' s' h' (mkF m n Ls (.ref b :: st))) : Go p l e R s m args below meth c n0 Q cells slots h (mkF m pc Ls (.int len :: st)) := fun T locs X N q => by
  subst hn hc' hs' hty
  obtain ⟨T', h', cA, X', e', E, A, st'⟩ := newP X C.x C.z w q (g := mkF m pc Ls (.int len :: st)) rfl (hb C.by hd) rfl (not_neg hlen) (cap := cap) (by rw [nat_clamp]; omega) hbig hc hs
  have V := (Arv.new A (not_neg hlen))
  rw [hdv] at V
  have V2 := V.pad (pad_rep [] _ len.toInt.toNat)
  rw [List.nil_append, ← List.map_replicate (f := Value.int)] at V2
  obtain ⟨t, o, s1, r⟩ := k h' _ rfl E ⟨cA, len, V2, by rw [List.length_replicate]; omega⟩ T' _ X' N e'
  exact ⟨t, o, st' t s1, r⟩
theorem G.newarrayJ (C : Cx p s m meth c Z y bytes maxL ret) {aty : ArrayType} {ty : FieldType} {len : Int32} {cap c' s' : Nat} (w : (Jvm.Cond.arrayClass ty).before a0 Z = true) (hty : newarray.typeOf aty = ty) (hdv : defaultValue ty = .long 0) (hJ : ty = .long) (hlen : 0 ≤ len.toInt) (hcap : len.toInt ≤ cap) (hbig : cap * 8 ≤ 536870912) (hd : decode bytes pc = .ok (.newarray aty, 2)) (hn : pc + 2 = n) (hc' : cells + 1 = c') (hs' : slots + cap = s') (hc : c' ≤ R.cells) (hs : s' ≤ R.slots)
    (k : ∀ h' b, b = h.size → Ext h h' → Longs Z h' b (List.replicate len.toInt.toNat 0) → Go p l e R s m args below meth c n0 Q c' s' h' (mkF m n Ls (.ref b :: st))) : Go p l e R s m args below meth c n0 Q cells slots h (mkF m pc Ls (.int len :: st)) := fun T locs X N q => by
  subst hn hc' hs' hty
  obtain ⟨T', h', cA, X', e', E, A, st'⟩ := newP X C.x C.z w q (g := mkF m pc Ls (.int len :: st)) rfl (hb C.by hd) rfl (not_neg hlen) (cap := cap) (by rw [nat_clamp]; omega) hbig hc hs
  have V := (Arv.new A (not_neg hlen))
  rw [hdv] at V
  have V2 := V.pad (pad_rep [] _ len.toInt.toNat)
  rw [List.nil_append, ← List.map_replicate (f := Value.long), hJ] at V2
  obtain ⟨t, o, s1, r⟩ := k h' _ rfl E ⟨cA, len, V2, by rw [List.length_replicate]; omega⟩ T' _ X' N e'
  exact ⟨t, o, st' t s1, r⟩
theorem getD_at {α : Type} {vs : List α} {i : Nat} {d : α} (h : i < vs.length) : vs[i]? = some (vs.getD i d) := by
  rw [List.getD_eq_getElem?_getD, List.getElem?_eq_getElem h]; rfl
def Refs (Z : State) (h : Heap) (a : Addr) (ty : FieldType) (vs : List Value) : Prop := ∃ k z, Arv Z h a k ty z vs .null ∧ z.toInt = vs.length
theorem Refs.lt {a : Addr} {ty : FieldType} {vs : List Value} (F : Refs Z h a ty vs) : a < h.size := by obtain ⟨k, z, A, -⟩ := F; exact A.lt
theorem Refs.keep {h' : Heap} {ws : List Addr} {a : Addr} {ty : FieldType} {vs : List Value} (F : Refs Z h a ty vs) (K : Keep h h' ws) (r : a ∉ ws) : Refs Z h' a ty vs := by obtain ⟨k, z, A, q⟩ := F; exact ⟨k, z, A.keep K r, q⟩
theorem Refs.at {a : Addr} {ty : FieldType} {vs : List Value} (F : Refs Z h a ty vs) {j : Int32} {x : Value} (hj : 0 ≤ j.toInt) (hx : vs[j.toInt.toNat]? = some x) : ∃ cl, Arr Z h a cl ty ∧ ¬ (j < 0 ∨ cl.slots.size ≤ j.toNatClampNeg) ∧ cl.slots[j.toNatClampNeg]? = some x := by
  obtain ⟨k, z, ⟨cl, A, q1, S, N, H, G⟩, hz⟩ := F
  have hi := inb hj S hz (lt_of_some hx)
  have hi2 : j.toNatClampNeg < cl.slots.size := Nat.lt_of_not_le fun y => hi (Or.inr y)
  have e1 := H _ hi2
  rw [nat_clamp, List.getD_eq_getElem?_getD, hx] at e1
  exact ⟨cl, A, hi, e1⟩
theorem G.aaload (C : Cx p s m meth c Z y bytes maxL ret) {a : Addr} {j : Int32} {x : Value} {ty : FieldType} {vs : List Value} (F : Refs Z h a ty vs) (hty : ty.isReference = true) (hj : 0 ≤ j.toInt) (hx : vs[j.toInt.toNat]? = some x) (hd : decode bytes pc = .ok (.aaload, 1)) (hn : pc + 1 = n) (k : Go p l e R s m args below meth c n0 Q cells slots h (mkF m n Ls (x :: st))) : Go p l e R s m args below meth c n0 Q cells slots h (mkF m pc Ls (.int j :: .ref a :: st)) := by
  subst hn
  obtain ⟨cl, A, h1, h2⟩ := F.at hj hx
  exact Go.via (fun T locs X q t r => X.aaload C.x (j := j) (v := x) (by rw [q]; exact A.1) (State.isArrayOf_alike C.z.alike A.2.1) hty A.2.2 h1 h2 (g := mkF m pc Ls (.int j :: .ref a :: st)) rfl rfl (hb C.by hd) t r) k
theorem G.arraylengthR (C : Cx p s m meth c Z y bytes maxL ret) {a : Addr} {ty : FieldType} {vs : List Value} {len : Int32} (F : Refs Z h a ty vs) (hlen : len.toInt = vs.length) (hd : decode bytes pc = .ok (.arraylength, 1)) (hn : pc + 1 = n) (k : Go p l e R s m args below meth c n0 Q cells slots h (mkF m n Ls (.int len :: st))) : Go p l e R s m args below meth c n0 Q cells slots h (mkF m pc Ls (.ref a :: st)) := by
  subst hn
  obtain ⟨k', z, ⟨cl, A, q1, S, N, H, G⟩, hz⟩ := F
  have e1 : cl.slots.size.toInt32 = len := (len_of S N).trans (Int32.toInt_inj.mp (hz.trans hlen.symm))
  exact Go.via (fun T locs X q t r => X.arraylength C.x (by rw [q]; exact A.1) (State.isArrayOf_alike C.z.alike A.2.1) (g := mkF m pc Ls (.ref a :: st)) rfl rfl (hb C.by hd) t (by rw [e1]; exact r)) k
theorem eqv_r {Z : State} {args : Array Value} {X F : Term} {idx : List Nat} {y : Addr} (hF : F.eval args Z none idx Z = some (.ref y)) (h : (Jvm.Cond.eq X F).value args Z none Z idx = some true) : X.eval args Z none idx Z = some (.ref y) := by
  obtain ⟨x, y', e1, e2, k1, k2⟩ := cmp_v (Or.inl h)
  cases hF.symm.trans e2
  have hx : x.isRef = true := k2.2
  have := gotT (eq_R e1 hF hx rfl) h
  rw [e1, this]
theorem len_q {Z : State} {args : Array Value} {t : Term} {a : Addr} {cl : Cell} {y : Int32} (ht : t.eval args Z none [] Z = some (.ref a)) (ha : Z.arrayAt? a = some cl) (h : (Term.length t).eval args Z none [] Z = some (.int y)) : cl.slots.size < 2 ^ 31 ∧ cl.slots.size.toInt32 = y := by
  simp [Term.eval, ht, ha] at h
  exact h
theorem Refs.start {s : State} {a : Addr} {cl : Cell} {ty : FieldType} {z : Int32} {vs : List Value} (hf : Fit s) (A : Arr s s.heap a cl ty) (q : cl.slots.size < 2 ^ 31 ∧ cl.slots.size.toInt32 = z) (hz : z.toInt = vs.length) (H : HasL cl 0 vs) : Refs s s.heap a ty vs :=
  ⟨cl.cls, z, Arv.start hf A q.1 q.2 (not_neg (by omega)) (by rw [nat_clamp]; omega) H, hz⟩
theorem Ints.start {s : State} {a : Addr} {cl : Cell} {ty : FieldType} {z : Int32} {vs : List Int32} (hf : Fit s) (A : Arr s s.heap a cl ty) (q : cl.slots.size < 2 ^ 31 ∧ cl.slots.size.toInt32 = z) (hz : z.toInt = vs.length) (H : HasL cl 0 (vs.map Value.int)) : Ints s s.heap a ty vs :=
  ⟨cl.cls, z, Arv.start hf A q.1 q.2 (not_neg (by omega)) (by rw [nat_clamp, List.length_map]; omega) H, hz⟩
theorem kext {h' : Heap} (E : Ext h h') : Keep h h' [] := (Keep.refl h []).ext E
theorem Keep.tr {h' h'' : Heap} {ws ws' : List Addr} (K : Keep h h' ws) (K' : Keep h' h'' ws') (q : ∀ x ∈ ws', x ∈ ws ∨ h.size ≤ x) : Keep h h'' ws := K.trans K' q
end
end Jvm.Own
namespace Jvm.Pilot.@@N@@
open Jvm Jvm.ClassFile Sem Op Lib Jvm.Free Jvm.Stand Jvm.LawKit Jvm.RoadKit Jvm.Own Bundle Jvm.Pilot.@@N@@.Jvm.D
def Ob_M (Z : State) (h : Heap) (a : Addr) (f_images : Value) : Prop := Exa Z h a "com/example/parley/parley/LinearMap" ∧ Fld Z h a "com/example/parley/parley/LinearMap" "images" "[J" f_images
theorem Ob_M.keep {Z : State} {h h' : Heap} {ws : List Addr} {a : Addr} {f_images : Value} (O : Ob_M Z h a f_images) (K : Keep h h' ws) (r : a ∉ ws) : Ob_M Z h' a f_images := ⟨(O.1).keep K, (O.2).keep K r⟩
theorem Ob_M.lt {Z : State} {h : Heap} {a : Addr} {f_images : Value} (O : Ob_M Z h a f_images) : a < h.size := Exa.lt (O.1)
theorem Ob_M.set_images {Z : State} {a0 : Array Value} (hw : ∀ d ∈ tables_1, d.before a0 Z = true) {h h' : Heap} {a : Addr} {f_images : Value} {v : Value} (O : Ob_M Z h a f_images) (W : Wr h h' a (RoadKit.slotOf Z "com/example/parley/parley/LinearMap" "images" "[J") v) : Ob_M Z h' a v := ⟨(O.1).wr W, (O.2).same W⟩
theorem Ob_M.new {Z : State} {a0 : Array Value} (hw : ∀ d ∈ tables_1, d.before a0 Z = true) {h : Heap} {a : Addr} (E : Exa Z h a "com/example/parley/parley/LinearMap") (D : ∀ {O nm d : String} {ty : FieldType}, Laid Z a0 "com/example/parley/parley/LinearMap" O nm d → parseFieldDescriptor d = some ty → Fld Z h a O nm d (defaultValue ty)) : Ob_M Z h a .null := ⟨E, D (Or.inr (wd hw 19 rfl)) (ty := (.array .long)) (by decide)⟩
def tab (N : Nat) (f : Nat → Int64) : List Int64 := (List.range N).map f
def upd (f : Nat → Int64) (i : Nat) (v : Int64) : Nat → Int64 := fun j => if j = i then v else f j
theorem tab_len (N : Nat) (f : Nat → Int64) : (tab N f).length = N := by simp [tab]
theorem tab_at {N : Nat} {f : Nat → Int64} {i : Nat} (h : i < N) : (tab N f)[i]? = some (f i) := by simp [tab, h]
theorem tab_set {N : Nat} {f : Nat → Int64} {i : Nat} {v : Int64} (h : i < N) : (tab N f).set i v = tab N (upd f i v) := by
  apply List.ext_getElem?
  intro q
  by_cases hq : q < N
  · rw [tab_at hq]
    by_cases e : q = i
    · rw [e, List.getElem?_set_self (by rw [tab_len]; exact h)]; simp [upd]
    · rw [List.getElem?_set_ne (Ne.symm e), tab_at hq]; simp [upd, e]
  · rw [List.getElem?_eq_none (by rw [List.length_set, tab_len]; omega), List.getElem?_eq_none (by rw [tab_len]; omega)]
theorem tab_new (N : Nat) : List.replicate N (0 : Int64) = tab N (fun _ => 0) := by
  apply List.ext_getElem (by simp [tab])
  intro i h1 h2
  simp [tab]
def setv (B T v : Nat) (x : Int64) (f : Nat → Int64) : Nat → Int64 := fun q => if 256 * B + 2 ^ T ≤ q ∧ q < 256 * B + 2 ^ T + v then x ^^^ f (q - 2 ^ T) else f q
def setf (B T : Nat) (x : Int64) (f : Nat → Int64) : Nat → Int64 := setv B T (2 ^ T) x f
theorem setv_0 (B T : Nat) (x : Int64) (f : Nat → Int64) : setv B T 0 x f = f := by
  funext q
  unfold setv
  rw [if_neg (by omega)]
theorem setv_s {B T v : Nat} {x : Int64} {f : Nat → Int64} (h : v < 2 ^ T) : upd (setv B T v x f) (256 * B + 2 ^ T + v) (x ^^^ setv B T v x f (256 * B + v)) = setv B T (v + 1) x f := by
  funext q
  have e : setv B T v x f (256 * B + v) = f (256 * B + v) := if_neg (by omega)
  rw [e]
  unfold upd
  by_cases hq : q = 256 * B + 2 ^ T + v
  · rw [if_pos hq, setv, if_pos (by omega), hq, show 256 * B + 2 ^ T + v - 2 ^ T = 256 * B + v by omega]
  · rw [if_neg hq]
    unfold setv
    by_cases h2 : 256 * B + 2 ^ T ≤ q ∧ q < 256 * B + 2 ^ T + v
    · rw [if_pos h2, if_pos (by omega)]
    · rw [if_neg h2, if_neg (by omega)]
def bx1 (V t : Nat) (x : Int64) : Int64 := if V.testBit t then x else 0
theorem tb_lt {V t : Nat} (h : V < 2 ^ t) : V.testBit t = false := Nat.testBit_lt_two_pow h
theorem setf_in {B T V : Nat} {x : Int64} {f : Nat → Int64} (h : V < 2 ^ (T + 1)) : setf B T x f (256 * B + V) = bx1 V T x ^^^ f (256 * B + V % 2 ^ T) := by
  have p : 2 ^ (T + 1) = 2 ^ T + 2 ^ T := by rw [Nat.pow_succ]; omega
  unfold setf setv bx1
  by_cases q : 2 ^ T ≤ V
  · have e : V % 2 ^ T = V - 2 ^ T := by rw [Nat.mod_eq_sub_mod q, Nat.mod_eq_of_lt (by omega)]
    have t : V.testBit T = true := by
      rw [Nat.testBit_eq_decide_div_mod_eq]
      have : V / 2 ^ T = 1 := by
        apply Nat.div_eq_of_lt_le <;> omega
      rw [this]; rfl
    rw [if_pos (by omega), t, e, show 256 * B + V - 2 ^ T = 256 * B + (V - 2 ^ T) by omega]
    rfl
  · rw [if_neg (by omega), tb_lt (by omega), Nat.mod_eq_of_lt (by omega)]
    simp
theorem setf_out {B B' T V : Nat} {x : Int64} {f : Nat → Int64} (hT : T < 8) (hV : V < 256) (h : B' ≠ B) : setf B T x f (256 * B' + V) = f (256 * B' + V) := by
  have p : 2 ^ T + 2 ^ T ≤ 256 := by
    have : 2 ^ (T + 1) ≤ 2 ^ 8 := Nat.pow_le_pow_right (by decide) (by omega)
    rw [Nat.pow_succ] at this; omega
  exact if_neg (by omega)
theorem bx1_mod {V t s : Nat} {x : Int64} (h : t < s) : bx1 (V % 2 ^ s) t x = bx1 V t x := by
  unfold bx1
  rw [Nat.testBit_mod_two_pow]
  simp [h]
abbrev all8 (B : Nat) (x0 x1 x2 x3 x4 x5 x6 x7 : Int64) : Nat → Int64 := setf B 7 x7 (setf B 6 x6 (setf B 5 x5 (setf B 4 x4 (setf B 3 x3 (setf B 2 x2 (setf B 1 x1 (setf B 0 x0 (fun _ => 0))))))))
def X8 (V : Nat) (x0 x1 x2 x3 x4 x5 x6 x7 : Int64) : Int64 := bx1 V 7 x7 ^^^ (bx1 V 6 x6 ^^^ (bx1 V 5 x5 ^^^ (bx1 V 4 x4 ^^^ (bx1 V 3 x3 ^^^ (bx1 V 2 x2 ^^^ (bx1 V 1 x1 ^^^ (bx1 V 0 x0 ^^^ 0)))))))
theorem all8_in {B V : Nat} {x0 x1 x2 x3 x4 x5 x6 x7 : Int64} (h : V < 256) : all8 B x0 x1 x2 x3 x4 x5 x6 x7 (256 * B + V) = X8 V x0 x1 x2 x3 x4 x5 x6 x7 := by
  have m : ∀ t, V % 2 ^ t < 2 ^ t := fun t => Nat.mod_lt _ (Nat.two_pow_pos t)
  have mm : ∀ s t, t ≤ s → V % 2 ^ s % 2 ^ t = V % 2 ^ t := fun s t h => Nat.mod_mod_of_dvd _ (Nat.pow_dvd_pow 2 h)
  unfold all8 X8
  rw [setf_in h, setf_in (m 7), mm 7 6 (by decide), setf_in (m 6), mm 6 5 (by decide), setf_in (m 5), mm 5 4 (by decide), setf_in (m 4), mm 4 3 (by decide), setf_in (m 3), mm 3 2 (by decide), setf_in (m 2), mm 2 1 (by decide), setf_in (m 1)]
  rw [bx1_mod (by decide), bx1_mod (by decide), bx1_mod (by decide), bx1_mod (by decide), bx1_mod (by decide), bx1_mod (by decide), bx1_mod (by decide)]
theorem all8_out {B B' V : Nat} {x0 x1 x2 x3 x4 x5 x6 x7 : Int64} (hV : V < 256) (h : B' ≠ B) : all8 B x0 x1 x2 x3 x4 x5 x6 x7 (256 * B' + V) = 0 := by
  unfold all8
  rw [setf_out (by decide) hV h, setf_out (by decide) hV h, setf_out (by decide) hV h, setf_out (by decide) hV h, setf_out (by decide) hV h, setf_out (by decide) hV h, setf_out (by decide) hV h, setf_out (by decide) hV h]
abbrev fin9 (j k : Nat) (x0 x1 x2 x3 x4 x5 x6 x7 c : Int64) : Nat → Int64 := setf k 7 c (all8 j x0 x1 x2 x3 x4 x5 x6 x7)
theorem fin9_at {j k b V : Nat} {x0 x1 x2 x3 x4 x5 x6 x7 c : Int64} (hV : V < 256) (h : k ≠ j) : fin9 j k x0 x1 x2 x3 x4 x5 x6 x7 c (256 * b + V) = if b = j then X8 V x0 x1 x2 x3 x4 x5 x6 x7 else if b = k then bx1 V 7 c else 0 := by
  by_cases e : b = j
  · rw [if_pos e, fin9, setf_out (by decide) hV (by omega), e, all8_in hV]
  · rw [if_neg e]
    by_cases e2 : b = k
    · rw [if_pos e2, fin9, e2, setf_in hV, all8_out (by omega) h]; simp
    · rw [if_neg e2, fin9, setf_out (by decide) hV e2, all8_out hV e]
abbrev shu (x : Int64) (c : Int32) : Int64 := (x.toUInt64 >>> (c &&& 0x3f).toInt64.toUInt64).toInt64
def by_ (w : Int64) (b : Nat) : Nat := (w.toInt % 18446744073709551616 / 2 ^ (8 * b) % 256).toNat
theorem by_lt (w : Int64) (b : Nat) : by_ w b < 256 := by
  unfold by_
  have := Int.emod_lt_of_pos (w.toInt % 18446744073709551616 / 2 ^ (8 * b)) (show (0 : Int) < 256 by decide)
  have := Int.emod_nonneg (w.toInt % 18446744073709551616 / 2 ^ (8 * b)) (show (256 : Int) ≠ 0 by decide)
  omega
theorem by_i (w : Int64) (b : Nat) : ((by_ w b : Nat) : Int) = w.toInt % 18446744073709551616 / 2 ^ (8 * b) % 256 := by
  unfold by_
  have := Int.emod_nonneg (w.toInt % 18446744073709551616 / 2 ^ (8 * b)) (show (256 : Int) ≠ 0 by decide)
  omega
theorem ix_0 (w : Int64) : (w.toInt32 &&& (255 : Int32)).toInt = ((256 * 0 + by_ w 0 : Nat) : Int) := by
  have q0 : ((by_ w 0 : Nat) : Int) = w.toInt % 18446744073709551616 / 1 % 256 := by_i w 0
  have q1 := rng64 w
  have q3 := c_l2i w
  have q4 : (w.toInt32 &&& (255 : Int32)).toInt = w.toInt32.toInt % ((2 ^ 8 : Nat) : Int) := c_mask w.toInt32 255 8 (by decide) (by decide)
  omega
theorem ix_1 (w : Int64) : ((256 : Int32) ||| ((shu w 8).toInt32 &&& (255 : Int32))).toInt = ((256 * 1 + by_ w 1 : Nat) : Int) := by
  have q0 : ((by_ w 1 : Nat) : Int) = w.toInt % 18446744073709551616 / 256 % 256 := by_i w 1
  have q1 := rng64 w
  have q2 : (shu w 8).toInt = w.toInt % 18446744073709551616 / ((2 ^ 8 : Nat) : Int) := c_lushr w 8 8 (by decide) (by decide)
  have q3 := c_l2i (shu w 8)
  have q4 : ((shu w 8).toInt32 &&& (255 : Int32)).toInt = (shu w 8).toInt32.toInt % ((2 ^ 8 : Nat) : Int) := c_mask (shu w 8).toInt32 255 8 (by decide) (by decide)
  have e : (256 : Int32).toInt = 256 := rfl
  have q5 := c_or (256 : Int32) ((shu w 8).toInt32 &&& (255 : Int32)) 8 (by decide) 256 rfl (by decide) (by omega) (by omega)
  have q6 := rng32 ((256 : Int32) ||| ((shu w 8).toInt32 &&& (255 : Int32)))
  omega
theorem ix_2 (w : Int64) : ((512 : Int32) ||| ((shu w 16).toInt32 &&& (255 : Int32))).toInt = ((256 * 2 + by_ w 2 : Nat) : Int) := by
  have q0 : ((by_ w 2 : Nat) : Int) = w.toInt % 18446744073709551616 / 65536 % 256 := by_i w 2
  have q1 := rng64 w
  have q2 : (shu w 16).toInt = w.toInt % 18446744073709551616 / ((2 ^ 16 : Nat) : Int) := c_lushr w 16 16 (by decide) (by decide)
  have q3 := c_l2i (shu w 16)
  have q4 : ((shu w 16).toInt32 &&& (255 : Int32)).toInt = (shu w 16).toInt32.toInt % ((2 ^ 8 : Nat) : Int) := c_mask (shu w 16).toInt32 255 8 (by decide) (by decide)
  have e : (512 : Int32).toInt = 512 := rfl
  have q5 := c_or (512 : Int32) ((shu w 16).toInt32 &&& (255 : Int32)) 8 (by decide) 256 rfl (by decide) (by omega) (by omega)
  have q6 := rng32 ((512 : Int32) ||| ((shu w 16).toInt32 &&& (255 : Int32)))
  omega
theorem ix_3 (w : Int64) : ((768 : Int32) ||| ((shu w 24).toInt32 &&& (255 : Int32))).toInt = ((256 * 3 + by_ w 3 : Nat) : Int) := by
  have q0 : ((by_ w 3 : Nat) : Int) = w.toInt % 18446744073709551616 / 16777216 % 256 := by_i w 3
  have q1 := rng64 w
  have q2 : (shu w 24).toInt = w.toInt % 18446744073709551616 / ((2 ^ 24 : Nat) : Int) := c_lushr w 24 24 (by decide) (by decide)
  have q3 := c_l2i (shu w 24)
  have q4 : ((shu w 24).toInt32 &&& (255 : Int32)).toInt = (shu w 24).toInt32.toInt % ((2 ^ 8 : Nat) : Int) := c_mask (shu w 24).toInt32 255 8 (by decide) (by decide)
  have e : (768 : Int32).toInt = 768 := rfl
  have q5 := c_or (768 : Int32) ((shu w 24).toInt32 &&& (255 : Int32)) 8 (by decide) 256 rfl (by decide) (by omega) (by omega)
  have q6 := rng32 ((768 : Int32) ||| ((shu w 24).toInt32 &&& (255 : Int32)))
  omega
theorem ix_4 (w : Int64) : ((1024 : Int32) ||| ((shu w 32).toInt32 &&& (255 : Int32))).toInt = ((256 * 4 + by_ w 4 : Nat) : Int) := by
  have q0 : ((by_ w 4 : Nat) : Int) = w.toInt % 18446744073709551616 / 4294967296 % 256 := by_i w 4
  have q1 := rng64 w
  have q2 : (shu w 32).toInt = w.toInt % 18446744073709551616 / ((2 ^ 32 : Nat) : Int) := c_lushr w 32 32 (by decide) (by decide)
  have q3 := c_l2i (shu w 32)
  have q4 : ((shu w 32).toInt32 &&& (255 : Int32)).toInt = (shu w 32).toInt32.toInt % ((2 ^ 8 : Nat) : Int) := c_mask (shu w 32).toInt32 255 8 (by decide) (by decide)
  have e : (1024 : Int32).toInt = 1024 := rfl
  have q5 := c_or (1024 : Int32) ((shu w 32).toInt32 &&& (255 : Int32)) 8 (by decide) 256 rfl (by decide) (by omega) (by omega)
  have q6 := rng32 ((1024 : Int32) ||| ((shu w 32).toInt32 &&& (255 : Int32)))
  omega
theorem ix_5 (w : Int64) : ((1280 : Int32) ||| ((shu w 40).toInt32 &&& (255 : Int32))).toInt = ((256 * 5 + by_ w 5 : Nat) : Int) := by
  have q0 : ((by_ w 5 : Nat) : Int) = w.toInt % 18446744073709551616 / 1099511627776 % 256 := by_i w 5
  have q1 := rng64 w
  have q2 : (shu w 40).toInt = w.toInt % 18446744073709551616 / ((2 ^ 40 : Nat) : Int) := c_lushr w 40 40 (by decide) (by decide)
  have q3 := c_l2i (shu w 40)
  have q4 : ((shu w 40).toInt32 &&& (255 : Int32)).toInt = (shu w 40).toInt32.toInt % ((2 ^ 8 : Nat) : Int) := c_mask (shu w 40).toInt32 255 8 (by decide) (by decide)
  have e : (1280 : Int32).toInt = 1280 := rfl
  have q5 := c_or (1280 : Int32) ((shu w 40).toInt32 &&& (255 : Int32)) 8 (by decide) 256 rfl (by decide) (by omega) (by omega)
  have q6 := rng32 ((1280 : Int32) ||| ((shu w 40).toInt32 &&& (255 : Int32)))
  omega
theorem ix_6 (w : Int64) : ((1536 : Int32) ||| ((shu w 48).toInt32 &&& (255 : Int32))).toInt = ((256 * 6 + by_ w 6 : Nat) : Int) := by
  have q0 : ((by_ w 6 : Nat) : Int) = w.toInt % 18446744073709551616 / 281474976710656 % 256 := by_i w 6
  have q1 := rng64 w
  have q2 : (shu w 48).toInt = w.toInt % 18446744073709551616 / ((2 ^ 48 : Nat) : Int) := c_lushr w 48 48 (by decide) (by decide)
  have q3 := c_l2i (shu w 48)
  have q4 : ((shu w 48).toInt32 &&& (255 : Int32)).toInt = (shu w 48).toInt32.toInt % ((2 ^ 8 : Nat) : Int) := c_mask (shu w 48).toInt32 255 8 (by decide) (by decide)
  have e : (1536 : Int32).toInt = 1536 := rfl
  have q5 := c_or (1536 : Int32) ((shu w 48).toInt32 &&& (255 : Int32)) 8 (by decide) 256 rfl (by decide) (by omega) (by omega)
  have q6 := rng32 ((1536 : Int32) ||| ((shu w 48).toInt32 &&& (255 : Int32)))
  omega
theorem ix_7 (w : Int64) : ((1792 : Int32) ||| (shu w 56).toInt32).toInt = ((256 * 7 + by_ w 7 : Nat) : Int) := by
  have q0 : ((by_ w 7 : Nat) : Int) = w.toInt % 18446744073709551616 / 72057594037927936 % 256 := by_i w 7
  have q1 := rng64 w
  have q2 : (shu w 56).toInt = w.toInt % 18446744073709551616 / ((2 ^ 56 : Nat) : Int) := c_lushr w 56 56 (by decide) (by decide)
  have q3 := c_l2i (shu w 56)
  have q4 := rng32 ((shu w 56).toInt32)
  have e : (1792 : Int32).toInt = 1792 := rfl
  have q5 := c_or (1792 : Int32) (shu w 56).toInt32 8 (by decide) 256 rfl (by decide) (by omega) (by omega)
  have q6 := rng32 ((1792 : Int32) ||| (shu w 56).toInt32)
  omega
def im4 (f : Nat → Int64) (w : Int64) : Int64 := ((f (256 * 0 + by_ w 0) ^^^ f (256 * 1 + by_ w 1)) ^^^ f (256 * 2 + by_ w 2)) ^^^ f (256 * 3 + by_ w 3)
def im8 (f : Nat → Int64) (w : Int64) : Int64 := im4 f w ^^^ (((f (256 * 4 + by_ w 4) ^^^ f (256 * 5 + by_ w 5)) ^^^ f (256 * 6 + by_ w 6)) ^^^ f (256 * 7 + by_ w 7))
theorem xs4 {j k : Nat} {P : Nat → Int64} {Q : Nat → Int64} (hj : j < 4) (hk : k < 4) (h : k ≠ j) : (((if 0 = j then P 0 else if 0 = k then Q 0 else 0) ^^^ (if 1 = j then P 1 else if 1 = k then Q 1 else 0)) ^^^ (if 2 = j then P 2 else if 2 = k then Q 2 else 0)) ^^^ (if 3 = j then P 3 else if 3 = k then Q 3 else 0) = P j ^^^ Q k := by
  have hj' : j = 0 ∨ j = 1 ∨ j = 2 ∨ j = 3 := by omega
  have hk' : k = 0 ∨ k = 1 ∨ k = 2 ∨ k = 3 := by omega
  rcases hj' with rfl | rfl | rfl | rfl <;> rcases hk' with rfl | rfl | rfl | rfl <;> first | exact absurd rfl h | (simp; done) | (simp; exact Int64.xor_comm _ _)
theorem xs8 {j k : Nat} {P : Nat → Int64} {Q : Nat → Int64} (hj : j < 8) (hk : k < 8) (h : k ≠ j) : ((((if 0 = j then P 0 else if 0 = k then Q 0 else 0) ^^^ (if 1 = j then P 1 else if 1 = k then Q 1 else 0)) ^^^ (if 2 = j then P 2 else if 2 = k then Q 2 else 0)) ^^^ (if 3 = j then P 3 else if 3 = k then Q 3 else 0)) ^^^ ((((if 4 = j then P 4 else if 4 = k then Q 4 else 0) ^^^ (if 5 = j then P 5 else if 5 = k then Q 5 else 0)) ^^^ (if 6 = j then P 6 else if 6 = k then Q 6 else 0)) ^^^ (if 7 = j then P 7 else if 7 = k then Q 7 else 0)) = P j ^^^ Q k := by
  have hj' : j = 0 ∨ j = 1 ∨ j = 2 ∨ j = 3 ∨ j = 4 ∨ j = 5 ∨ j = 6 ∨ j = 7 := by omega
  have hk' : k = 0 ∨ k = 1 ∨ k = 2 ∨ k = 3 ∨ k = 4 ∨ k = 5 ∨ k = 6 ∨ k = 7 := by omega
  rcases hj' with rfl | rfl | rfl | rfl | rfl | rfl | rfl | rfl <;> rcases hk' with rfl | rfl | rfl | rfl | rfl | rfl | rfl | rfl <;> first | exact absurd rfl h | (simp; done) | (simp; exact Int64.xor_comm _ _)
theorem natbit (V t : Nat) : (V &&& 2 ^ t = 0) ↔ V.testBit t = false := by
  constructor
  · intro h
    have := congrArg (fun x => Nat.testBit x t) h
    simpa [Nat.testBit_and, Nat.testBit_two_pow] using this
  · intro h
    apply Nat.eq_of_testBit_eq
    intro i
    rw [Nat.testBit_and, Nat.testBit_two_pow, Nat.zero_testBit]
    by_cases e : t = i
    · subst e; rw [h]; rfl
    · simp [e]
theorem posbits {v : Int32} {V : Nat} (hv : v.toInt = V) : v.toBitVec.toNat = V := by
  have := BitVec.toInt_eq_toNat_cond v.toBitVec
  have h2 : v.toBitVec.toInt = V := hv
  have h3 := v.toBitVec.isLt
  split at this <;> omega
theorem andbit {v m : Int32} {V t : Nat} (hv : v.toInt = V) (ht : t < 31) (hm : m.toInt = ((2 ^ t : Nat) : Int)) : (v &&& m = 0) ↔ V.testBit t = false := by
  have e : (v &&& m).toBitVec.toNat = V &&& 2 ^ t := by
    show (v.toBitVec &&& m.toBitVec).toNat = _
    rw [BitVec.toNat_and, posbits hv, posbits hm]
  rw [← natbit, ← e]
  constructor
  · intro h; rw [h]; rfl
  · intro h
    apply Int32.toBitVec_inj.mp
    apply BitVec.eq_of_toNat_eq
    rw [h]; rfl
theorem jn {v m : Int32} {V t : Nat} {x z z' : Int64} (hv : v.toInt = V) (ht : t < 31) (hm : m.toInt = ((2 ^ t : Nat) : Int)) (h : ((v &&& m = 0) ∧ ((v &&& m).toInt = 0) ∧ z' = z) ∨ ((v &&& m ≠ 0) ∧ ((v &&& m).toInt ≠ 0) ∧ z' = (z ^^^ x))) : z' = z ^^^ bx1 V t x := by
  unfold bx1
  rcases h with ⟨h, -, r⟩ | ⟨h, -, r⟩
  · rw [(andbit hv ht hm).mp h, r]; simp
  · rw [ne_eq, andbit hv ht hm, Bool.not_eq_false] at h
    rw [h, r]; simp
theorem sh_by {w : Int64} {c : Int32} {b : Nat} (hb : b < 8) (hc : c.toInt = 8 * b) : ((shu w c).toInt32 &&& (255 : Int32)).toInt = by_ w b := by
  have hb' : b = 0 ∨ b = 1 ∨ b = 2 ∨ b = 3 ∨ b = 4 ∨ b = 5 ∨ b = 6 ∨ b = 7 := by omega
  have q0 := by_i w b
  have q1 := rng64 w
  have q3 := c_l2i (shu w c)
  have q4 : ((shu w c).toInt32 &&& (255 : Int32)).toInt = (shu w c).toInt32.toInt % ((2 ^ 8 : Nat) : Int) := c_mask (shu w c).toInt32 255 8 (by decide) (by decide)
  rcases hb' with rfl | rfl | rfl | rfl | rfl | rfl | rfl | rfl
  · obtain rfl : c = (0 : Int32) := Int32.toInt_inj.mp (by rw [hc]; rfl)
    rw [show ((2 : Int) ^ (8 * 0)) = 1 from rfl] at q0
    have q2 : (shu w 0).toInt = w.toInt := congrArg Int64.toInt (show shu w 0 = w by show (w.toUInt64 >>> (0 : UInt64)).toInt64 = w; simp)
    omega
  · obtain rfl : c = (8 : Int32) := Int32.toInt_inj.mp (by rw [hc]; rfl)
    rw [show ((2 : Int) ^ (8 * 1)) = 256 from rfl] at q0
    have q2 : (shu w 8).toInt = w.toInt % 18446744073709551616 / ((2 ^ 8 : Nat) : Int) := c_lushr w 8 8 (by decide) (by decide)
    omega
  · obtain rfl : c = (16 : Int32) := Int32.toInt_inj.mp (by rw [hc]; rfl)
    rw [show ((2 : Int) ^ (8 * 2)) = 65536 from rfl] at q0
    have q2 : (shu w 16).toInt = w.toInt % 18446744073709551616 / ((2 ^ 16 : Nat) : Int) := c_lushr w 16 16 (by decide) (by decide)
    omega
  · obtain rfl : c = (24 : Int32) := Int32.toInt_inj.mp (by rw [hc]; rfl)
    rw [show ((2 : Int) ^ (8 * 3)) = 16777216 from rfl] at q0
    have q2 : (shu w 24).toInt = w.toInt % 18446744073709551616 / ((2 ^ 24 : Nat) : Int) := c_lushr w 24 24 (by decide) (by decide)
    omega
  · obtain rfl : c = (32 : Int32) := Int32.toInt_inj.mp (by rw [hc]; rfl)
    rw [show ((2 : Int) ^ (8 * 4)) = 4294967296 from rfl] at q0
    have q2 : (shu w 32).toInt = w.toInt % 18446744073709551616 / ((2 ^ 32 : Nat) : Int) := c_lushr w 32 32 (by decide) (by decide)
    omega
  · obtain rfl : c = (40 : Int32) := Int32.toInt_inj.mp (by rw [hc]; rfl)
    rw [show ((2 : Int) ^ (8 * 5)) = 1099511627776 from rfl] at q0
    have q2 : (shu w 40).toInt = w.toInt % 18446744073709551616 / ((2 ^ 40 : Nat) : Int) := c_lushr w 40 40 (by decide) (by decide)
    omega
  · obtain rfl : c = (48 : Int32) := Int32.toInt_inj.mp (by rw [hc]; rfl)
    rw [show ((2 : Int) ^ (8 * 6)) = 281474976710656 from rfl] at q0
    have q2 : (shu w 48).toInt = w.toInt % 18446744073709551616 / ((2 ^ 48 : Nat) : Int) := c_lushr w 48 48 (by decide) (by decide)
    omega
  · obtain rfl : c = (56 : Int32) := Int32.toInt_inj.mp (by rw [hc]; rfl)
    rw [show ((2 : Int) ^ (8 * 7)) = 72057594037927936 from rfl] at q0
    have q2 : (shu w 56).toInt = w.toInt % 18446744073709551616 / ((2 ^ 56 : Nat) : Int) := c_lushr w 56 56 (by decide) (by decide)
    omega
theorem top_by {w : Int64} {c : Int32} {b : Nat} (hb : b < 8) (hc : c.toInt = 8 * b + 7) : (shu w c &&& (1 : Int64) = 0) ↔ (by_ w b).testBit 7 = false := by
  have hb' : b = 0 ∨ b = 1 ∨ b = 2 ∨ b = 3 ∨ b = 4 ∨ b = 5 ∨ b = 6 ∨ b = 7 := by omega
  have q0 := by_i w b
  have q1 := rng64 w
  have l := by_lt w b
  have q4 : (shu w c &&& (1 : Int64)).toInt = (shu w c).toInt % ((2 ^ 1 : Nat) : Int) := c_maskL (shu w c) 1 1 (by decide) (by decide)
  have e : (shu w c &&& (1 : Int64) = 0) ↔ (shu w c &&& (1 : Int64)).toInt = 0 := ⟨fun h => by rw [h]; rfl, fun h => Int64.toInt_inj.mp h⟩
  rw [e, Nat.testBit_eq_decide_div_mod_eq, decide_eq_false_iff_not, show (2 ^ 7 : Nat) = 128 from rfl]
  rcases hb' with rfl | rfl | rfl | rfl | rfl | rfl | rfl | rfl
  · obtain rfl : c = (7 : Int32) := Int32.toInt_inj.mp (by rw [hc]; rfl)
    rw [show ((2 : Int) ^ (8 * 0)) = 1 from rfl] at q0
    have q2 : (shu w 7).toInt = w.toInt % 18446744073709551616 / ((2 ^ 7 : Nat) : Int) := c_lushr w 7 7 (by decide) (by decide)
    omega
  · obtain rfl : c = (15 : Int32) := Int32.toInt_inj.mp (by rw [hc]; rfl)
    rw [show ((2 : Int) ^ (8 * 1)) = 256 from rfl] at q0
    have q2 : (shu w 15).toInt = w.toInt % 18446744073709551616 / ((2 ^ 15 : Nat) : Int) := c_lushr w 15 15 (by decide) (by decide)
    omega
  · obtain rfl : c = (23 : Int32) := Int32.toInt_inj.mp (by rw [hc]; rfl)
    rw [show ((2 : Int) ^ (8 * 2)) = 65536 from rfl] at q0
    have q2 : (shu w 23).toInt = w.toInt % 18446744073709551616 / ((2 ^ 23 : Nat) : Int) := c_lushr w 23 23 (by decide) (by decide)
    omega
  · obtain rfl : c = (31 : Int32) := Int32.toInt_inj.mp (by rw [hc]; rfl)
    rw [show ((2 : Int) ^ (8 * 3)) = 16777216 from rfl] at q0
    have q2 : (shu w 31).toInt = w.toInt % 18446744073709551616 / ((2 ^ 31 : Nat) : Int) := c_lushr w 31 31 (by decide) (by decide)
    omega
  · obtain rfl : c = (39 : Int32) := Int32.toInt_inj.mp (by rw [hc]; rfl)
    rw [show ((2 : Int) ^ (8 * 4)) = 4294967296 from rfl] at q0
    have q2 : (shu w 39).toInt = w.toInt % 18446744073709551616 / ((2 ^ 39 : Nat) : Int) := c_lushr w 39 39 (by decide) (by decide)
    omega
  · obtain rfl : c = (47 : Int32) := Int32.toInt_inj.mp (by rw [hc]; rfl)
    rw [show ((2 : Int) ^ (8 * 5)) = 1099511627776 from rfl] at q0
    have q2 : (shu w 47).toInt = w.toInt % 18446744073709551616 / ((2 ^ 47 : Nat) : Int) := c_lushr w 47 47 (by decide) (by decide)
    omega
  · obtain rfl : c = (55 : Int32) := Int32.toInt_inj.mp (by rw [hc]; rfl)
    rw [show ((2 : Int) ^ (8 * 6)) = 281474976710656 from rfl] at q0
    have q2 : (shu w 55).toInt = w.toInt % 18446744073709551616 / ((2 ^ 55 : Nat) : Int) := c_lushr w 55 55 (by decide) (by decide)
    omega
  · obtain rfl : c = (63 : Int32) := Int32.toInt_inj.mp (by rw [hc]; rfl)
    rw [show ((2 : Int) ^ (8 * 7)) = 72057594037927936 from rfl] at q0
    have q2 : (shu w 63).toInt = w.toInt % 18446744073709551616 / ((2 ^ 63 : Nat) : Int) := c_lushr w 63 63 (by decide) (by decide)
    omega
theorem setB {bit : Int32} {B T : Nat} (h : bit.toInt = 8 * B + T) (hT : T < 8) (hB : 256 * B + 256 < 2147483648) : ((bit / (8 : Int32)) <<< ((8 : Int32) &&& 31)).toInt = 256 * B := by
  have q1 := (c_idiv bit 8 8 (by decide) (by decide)).1 (by omega)
  have q2 := c_ishl (bit / 8) 8 8 (by decide)
  have q3 := rng32 ((bit / (8 : Int32)) <<< ((8 : Int32) &&& 31))
  omega
theorem setO {bit : Int32} {B T P : Nat} (h : bit.toInt = 8 * B + T) (hT : T < 8) (hP : P = 2 ^ T) : ((1 : Int32) <<< ((bit % (8 : Int32)) &&& 31)).toInt = P := by
  have q1 := (c_irem bit 8 8 (by decide)).1 (by omega)
  have q2 : (bit % 8).toInt = T := by omega
  have hT' : T = 0 ∨ T = 1 ∨ T = 2 ∨ T = 3 ∨ T = 4 ∨ T = 5 ∨ T = 6 ∨ T = 7 := by omega
  rcases hT' with rfl | rfl | rfl | rfl | rfl | rfl | rfl | rfl
  · rw [show bit % (8 : Int32) = (0 : Int32) from Int32.toInt_inj.mp (by rw [q2]; rfl), hP]; rfl
  · rw [show bit % (8 : Int32) = (1 : Int32) from Int32.toInt_inj.mp (by rw [q2]; rfl), hP]; rfl
  · rw [show bit % (8 : Int32) = (2 : Int32) from Int32.toInt_inj.mp (by rw [q2]; rfl), hP]; rfl
  · rw [show bit % (8 : Int32) = (3 : Int32) from Int32.toInt_inj.mp (by rw [q2]; rfl), hP]; rfl
  · rw [show bit % (8 : Int32) = (4 : Int32) from Int32.toInt_inj.mp (by rw [q2]; rfl), hP]; rfl
  · rw [show bit % (8 : Int32) = (5 : Int32) from Int32.toInt_inj.mp (by rw [q2]; rfl), hP]; rfl
  · rw [show bit % (8 : Int32) = (6 : Int32) from Int32.toInt_inj.mp (by rw [q2]; rfl), hP]; rfl
  · rw [show bit % (8 : Int32) = (7 : Int32) from Int32.toInt_inj.mp (by rw [q2]; rfl), hP]; rfl
theorem iadd_n {a b : Int32} {A B : Nat} (ha : a.toInt = A) (hb : b.toInt = B) (h : A + B < 2147483648) : (a + b).toInt = ((A + B : Nat) : Int) := by
  have q1 := c_iadd a b
  have q2 := rng32 (a + b)
  omega
theorem at_n {N : Nat} {f : Nat → Int64} {ix : Int32} {q : Nat} (h : ix.toInt = q) (hq : q < N) : (tab N f)[ix.toInt.toNat]? = some (f q) := by
  rw [h]; exact tab_at hq
theorem nn_n {ix : Int32} {q : Nat} (h : ix.toInt = q) : 0 ≤ ix.toInt := by omega
theorem lt_n {N : Nat} {f : Nat → Int64} {ix : Int32} {q : Nat} (h : ix.toInt = q) (hq : q < N) : ix.toInt < (tab N f).length := by rw [h, tab_len]; omega
theorem set_n {N B T u P : Nat} {x : Int64} {f : Nat → Int64} {ix : Int32} (hP : P = 2 ^ T) (h : ix.toInt = ((256 * B + P + u : Nat) : Int)) (hq : 256 * B + P + u < N) (hu : u < P) : (tab N (setv B T u x f)).set ix.toInt.toNat (x ^^^ setv B T u x f (256 * B + u)) = tab N (setv B T (u + 1) x f) := by
  subst hP
  rw [h, show ((256 * B + 2 ^ T + u : Nat) : Int).toNat = 256 * B + 2 ^ T + u from rfl, tab_set hq, setv_s hu]
theorem d1_0 : decode prog_16_method_1_code 0 = .ok (.aload_n 0, 1) := by decide +kernel
theorem d1_1 : decode prog_16_method_1_code 1 = .ok (.invokespecial 1, 3) := by decide +kernel
theorem d1_4 : decode prog_16_method_1_code 4 = .ok (.aload_n 0, 1) := by decide +kernel
theorem d1_5 : decode prog_16_method_1_code 5 = .ok (.iload_n 1, 1) := by decide +kernel
theorem d1_6 : decode prog_16_method_1_code 6 = .ok (.bipush 8, 2) := by decide +kernel
theorem d1_8 : decode prog_16_method_1_code 8 = .ok (.idiv, 1) := by decide +kernel
theorem d1_9 : decode prog_16_method_1_code 9 = .ok (.bipush 8, 2) := by decide +kernel
theorem d1_11 : decode prog_16_method_1_code 11 = .ok (.ishl, 1) := by decide +kernel
theorem d1_12 : decode prog_16_method_1_code 12 = .ok (.newarray .long, 2) := by decide +kernel
theorem d1_14 : decode prog_16_method_1_code 14 = .ok (.putfield 9, 3) := by decide +kernel
theorem d1_17 : decode prog_16_method_1_code 17 = .ok (.return_, 1) := by decide +kernel
theorem pn0 : plainName "com/example/parley/parley/LinearMap" = true := by first | (simp [plainName, overriddenIn]; done) | decide +kernel
theorem ef1 (m : MethodId) (a : Addr) : entryFrame m #[(.ref a), (.int (32 : Int32))] 2 = mkF m 0 #[.val (.ref a), .val (.int (32 : Int32))] [] := by first | (simp [entryFrame, mkF, argsToLocals, Value.category]; done) | rfl
abbrev Q_init4 (Z : State) (h0 : Heap) (a : Addr) : Option Value → Heap → Prop := fun v h' => v = none ∧ Keep h0 h' [a] ∧ ∃ b, h0.size ≤ b ∧ Ob_M Z h' a (.ref b) ∧ Longs Z h' b (tab 1024 (fun _ => 0))
abbrev R_init4 : Room := { frames := 1, cells := 1, slots := 1024, locals := 12 }
set_option maxRecDepth 65536 in
set_option maxHeartbeats 40000000 in
theorem m_init4 (l : Launch) (Z : State) (a0 : Array Value) (hw : ∀ d ∈ tables_1, d.before a0 Z = true) (a : Addr) (h0 : Heap) (n0 : Nat) (Z0 : n0 ≤ h0.size) (O_a : Ob_M Z h0 a .null) (g_a : n0 ≤ a) : Met l Z (⟨"com/example/parley/parley/LinearMap", "<init>", "(I)V"⟩ : MethodName) prog_16_method_1_code 2 none R_init4 #[(.ref a), (.int (32 : Int32))] h0 n0 (Q_init4 Z h0 a) := by
  refine Met.of (plainFor_of_name pn0) (fun m => ef1 m a) ?_
  intro p e s m args below meth c C
  refine G.aloadN C d1_0 rfl rfl (n := 1) rfl ?_
  refine G.objinit C (wd hw 14 rfl) (wd hw 15 rfl) (wd hw 16 rfl) d1_1 rfl (by decide) (W := 0) rfl (by decide) (n := 4) rfl ?_
  refine G.aloadN C d1_4 rfl rfl (n := 5) rfl ?_
  refine G.iloadN C d1_5 rfl (n := 6) rfl ?_
  refine G.bipush C (v := (8 : Int32)) d1_6 (by decide) (n := 8) rfl ?_
  refine G.idiv C d1_8 (by decide) (n := 9) rfl ?_
  refine G.fold_int (z := (4 : Int32)) (by decide) ?_
  refine G.bipush C (v := (8 : Int32)) d1_9 (by decide) (n := 11) rfl ?_
  refine G.ishl C d1_11 (n := 12) rfl ?_
  refine G.fold_int (z := (1024 : Int32)) (by decide) ?_
  refine G.newarrayJ C (ty := .long) (cap := 1024) (wd hw 17 rfl) rfl rfl rfl (by decide) (by decide) (by decide) d1_12 (n := 14) rfl (c' := 1) (s' := 1024) rfl rfl (by decide) (by decide) ?_
  intro h1 b2 q3 E4 O5
  have O6 : Longs Z h1 b2 (tab 1024 (fun _ => 0)) := by rw [← tab_new]; exact O5
  have ne7 : a ≠ b2 := Nat.ne_of_lt (Nat.lt_of_lt_of_le O_a.lt (Nat.le_of_eq q3.symm))
  have g8 : n0 ≤ b2 := Nat.le_trans Z0 (Nat.le_of_eq q3.symm)
  have f9 : h0.size ≤ b2 := Nat.le_trans (Keep.refl h0 []).1 (Nat.le_of_eq q3.symm)
  have K10 := kext E4
  have O11 := O_a.keep K10 nin0
  have Z12 : n0 ≤ h1.size := Nat.le_trans Z0 K10.1
  have K13 : Keep h0 h1 [a] := Keep.tr (Keep.refl h0 _) K10 all0
  refine G.putfield C (host := "") (Or.inl (wd hw 18 rfl)) Via.refl (O11.2) (O11.1) (Or.inr ⟨(wd hw 19 rfl), rfl, rfl⟩) (wd hw 9 rfl) (ty := (.array .long)) (by decide) rfl rfl g_a d1_14 (n := 17) rfl ?_
  intro h14 W15
  have O16 := Ob_M.set_images hw O11 (v := (.ref b2)) W15
  have K17 := Keep.of_wr W15
  have O18 := O6.keep K17 (ninS (Ne.symm ne7) nin0)
  have Z19 : n0 ≤ h14.size := Nat.le_trans Z12 K17.1
  have K20 : Keep h0 h14 [a] := Keep.tr K13 K17 (allS (Or.inl (List.mem_of_getElem? (i := 0) rfl)) all0)
  refine G.return_ C d1_17 (by decide) (by decide) ?_
  exact ⟨rfl, K20, b2, f9, O16, O18⟩
theorem ef2 (m : MethodId) (a : Addr) : entryFrame m #[(.ref a), (.int (64 : Int32))] 2 = mkF m 0 #[.val (.ref a), .val (.int (64 : Int32))] [] := by first | (simp [entryFrame, mkF, argsToLocals, Value.category]; done) | rfl
abbrev Q_init8 (Z : State) (h0 : Heap) (a : Addr) : Option Value → Heap → Prop := fun v h' => v = none ∧ Keep h0 h' [a] ∧ ∃ b, h0.size ≤ b ∧ Ob_M Z h' a (.ref b) ∧ Longs Z h' b (tab 2048 (fun _ => 0))
abbrev R_init8 : Room := { frames := 1, cells := 1, slots := 2048, locals := 12 }
set_option maxRecDepth 65536 in
set_option maxHeartbeats 40000000 in
theorem m_init8 (l : Launch) (Z : State) (a0 : Array Value) (hw : ∀ d ∈ tables_1, d.before a0 Z = true) (a : Addr) (h0 : Heap) (n0 : Nat) (Z0 : n0 ≤ h0.size) (O_a : Ob_M Z h0 a .null) (g_a : n0 ≤ a) : Met l Z (⟨"com/example/parley/parley/LinearMap", "<init>", "(I)V"⟩ : MethodName) prog_16_method_1_code 2 none R_init8 #[(.ref a), (.int (64 : Int32))] h0 n0 (Q_init8 Z h0 a) := by
  refine Met.of (plainFor_of_name pn0) (fun m => ef2 m a) ?_
  intro p e s m args below meth c C
  refine G.aloadN C d1_0 rfl rfl (n := 1) rfl ?_
  refine G.objinit C (wd hw 14 rfl) (wd hw 15 rfl) (wd hw 16 rfl) d1_1 rfl (by decide) (W := 0) rfl (by decide) (n := 4) rfl ?_
  refine G.aloadN C d1_4 rfl rfl (n := 5) rfl ?_
  refine G.iloadN C d1_5 rfl (n := 6) rfl ?_
  refine G.bipush C (v := (8 : Int32)) d1_6 (by decide) (n := 8) rfl ?_
  refine G.idiv C d1_8 (by decide) (n := 9) rfl ?_
  refine G.fold_int (z := (8 : Int32)) (by decide) ?_
  refine G.bipush C (v := (8 : Int32)) d1_9 (by decide) (n := 11) rfl ?_
  refine G.ishl C d1_11 (n := 12) rfl ?_
  refine G.fold_int (z := (2048 : Int32)) (by decide) ?_
  refine G.newarrayJ C (ty := .long) (cap := 2048) (wd hw 17 rfl) rfl rfl rfl (by decide) (by decide) (by decide) d1_12 (n := 14) rfl (c' := 1) (s' := 2048) rfl rfl (by decide) (by decide) ?_
  intro h1 b2 q3 E4 O5
  have O6 : Longs Z h1 b2 (tab 2048 (fun _ => 0)) := by rw [← tab_new]; exact O5
  have ne7 : a ≠ b2 := Nat.ne_of_lt (Nat.lt_of_lt_of_le O_a.lt (Nat.le_of_eq q3.symm))
  have g8 : n0 ≤ b2 := Nat.le_trans Z0 (Nat.le_of_eq q3.symm)
  have f9 : h0.size ≤ b2 := Nat.le_trans (Keep.refl h0 []).1 (Nat.le_of_eq q3.symm)
  have K10 := kext E4
  have O11 := O_a.keep K10 nin0
  have Z12 : n0 ≤ h1.size := Nat.le_trans Z0 K10.1
  have K13 : Keep h0 h1 [a] := Keep.tr (Keep.refl h0 _) K10 all0
  refine G.putfield C (host := "") (Or.inl (wd hw 18 rfl)) Via.refl (O11.2) (O11.1) (Or.inr ⟨(wd hw 19 rfl), rfl, rfl⟩) (wd hw 9 rfl) (ty := (.array .long)) (by decide) rfl rfl g_a d1_14 (n := 17) rfl ?_
  intro h14 W15
  have O16 := Ob_M.set_images hw O11 (v := (.ref b2)) W15
  have K17 := Keep.of_wr W15
  have O18 := O6.keep K17 (ninS (Ne.symm ne7) nin0)
  have Z19 : n0 ≤ h14.size := Nat.le_trans Z12 K17.1
  have K20 : Keep h0 h14 [a] := Keep.tr K13 K17 (allS (Or.inl (List.mem_of_getElem? (i := 0) rfl)) all0)
  refine G.return_ C d1_17 (by decide) (by decide) ?_
  exact ⟨rfl, K20, b2, f9, O16, O18⟩
theorem d3_0 : decode prog_16_method_2_code 0 = .ok (.iload_n 1, 1) := by decide +kernel
theorem d3_1 : decode prog_16_method_2_code 1 = .ok (.bipush 8, 2) := by decide +kernel
theorem d3_3 : decode prog_16_method_2_code 3 = .ok (.idiv, 1) := by decide +kernel
theorem d3_4 : decode prog_16_method_2_code 4 = .ok (.bipush 8, 2) := by decide +kernel
theorem d3_6 : decode prog_16_method_2_code 6 = .ok (.ishl, 1) := by decide +kernel
theorem d3_7 : decode prog_16_method_2_code 7 = .ok (.istore 4, 2) := by decide +kernel
theorem d3_9 : decode prog_16_method_2_code 9 = .ok (.iconst 1, 1) := by decide +kernel
theorem d3_10 : decode prog_16_method_2_code 10 = .ok (.iload_n 1, 1) := by decide +kernel
theorem d3_11 : decode prog_16_method_2_code 11 = .ok (.bipush 8, 2) := by decide +kernel
theorem d3_13 : decode prog_16_method_2_code 13 = .ok (.irem, 1) := by decide +kernel
theorem d3_14 : decode prog_16_method_2_code 14 = .ok (.ishl, 1) := by decide +kernel
theorem d3_15 : decode prog_16_method_2_code 15 = .ok (.istore 5, 2) := by decide +kernel
theorem d3_17 : decode prog_16_method_2_code 17 = .ok (.iconst 0, 1) := by decide +kernel
theorem d3_18 : decode prog_16_method_2_code 18 = .ok (.istore 6, 2) := by decide +kernel
theorem d3_20 : decode prog_16_method_2_code 20 = .ok (.iload 6, 2) := by decide +kernel
theorem d3_22 : decode prog_16_method_2_code 22 = .ok (.iload 5, 2) := by decide +kernel
theorem d3_24 : decode prog_16_method_2_code 24 = .ok (.if_icmp .ge 34, 3) := by decide +kernel
theorem d3_27 : decode prog_16_method_2_code 27 = .ok (.aload_n 0, 1) := by decide +kernel
theorem d3_28 : decode prog_16_method_2_code 28 = .ok (.getfield 9, 3) := by decide +kernel
theorem d3_31 : decode prog_16_method_2_code 31 = .ok (.iload 4, 2) := by decide +kernel
theorem d3_33 : decode prog_16_method_2_code 33 = .ok (.iload 5, 2) := by decide +kernel
theorem d3_35 : decode prog_16_method_2_code 35 = .ok (.iadd, 1) := by decide +kernel
theorem d3_36 : decode prog_16_method_2_code 36 = .ok (.iload 6, 2) := by decide +kernel
theorem d3_38 : decode prog_16_method_2_code 38 = .ok (.iadd, 1) := by decide +kernel
theorem d3_39 : decode prog_16_method_2_code 39 = .ok (.lload_n 2, 1) := by decide +kernel
theorem d3_40 : decode prog_16_method_2_code 40 = .ok (.aload_n 0, 1) := by decide +kernel
theorem d3_41 : decode prog_16_method_2_code 41 = .ok (.getfield 9, 3) := by decide +kernel
theorem d3_44 : decode prog_16_method_2_code 44 = .ok (.iload 4, 2) := by decide +kernel
theorem d3_46 : decode prog_16_method_2_code 46 = .ok (.iload 6, 2) := by decide +kernel
theorem d3_48 : decode prog_16_method_2_code 48 = .ok (.iadd, 1) := by decide +kernel
theorem d3_49 : decode prog_16_method_2_code 49 = .ok (.laload, 1) := by decide +kernel
theorem d3_50 : decode prog_16_method_2_code 50 = .ok (.lxor, 1) := by decide +kernel
theorem d3_51 : decode prog_16_method_2_code 51 = .ok (.lastore, 1) := by decide +kernel
theorem d3_52 : decode prog_16_method_2_code 52 = .ok (.iinc 6 1, 3) := by decide +kernel
theorem d3_55 : decode prog_16_method_2_code 55 = .ok (.goto (-35), 3) := by decide +kernel
theorem d3_58 : decode prog_16_method_2_code 58 = .ok (.return_, 1) := by decide +kernel
theorem ef3 (m : MethodId) (a : Addr) (bit : Int32) (x : Int64) : entryFrame m #[(.ref a), (.int bit), (.long x)] 7 = mkF m 0 #[.val (.ref a), .val (.int bit), .val (.long x), .second, .unset, .unset, .unset] [] := by first | (simp [entryFrame, mkF, argsToLocals, Value.category]; done) | rfl
abbrev Q_set (Z : State) (h0 : Heap) (a : Addr) (bit : Int32) (x : Int64) (b : Addr) (N : Nat) (f : Nat → Int64) (B : Nat) (T : Nat) (P : Nat) : Option Value → Heap → Prop := fun v h' => v = none ∧ Keep h0 h' [b] ∧ Longs Z h' b (tab N (setf B T x f))
abbrev R_set : Room := { frames := 0, cells := 0, slots := 0, locals := 0 }
set_option maxRecDepth 65536 in
set_option maxHeartbeats 40000000 in
theorem m_set (l : Launch) (Z : State) (a0 : Array Value) (hw : ∀ d ∈ tables_1, d.before a0 Z = true) (a : Addr) (bit : Int32) (x : Int64) (b : Addr) (N : Nat) (f : Nat → Int64) (B : Nat) (T : Nat) (P : Nat) (h0 : Heap) (n0 : Nat) (Z0 : n0 ≤ h0.size) (O_a : Ob_M Z h0 a (.ref b)) (O_b : Longs Z h0 b (tab N f)) (ne_ab : a ≠ b) (g_b : n0 ≤ b) (e_bit : bit.toInt = 8 * B + T) (q_T : T < 8) (e_P : P = 2 ^ T) (q_P : P ≤ 128) (q_N : 256 * B + 256 ≤ N) (q_M : N < 2147483648) : Met l Z (⟨"com/example/parley/parley/LinearMap", "set", "(IJ)V"⟩ : MethodName) prog_16_method_2_code 7 none R_set #[(.ref a), (.int bit), (.long x)] h0 n0 (Q_set Z h0 a bit x b N f B T P) := by
  refine Met.of (plainFor_of_name pn0) (fun m => ef3 m a bit x) ?_
  intro p e s m args below meth c C
  refine G.iloadN C d3_0 rfl (n := 1) rfl ?_
  refine G.bipush C (v := (8 : Int32)) d3_1 (by decide) (n := 3) rfl ?_
  refine G.idiv C d3_3 (by decide) (n := 4) rfl ?_
  refine G.bipush C (v := (8 : Int32)) d3_4 (by decide) (n := 6) rfl ?_
  refine G.ishl C d3_6 (n := 7) rfl ?_
  refine G.istoreZ C d3_7 (l' := fun z => #[.val (.ref a), .val (.int bit), .val (.long x), .second, .val (.int z), .unset, .unset]) (fun _ => rfl) (n := 9) rfl ?_
  intro v1 hv1
  refine G.iconst C (v := (1 : Int32)) d3_9 (by decide) (n := 10) rfl ?_
  refine G.iloadN C d3_10 rfl (n := 11) rfl ?_
  refine G.bipush C (v := (8 : Int32)) d3_11 (by decide) (n := 13) rfl ?_
  refine G.irem C d3_13 (by decide) (n := 14) rfl ?_
  refine G.ishl C d3_14 (n := 15) rfl ?_
  refine G.istoreZ C d3_15 (l' := fun z => #[.val (.ref a), .val (.int bit), .val (.long x), .second, .val (.int v1), .val (.int z), .unset]) (fun _ => rfl) (n := 17) rfl ?_
  intro v2 hv2
  refine G.iconst C (v := (0 : Int32)) d3_17 (by decide) (n := 18) rfl ?_
  refine G.istore C d3_18 (l' := #[.val (.ref a), .val (.int bit), .val (.long x), .second, .val (.int v1), .val (.int v2), .val (.int (0 : Int32))]) rfl (n := 20) rfl ?_
  have hb4 : v1.toInt = ((256 * B : Nat) : Int) := by rw [hv1]; exact (setB e_bit q_T (by omega)).trans (by omega)
  have ho5 : v2.toInt = P := by rw [hv2]; exact setO e_bit q_T e_P
  rw [← setv_0 B T x f] at O_b
  have loop3 : ∀ k : Nat, ∀ (i : Int32) (u : Nat) (hL : Heap), (Ob_M Z hL a (.ref b)) → (Longs Z hL b (tab N (setv B T u x f))) → (n0 ≤ hL.size) → (Keep h0 hL [b]) → (i.toInt = u) → (u + k = P) → Go p l e R_set s m args below meth c n0 (Q_set Z h0 a bit x b N f B T P) 0 0 hL (mkF m 20 #[.val (.ref a), .val (.int bit), .val (.long x), .second, .val (.int v1), .val (.int v2), .val (.int i)] []) := by
    intro k
    induction k with
    | zero =>
      intro i u hL J4 J5 Z6 K7 j1 j2
      refine G.iload C d3_20 rfl (n := 22) rfl ?_
      refine G.iload C d3_22 rfl (n := 24) rfl ?_
      refine G.icmp_ge C (A := i.toInt) (B := v2.toInt) rfl rfl d3_24 (by decide) (by decide) (n := 27) (n' := 58) rfl (fun c24_8 => ?_) (fun c24_8 => ?_)
      rotate_left
      · exact absurd c24_8 (by omega)
      refine G.return_ C d3_58 (by decide) (by decide) ?_
      exact ⟨rfl, K7, by have A := J5; rw [show u = 2 ^ T by omega] at A; exact A⟩
    | succ k ih =>
      intro i u hL J4 J5 Z6 K7 j1 j2
      refine G.iload C d3_20 rfl (n := 22) rfl ?_
      refine G.iload C d3_22 rfl (n := 24) rfl ?_
      refine G.icmp_ge C (A := i.toInt) (B := v2.toInt) rfl rfl d3_24 (by decide) (by decide) (n := 27) (n' := 58) rfl (fun c24_9 => ?_) (fun c24_9 => ?_)
      · exact absurd c24_9 (by omega)
      refine G.aloadN C d3_27 rfl rfl (n := 28) rfl ?_
      refine G.getfield C (host := "") (Or.inl (wd hw 18 rfl)) Via.refl (J4.2) d3_28 (n := 31) rfl ?_
      refine G.iload C d3_31 rfl (n := 33) rfl ?_
      refine G.iload C d3_33 rfl (n := 35) rfl ?_
      refine G.iadd C d3_35 (n := 36) rfl ?_
      refine G.iload C d3_36 rfl (n := 38) rfl ?_
      refine G.iadd C d3_38 (n := 39) rfl ?_
      refine G.lloadN C d3_39 rfl (n := 40) rfl ?_
      refine G.aloadN C d3_40 rfl rfl (n := 41) rfl ?_
      refine G.getfield C (host := "") (Or.inl (wd hw 18 rfl)) Via.refl (J4.2) d3_41 (n := 44) rfl ?_
      refine G.iload C d3_44 rfl (n := 46) rfl ?_
      refine G.iload C d3_46 rfl (n := 48) rfl ?_
      refine G.iadd C d3_48 (n := 49) rfl ?_
      have x1 := iadd_n hb4 j1 (by omega)
      refine G.laload C (x := (setv B T u x f (256 * B + u))) J5 (nn_n x1) (at_n x1 (by omega)) d3_49 (n := 50) rfl ?_
      refine G.lxor C d3_50 (n := 51) rfl ?_
      have x2 := iadd_n (iadd_n hb4 ho5 (by omega)) j1 (by omega)
      refine G.lastore C J5 (nn_n x2) (lt_n x2 (by omega)) g_b d3_51 (n := 52) rfl ?_
      intro h10 K11 W12 O13
      have O14 : Longs Z h10 b (tab N (setv B T (u + 1) x f)) := by have A := O13; rw [set_n e_P x2 (by omega) (by omega)] at A; exact A
      have O15 := J4.keep K11 (ninS ne_ab nin0)
      have Z16 : n0 ≤ h10.size := Nat.le_trans Z6 K11.1
      have K17 : Keep h0 h10 [b] := Keep.tr K7 K11 (allS (Or.inl (List.mem_of_getElem? (i := 0) rfl)) all0)
      refine G.iincZ C (v := (1 : Int32)) d3_52 (by decide) rfl (l' := fun z => #[.val (.ref a), .val (.int bit), .val (.long x), .second, .val (.int v1), .val (.int v2), .val (.int z)]) (fun _ => rfl) (n := 55) rfl ?_
      intro v18 hv18
      refine G.goto C d3_55 (by decide) (n := 20) (by decide) ?_
      exact ih v18 (u + 1) h10 O15 O14 Z16 K17 (by rw [hv18]; exact iadd_n j1 (B := 1) rfl (by omega)) (by omega)
  exact loop3 P (0 : Int32) 0 h0 O_a O_b Z0 (Keep.refl h0 _) rfl (Nat.zero_add _)
theorem d4_0 : decode prog_16_method_3_code 0 = .ok (.aload_n 0, 1) := by decide +kernel
theorem d4_1 : decode prog_16_method_3_code 1 = .ok (.getfield 9, 3) := by decide +kernel
theorem d4_4 : decode prog_16_method_3_code 4 = .ok (.astore_n 3, 1) := by decide +kernel
theorem d4_5 : decode prog_16_method_3_code 5 = .ok (.aload_n 3, 1) := by decide +kernel
theorem d4_6 : decode prog_16_method_3_code 6 = .ok (.lload_n 1, 1) := by decide +kernel
theorem d4_7 : decode prog_16_method_3_code 7 = .ok (.l2i, 1) := by decide +kernel
theorem d4_8 : decode prog_16_method_3_code 8 = .ok (.sipush 255, 3) := by decide +kernel
theorem d4_11 : decode prog_16_method_3_code 11 = .ok (.iand, 1) := by decide +kernel
theorem d4_12 : decode prog_16_method_3_code 12 = .ok (.laload, 1) := by decide +kernel
theorem d4_13 : decode prog_16_method_3_code 13 = .ok (.aload_n 3, 1) := by decide +kernel
theorem d4_14 : decode prog_16_method_3_code 14 = .ok (.sipush 256, 3) := by decide +kernel
theorem d4_17 : decode prog_16_method_3_code 17 = .ok (.lload_n 1, 1) := by decide +kernel
theorem d4_18 : decode prog_16_method_3_code 18 = .ok (.bipush 8, 2) := by decide +kernel
theorem d4_20 : decode prog_16_method_3_code 20 = .ok (.lushr, 1) := by decide +kernel
theorem d4_21 : decode prog_16_method_3_code 21 = .ok (.l2i, 1) := by decide +kernel
theorem d4_22 : decode prog_16_method_3_code 22 = .ok (.sipush 255, 3) := by decide +kernel
theorem d4_25 : decode prog_16_method_3_code 25 = .ok (.iand, 1) := by decide +kernel
theorem d4_26 : decode prog_16_method_3_code 26 = .ok (.ior, 1) := by decide +kernel
theorem d4_27 : decode prog_16_method_3_code 27 = .ok (.laload, 1) := by decide +kernel
theorem d4_28 : decode prog_16_method_3_code 28 = .ok (.lxor, 1) := by decide +kernel
theorem d4_29 : decode prog_16_method_3_code 29 = .ok (.aload_n 3, 1) := by decide +kernel
theorem d4_30 : decode prog_16_method_3_code 30 = .ok (.sipush 512, 3) := by decide +kernel
theorem d4_33 : decode prog_16_method_3_code 33 = .ok (.lload_n 1, 1) := by decide +kernel
theorem d4_34 : decode prog_16_method_3_code 34 = .ok (.bipush 16, 2) := by decide +kernel
theorem d4_36 : decode prog_16_method_3_code 36 = .ok (.lushr, 1) := by decide +kernel
theorem d4_37 : decode prog_16_method_3_code 37 = .ok (.l2i, 1) := by decide +kernel
theorem d4_38 : decode prog_16_method_3_code 38 = .ok (.sipush 255, 3) := by decide +kernel
theorem d4_41 : decode prog_16_method_3_code 41 = .ok (.iand, 1) := by decide +kernel
theorem d4_42 : decode prog_16_method_3_code 42 = .ok (.ior, 1) := by decide +kernel
theorem d4_43 : decode prog_16_method_3_code 43 = .ok (.laload, 1) := by decide +kernel
theorem d4_44 : decode prog_16_method_3_code 44 = .ok (.lxor, 1) := by decide +kernel
theorem d4_45 : decode prog_16_method_3_code 45 = .ok (.aload_n 3, 1) := by decide +kernel
theorem d4_46 : decode prog_16_method_3_code 46 = .ok (.sipush 768, 3) := by decide +kernel
theorem d4_49 : decode prog_16_method_3_code 49 = .ok (.lload_n 1, 1) := by decide +kernel
theorem d4_50 : decode prog_16_method_3_code 50 = .ok (.bipush 24, 2) := by decide +kernel
theorem d4_52 : decode prog_16_method_3_code 52 = .ok (.lushr, 1) := by decide +kernel
theorem d4_53 : decode prog_16_method_3_code 53 = .ok (.l2i, 1) := by decide +kernel
theorem d4_54 : decode prog_16_method_3_code 54 = .ok (.sipush 255, 3) := by decide +kernel
theorem d4_57 : decode prog_16_method_3_code 57 = .ok (.iand, 1) := by decide +kernel
theorem d4_58 : decode prog_16_method_3_code 58 = .ok (.ior, 1) := by decide +kernel
theorem d4_59 : decode prog_16_method_3_code 59 = .ok (.laload, 1) := by decide +kernel
theorem d4_60 : decode prog_16_method_3_code 60 = .ok (.lxor, 1) := by decide +kernel
theorem d4_61 : decode prog_16_method_3_code 61 = .ok (.lstore 4, 2) := by decide +kernel
theorem d4_63 : decode prog_16_method_3_code 63 = .ok (.aload_n 3, 1) := by decide +kernel
theorem d4_64 : decode prog_16_method_3_code 64 = .ok (.arraylength, 1) := by decide +kernel
theorem d4_65 : decode prog_16_method_3_code 65 = .ok (.sipush 1024, 3) := by decide +kernel
theorem d4_68 : decode prog_16_method_3_code 68 = .ok (.if_icmp .le 67, 3) := by decide +kernel
theorem d4_71 : decode prog_16_method_3_code 71 = .ok (.lload 4, 2) := by decide +kernel
theorem d4_73 : decode prog_16_method_3_code 73 = .ok (.aload_n 3, 1) := by decide +kernel
theorem d4_74 : decode prog_16_method_3_code 74 = .ok (.sipush 1024, 3) := by decide +kernel
theorem d4_77 : decode prog_16_method_3_code 77 = .ok (.lload_n 1, 1) := by decide +kernel
theorem d4_78 : decode prog_16_method_3_code 78 = .ok (.bipush 32, 2) := by decide +kernel
theorem d4_80 : decode prog_16_method_3_code 80 = .ok (.lushr, 1) := by decide +kernel
theorem d4_81 : decode prog_16_method_3_code 81 = .ok (.l2i, 1) := by decide +kernel
theorem d4_82 : decode prog_16_method_3_code 82 = .ok (.sipush 255, 3) := by decide +kernel
theorem d4_85 : decode prog_16_method_3_code 85 = .ok (.iand, 1) := by decide +kernel
theorem d4_86 : decode prog_16_method_3_code 86 = .ok (.ior, 1) := by decide +kernel
theorem d4_87 : decode prog_16_method_3_code 87 = .ok (.laload, 1) := by decide +kernel
theorem d4_88 : decode prog_16_method_3_code 88 = .ok (.aload_n 3, 1) := by decide +kernel
theorem d4_89 : decode prog_16_method_3_code 89 = .ok (.sipush 1280, 3) := by decide +kernel
theorem d4_92 : decode prog_16_method_3_code 92 = .ok (.lload_n 1, 1) := by decide +kernel
theorem d4_93 : decode prog_16_method_3_code 93 = .ok (.bipush 40, 2) := by decide +kernel
theorem d4_95 : decode prog_16_method_3_code 95 = .ok (.lushr, 1) := by decide +kernel
theorem d4_96 : decode prog_16_method_3_code 96 = .ok (.l2i, 1) := by decide +kernel
theorem d4_97 : decode prog_16_method_3_code 97 = .ok (.sipush 255, 3) := by decide +kernel
theorem d4_100 : decode prog_16_method_3_code 100 = .ok (.iand, 1) := by decide +kernel
theorem d4_101 : decode prog_16_method_3_code 101 = .ok (.ior, 1) := by decide +kernel
theorem d4_102 : decode prog_16_method_3_code 102 = .ok (.laload, 1) := by decide +kernel
theorem d4_103 : decode prog_16_method_3_code 103 = .ok (.lxor, 1) := by decide +kernel
theorem d4_104 : decode prog_16_method_3_code 104 = .ok (.aload_n 3, 1) := by decide +kernel
theorem d4_105 : decode prog_16_method_3_code 105 = .ok (.sipush 1536, 3) := by decide +kernel
theorem d4_108 : decode prog_16_method_3_code 108 = .ok (.lload_n 1, 1) := by decide +kernel
theorem d4_109 : decode prog_16_method_3_code 109 = .ok (.bipush 48, 2) := by decide +kernel
theorem d4_111 : decode prog_16_method_3_code 111 = .ok (.lushr, 1) := by decide +kernel
theorem d4_112 : decode prog_16_method_3_code 112 = .ok (.l2i, 1) := by decide +kernel
theorem d4_113 : decode prog_16_method_3_code 113 = .ok (.sipush 255, 3) := by decide +kernel
theorem d4_116 : decode prog_16_method_3_code 116 = .ok (.iand, 1) := by decide +kernel
theorem d4_117 : decode prog_16_method_3_code 117 = .ok (.ior, 1) := by decide +kernel
theorem d4_118 : decode prog_16_method_3_code 118 = .ok (.laload, 1) := by decide +kernel
theorem d4_119 : decode prog_16_method_3_code 119 = .ok (.lxor, 1) := by decide +kernel
theorem d4_120 : decode prog_16_method_3_code 120 = .ok (.aload_n 3, 1) := by decide +kernel
theorem d4_121 : decode prog_16_method_3_code 121 = .ok (.sipush 1792, 3) := by decide +kernel
theorem d4_124 : decode prog_16_method_3_code 124 = .ok (.lload_n 1, 1) := by decide +kernel
theorem d4_125 : decode prog_16_method_3_code 125 = .ok (.bipush 56, 2) := by decide +kernel
theorem d4_127 : decode prog_16_method_3_code 127 = .ok (.lushr, 1) := by decide +kernel
theorem d4_128 : decode prog_16_method_3_code 128 = .ok (.l2i, 1) := by decide +kernel
theorem d4_129 : decode prog_16_method_3_code 129 = .ok (.ior, 1) := by decide +kernel
theorem d4_130 : decode prog_16_method_3_code 130 = .ok (.laload, 1) := by decide +kernel
theorem d4_131 : decode prog_16_method_3_code 131 = .ok (.lxor, 1) := by decide +kernel
theorem d4_132 : decode prog_16_method_3_code 132 = .ok (.lxor, 1) := by decide +kernel
theorem d4_133 : decode prog_16_method_3_code 133 = .ok (.lstore 4, 2) := by decide +kernel
theorem d4_135 : decode prog_16_method_3_code 135 = .ok (.lload 4, 2) := by decide +kernel
theorem d4_137 : decode prog_16_method_3_code 137 = .ok (.lreturn, 1) := by decide +kernel
theorem ef4 (m : MethodId) (a : Addr) (w : Int64) : entryFrame m #[(.ref a), (.long w)] 6 = mkF m 0 #[.val (.ref a), .val (.long w), .second, .unset, .unset, .unset] [] := by first | (simp [entryFrame, mkF, argsToLocals, Value.category]; done) | rfl
abbrev Q_image4 (Z : State) (h0 : Heap) (a : Addr) (w : Int64) (b : Addr) (f : Nat → Int64) : Option Value → Heap → Prop := fun v h' => v = some (.long (im4 f w)) ∧ h0 = h'
abbrev R_image4 : Room := { frames := 0, cells := 0, slots := 0, locals := 0 }
set_option maxRecDepth 65536 in
set_option maxHeartbeats 40000000 in
theorem m_image4 (l : Launch) (Z : State) (a0 : Array Value) (hw : ∀ d ∈ tables_1, d.before a0 Z = true) (a : Addr) (w : Int64) (b : Addr) (f : Nat → Int64) (h0 : Heap) (n0 : Nat) (Z0 : n0 ≤ h0.size) (O_a : Ob_M Z h0 a (.ref b)) (O_b : Longs Z h0 b (tab 1024 f)) : Met l Z (⟨"com/example/parley/parley/LinearMap", "image", "(J)J"⟩ : MethodName) prog_16_method_3_code 6 (some .long) R_image4 #[(.ref a), (.long w)] h0 n0 (Q_image4 Z h0 a w b f) := by
  refine Met.of (plainFor_of_name pn0) (fun m => ef4 m a w) ?_
  intro p e s m args below meth c C
  refine G.aloadN C d4_0 rfl rfl (n := 1) rfl ?_
  refine G.getfield C (host := "") (Or.inl (wd hw 18 rfl)) Via.refl (O_a.2) d4_1 (n := 4) rfl ?_
  refine G.astoreN C d4_4 rfl (l' := #[.val (.ref a), .val (.long w), .second, .val (.ref b), .unset, .unset]) rfl (n := 5) rfl ?_
  refine G.aloadN C d4_5 rfl rfl (n := 6) rfl ?_
  refine G.lloadN C d4_6 rfl (n := 7) rfl ?_
  refine G.l2i C d4_7 (n := 8) rfl ?_
  refine G.sipush C (v := (255 : Int32)) d4_8 (by decide) (n := 11) rfl ?_
  refine G.iand C d4_11 (n := 12) rfl ?_
  refine G.laload C (x := (f (256 * 0 + by_ w 0))) O_b (nn_n (ix_0 w)) (at_n (ix_0 w) (by have := by_lt w 0; omega)) d4_12 (n := 13) rfl ?_
  refine G.aloadN C d4_13 rfl rfl (n := 14) rfl ?_
  refine G.sipush C (v := (256 : Int32)) d4_14 (by decide) (n := 17) rfl ?_
  refine G.lloadN C d4_17 rfl (n := 18) rfl ?_
  refine G.bipush C (v := (8 : Int32)) d4_18 (by decide) (n := 20) rfl ?_
  refine G.lushr C d4_20 (n := 21) rfl ?_
  refine G.l2i C d4_21 (n := 22) rfl ?_
  refine G.sipush C (v := (255 : Int32)) d4_22 (by decide) (n := 25) rfl ?_
  refine G.iand C d4_25 (n := 26) rfl ?_
  refine G.ior C d4_26 (n := 27) rfl ?_
  refine G.laload C (x := (f (256 * 1 + by_ w 1))) O_b (nn_n (ix_1 w)) (at_n (ix_1 w) (by have := by_lt w 1; omega)) d4_27 (n := 28) rfl ?_
  refine G.lxor C d4_28 (n := 29) rfl ?_
  refine G.aloadN C d4_29 rfl rfl (n := 30) rfl ?_
  refine G.sipush C (v := (512 : Int32)) d4_30 (by decide) (n := 33) rfl ?_
  refine G.lloadN C d4_33 rfl (n := 34) rfl ?_
  refine G.bipush C (v := (16 : Int32)) d4_34 (by decide) (n := 36) rfl ?_
  refine G.lushr C d4_36 (n := 37) rfl ?_
  refine G.l2i C d4_37 (n := 38) rfl ?_
  refine G.sipush C (v := (255 : Int32)) d4_38 (by decide) (n := 41) rfl ?_
  refine G.iand C d4_41 (n := 42) rfl ?_
  refine G.ior C d4_42 (n := 43) rfl ?_
  refine G.laload C (x := (f (256 * 2 + by_ w 2))) O_b (nn_n (ix_2 w)) (at_n (ix_2 w) (by have := by_lt w 2; omega)) d4_43 (n := 44) rfl ?_
  refine G.lxor C d4_44 (n := 45) rfl ?_
  refine G.aloadN C d4_45 rfl rfl (n := 46) rfl ?_
  refine G.sipush C (v := (768 : Int32)) d4_46 (by decide) (n := 49) rfl ?_
  refine G.lloadN C d4_49 rfl (n := 50) rfl ?_
  refine G.bipush C (v := (24 : Int32)) d4_50 (by decide) (n := 52) rfl ?_
  refine G.lushr C d4_52 (n := 53) rfl ?_
  refine G.l2i C d4_53 (n := 54) rfl ?_
  refine G.sipush C (v := (255 : Int32)) d4_54 (by decide) (n := 57) rfl ?_
  refine G.iand C d4_57 (n := 58) rfl ?_
  refine G.ior C d4_58 (n := 59) rfl ?_
  refine G.laload C (x := (f (256 * 3 + by_ w 3))) O_b (nn_n (ix_3 w)) (at_n (ix_3 w) (by have := by_lt w 3; omega)) d4_59 (n := 60) rfl ?_
  refine G.lxor C d4_60 (n := 61) rfl ?_
  refine G.lstore C d4_61 (l' := #[.val (.ref a), .val (.long w), .second, .val (.ref b), .val (.long ((((f (256 * 0 + by_ w 0)) ^^^ (f (256 * 1 + by_ w 1))) ^^^ (f (256 * 2 + by_ w 2))) ^^^ (f (256 * 3 + by_ w 3)))), .second]) rfl (n := 63) rfl ?_
  refine G.aloadN C d4_63 rfl rfl (n := 64) rfl ?_
  refine G.arraylengthL C (len := (1024 : Int32)) O_b (by rw [tab_len]; rfl) d4_64 (n := 65) rfl ?_
  refine G.sipush C (v := (1024 : Int32)) d4_65 (by decide) (n := 68) rfl ?_
  refine G.icmp_le C (A := 1024) (B := 1024) (by decide) (by decide) d4_68 (by decide) (by decide) (n := 71) (n' := 135) rfl (fun c68_1 => ?_) (fun c68_1 => ?_)
  rotate_left
  · exact absurd c68_1 (by decide)
  refine G.lload C d4_135 rfl (n := 137) rfl ?_
  refine G.lreturn C d4_137 (by decide) (by decide) ?_
  exact ⟨rfl, rfl⟩
theorem ef5 (m : MethodId) (a : Addr) (w : Int64) : entryFrame m #[(.ref a), (.long w)] 6 = mkF m 0 #[.val (.ref a), .val (.long w), .second, .unset, .unset, .unset] [] := by first | (simp [entryFrame, mkF, argsToLocals, Value.category]; done) | rfl
abbrev Q_image8 (Z : State) (h0 : Heap) (a : Addr) (w : Int64) (b : Addr) (f : Nat → Int64) : Option Value → Heap → Prop := fun v h' => v = some (.long (im8 f w)) ∧ h0 = h'
abbrev R_image8 : Room := { frames := 0, cells := 0, slots := 0, locals := 0 }
set_option maxRecDepth 65536 in
set_option maxHeartbeats 40000000 in
theorem m_image8 (l : Launch) (Z : State) (a0 : Array Value) (hw : ∀ d ∈ tables_1, d.before a0 Z = true) (a : Addr) (w : Int64) (b : Addr) (f : Nat → Int64) (h0 : Heap) (n0 : Nat) (Z0 : n0 ≤ h0.size) (O_a : Ob_M Z h0 a (.ref b)) (O_b : Longs Z h0 b (tab 2048 f)) : Met l Z (⟨"com/example/parley/parley/LinearMap", "image", "(J)J"⟩ : MethodName) prog_16_method_3_code 6 (some .long) R_image8 #[(.ref a), (.long w)] h0 n0 (Q_image8 Z h0 a w b f) := by
  refine Met.of (plainFor_of_name pn0) (fun m => ef5 m a w) ?_
  intro p e s m args below meth c C
  refine G.aloadN C d4_0 rfl rfl (n := 1) rfl ?_
  refine G.getfield C (host := "") (Or.inl (wd hw 18 rfl)) Via.refl (O_a.2) d4_1 (n := 4) rfl ?_
  refine G.astoreN C d4_4 rfl (l' := #[.val (.ref a), .val (.long w), .second, .val (.ref b), .unset, .unset]) rfl (n := 5) rfl ?_
  refine G.aloadN C d4_5 rfl rfl (n := 6) rfl ?_
  refine G.lloadN C d4_6 rfl (n := 7) rfl ?_
  refine G.l2i C d4_7 (n := 8) rfl ?_
  refine G.sipush C (v := (255 : Int32)) d4_8 (by decide) (n := 11) rfl ?_
  refine G.iand C d4_11 (n := 12) rfl ?_
  refine G.laload C (x := (f (256 * 0 + by_ w 0))) O_b (nn_n (ix_0 w)) (at_n (ix_0 w) (by have := by_lt w 0; omega)) d4_12 (n := 13) rfl ?_
  refine G.aloadN C d4_13 rfl rfl (n := 14) rfl ?_
  refine G.sipush C (v := (256 : Int32)) d4_14 (by decide) (n := 17) rfl ?_
  refine G.lloadN C d4_17 rfl (n := 18) rfl ?_
  refine G.bipush C (v := (8 : Int32)) d4_18 (by decide) (n := 20) rfl ?_
  refine G.lushr C d4_20 (n := 21) rfl ?_
  refine G.l2i C d4_21 (n := 22) rfl ?_
  refine G.sipush C (v := (255 : Int32)) d4_22 (by decide) (n := 25) rfl ?_
  refine G.iand C d4_25 (n := 26) rfl ?_
  refine G.ior C d4_26 (n := 27) rfl ?_
  refine G.laload C (x := (f (256 * 1 + by_ w 1))) O_b (nn_n (ix_1 w)) (at_n (ix_1 w) (by have := by_lt w 1; omega)) d4_27 (n := 28) rfl ?_
  refine G.lxor C d4_28 (n := 29) rfl ?_
  refine G.aloadN C d4_29 rfl rfl (n := 30) rfl ?_
  refine G.sipush C (v := (512 : Int32)) d4_30 (by decide) (n := 33) rfl ?_
  refine G.lloadN C d4_33 rfl (n := 34) rfl ?_
  refine G.bipush C (v := (16 : Int32)) d4_34 (by decide) (n := 36) rfl ?_
  refine G.lushr C d4_36 (n := 37) rfl ?_
  refine G.l2i C d4_37 (n := 38) rfl ?_
  refine G.sipush C (v := (255 : Int32)) d4_38 (by decide) (n := 41) rfl ?_
  refine G.iand C d4_41 (n := 42) rfl ?_
  refine G.ior C d4_42 (n := 43) rfl ?_
  refine G.laload C (x := (f (256 * 2 + by_ w 2))) O_b (nn_n (ix_2 w)) (at_n (ix_2 w) (by have := by_lt w 2; omega)) d4_43 (n := 44) rfl ?_
  refine G.lxor C d4_44 (n := 45) rfl ?_
  refine G.aloadN C d4_45 rfl rfl (n := 46) rfl ?_
  refine G.sipush C (v := (768 : Int32)) d4_46 (by decide) (n := 49) rfl ?_
  refine G.lloadN C d4_49 rfl (n := 50) rfl ?_
  refine G.bipush C (v := (24 : Int32)) d4_50 (by decide) (n := 52) rfl ?_
  refine G.lushr C d4_52 (n := 53) rfl ?_
  refine G.l2i C d4_53 (n := 54) rfl ?_
  refine G.sipush C (v := (255 : Int32)) d4_54 (by decide) (n := 57) rfl ?_
  refine G.iand C d4_57 (n := 58) rfl ?_
  refine G.ior C d4_58 (n := 59) rfl ?_
  refine G.laload C (x := (f (256 * 3 + by_ w 3))) O_b (nn_n (ix_3 w)) (at_n (ix_3 w) (by have := by_lt w 3; omega)) d4_59 (n := 60) rfl ?_
  refine G.lxor C d4_60 (n := 61) rfl ?_
  refine G.lstore C d4_61 (l' := #[.val (.ref a), .val (.long w), .second, .val (.ref b), .val (.long ((((f (256 * 0 + by_ w 0)) ^^^ (f (256 * 1 + by_ w 1))) ^^^ (f (256 * 2 + by_ w 2))) ^^^ (f (256 * 3 + by_ w 3)))), .second]) rfl (n := 63) rfl ?_
  refine G.aloadN C d4_63 rfl rfl (n := 64) rfl ?_
  refine G.arraylengthL C (len := (2048 : Int32)) O_b (by rw [tab_len]; rfl) d4_64 (n := 65) rfl ?_
  refine G.sipush C (v := (1024 : Int32)) d4_65 (by decide) (n := 68) rfl ?_
  refine G.icmp_le C (A := 2048) (B := 1024) (by decide) (by decide) d4_68 (by decide) (by decide) (n := 71) (n' := 135) rfl (fun c68_1 => ?_) (fun c68_1 => ?_)
  · exact absurd c68_1 (by decide)
  refine G.lload C d4_71 rfl (n := 73) rfl ?_
  refine G.aloadN C d4_73 rfl rfl (n := 74) rfl ?_
  refine G.sipush C (v := (1024 : Int32)) d4_74 (by decide) (n := 77) rfl ?_
  refine G.lloadN C d4_77 rfl (n := 78) rfl ?_
  refine G.bipush C (v := (32 : Int32)) d4_78 (by decide) (n := 80) rfl ?_
  refine G.lushr C d4_80 (n := 81) rfl ?_
  refine G.l2i C d4_81 (n := 82) rfl ?_
  refine G.sipush C (v := (255 : Int32)) d4_82 (by decide) (n := 85) rfl ?_
  refine G.iand C d4_85 (n := 86) rfl ?_
  refine G.ior C d4_86 (n := 87) rfl ?_
  refine G.laload C (x := (f (256 * 4 + by_ w 4))) O_b (nn_n (ix_4 w)) (at_n (ix_4 w) (by have := by_lt w 4; omega)) d4_87 (n := 88) rfl ?_
  refine G.aloadN C d4_88 rfl rfl (n := 89) rfl ?_
  refine G.sipush C (v := (1280 : Int32)) d4_89 (by decide) (n := 92) rfl ?_
  refine G.lloadN C d4_92 rfl (n := 93) rfl ?_
  refine G.bipush C (v := (40 : Int32)) d4_93 (by decide) (n := 95) rfl ?_
  refine G.lushr C d4_95 (n := 96) rfl ?_
  refine G.l2i C d4_96 (n := 97) rfl ?_
  refine G.sipush C (v := (255 : Int32)) d4_97 (by decide) (n := 100) rfl ?_
  refine G.iand C d4_100 (n := 101) rfl ?_
  refine G.ior C d4_101 (n := 102) rfl ?_
  refine G.laload C (x := (f (256 * 5 + by_ w 5))) O_b (nn_n (ix_5 w)) (at_n (ix_5 w) (by have := by_lt w 5; omega)) d4_102 (n := 103) rfl ?_
  refine G.lxor C d4_103 (n := 104) rfl ?_
  refine G.aloadN C d4_104 rfl rfl (n := 105) rfl ?_
  refine G.sipush C (v := (1536 : Int32)) d4_105 (by decide) (n := 108) rfl ?_
  refine G.lloadN C d4_108 rfl (n := 109) rfl ?_
  refine G.bipush C (v := (48 : Int32)) d4_109 (by decide) (n := 111) rfl ?_
  refine G.lushr C d4_111 (n := 112) rfl ?_
  refine G.l2i C d4_112 (n := 113) rfl ?_
  refine G.sipush C (v := (255 : Int32)) d4_113 (by decide) (n := 116) rfl ?_
  refine G.iand C d4_116 (n := 117) rfl ?_
  refine G.ior C d4_117 (n := 118) rfl ?_
  refine G.laload C (x := (f (256 * 6 + by_ w 6))) O_b (nn_n (ix_6 w)) (at_n (ix_6 w) (by have := by_lt w 6; omega)) d4_118 (n := 119) rfl ?_
  refine G.lxor C d4_119 (n := 120) rfl ?_
  refine G.aloadN C d4_120 rfl rfl (n := 121) rfl ?_
  refine G.sipush C (v := (1792 : Int32)) d4_121 (by decide) (n := 124) rfl ?_
  refine G.lloadN C d4_124 rfl (n := 125) rfl ?_
  refine G.bipush C (v := (56 : Int32)) d4_125 (by decide) (n := 127) rfl ?_
  refine G.lushr C d4_127 (n := 128) rfl ?_
  refine G.l2i C d4_128 (n := 129) rfl ?_
  refine G.ior C d4_129 (n := 130) rfl ?_
  refine G.laload C (x := (f (256 * 7 + by_ w 7))) O_b (nn_n (ix_7 w)) (at_n (ix_7 w) (by have := by_lt w 7; omega)) d4_130 (n := 131) rfl ?_
  refine G.lxor C d4_131 (n := 132) rfl ?_
  refine G.lxor C d4_132 (n := 133) rfl ?_
  refine G.lstore C d4_133 (l' := #[.val (.ref a), .val (.long w), .second, .val (.ref b), .val (.long (((((f (256 * 0 + by_ w 0)) ^^^ (f (256 * 1 + by_ w 1))) ^^^ (f (256 * 2 + by_ w 2))) ^^^ (f (256 * 3 + by_ w 3))) ^^^ ((((f (256 * 4 + by_ w 4)) ^^^ (f (256 * 5 + by_ w 5))) ^^^ (f (256 * 6 + by_ w 6))) ^^^ (f (256 * 7 + by_ w 7))))), .second]) rfl (n := 135) rfl ?_
  refine G.lload C d4_135 rfl (n := 137) rfl ?_
  refine G.lreturn C d4_137 (by decide) (by decide) ?_
  exact ⟨rfl, rfl⟩
theorem kf4 {j r k : Int32} (hj : j.toInt = j.toInt % 4) (hr : 0 ≤ r.toInt) (hk : k = ((j + (1 : Int32)) + (r % (3 : Int32))) % (4 : Int32)) : 0 ≤ k.toInt ∧ k.toInt < 4 ∧ k.toInt ≠ j.toInt := by
  have q1 := (c_irem r 3 3 (by decide)).1 hr
  have q2 := c_iadd j 1
  have q3 := rng32 (j + 1)
  have q4 := c_iadd (j + 1) (r % (3 : Int32))
  have q5 := rng32 ((j + 1) + (r % (3 : Int32)))
  rw [show (1 : Int32).toInt = 1 from rfl] at q2
  have q6 := (c_irem ((j + (1 : Int32)) + (r % (3 : Int32))) 4 4 (by decide)).1 (by omega)
  rw [← hk] at q6
  omega
theorem fin4 {J K : Nat} (hJ : J < 4) (hK : K < 4) (hKJ : K ≠ J) {w x0 x1 x2 x3 x4 x5 x6 x7 c z0 z1 z2 z3 z4 z5 z6 z7 z8 z9 : Int64} (h0 : z1 = z0 ^^^ bx1 (by_ w J) 0 x0) (h1 : z2 = z1 ^^^ bx1 (by_ w J) 1 x1) (h2 : z3 = z2 ^^^ bx1 (by_ w J) 2 x2) (h3 : z4 = z3 ^^^ bx1 (by_ w J) 3 x3) (h4 : z5 = z4 ^^^ bx1 (by_ w J) 4 x4) (h5 : z6 = z5 ^^^ bx1 (by_ w J) 5 x5) (h6 : z7 = z6 ^^^ bx1 (by_ w J) 6 x6) (h7 : z8 = z7 ^^^ bx1 (by_ w J) 7 x7) (h8 : z9 = z8 ^^^ bx1 (by_ w K) 7 c) (h00 : z0 = 0) : im4 (fin9 J K x0 x1 x2 x3 x4 x5 x6 x7 c) w = z9 := by
  unfold im4
  rw [fin9_at (by_lt w 0) hKJ, fin9_at (by_lt w 1) hKJ, fin9_at (by_lt w 2) hKJ, fin9_at (by_lt w 3) hKJ]
  rw [xs4 (P := fun b => X8 (by_ w b) x0 x1 x2 x3 x4 x5 x6 x7) (Q := fun b => bx1 (by_ w b) 7 c) hJ hK hKJ]
  rw [h8, h7, h6, h5, h4, h3, h2, h1, h0, h00]
  unfold X8
  simp only [Int64.xor_zero, Int64.zero_xor]
  ac_rfl
theorem kf8 {j r k : Int32} (hj : j.toInt = j.toInt % 8) (hr : 0 ≤ r.toInt) (hk : k = ((j + (1 : Int32)) + (r % (7 : Int32))) % (8 : Int32)) : 0 ≤ k.toInt ∧ k.toInt < 8 ∧ k.toInt ≠ j.toInt := by
  have q1 := (c_irem r 7 7 (by decide)).1 hr
  have q2 := c_iadd j 1
  have q3 := rng32 (j + 1)
  have q4 := c_iadd (j + 1) (r % (7 : Int32))
  have q5 := rng32 ((j + 1) + (r % (7 : Int32)))
  rw [show (1 : Int32).toInt = 1 from rfl] at q2
  have q6 := (c_irem ((j + (1 : Int32)) + (r % (7 : Int32))) 8 8 (by decide)).1 (by omega)
  rw [← hk] at q6
  omega
theorem fin8 {J K : Nat} (hJ : J < 8) (hK : K < 8) (hKJ : K ≠ J) {w x0 x1 x2 x3 x4 x5 x6 x7 c z0 z1 z2 z3 z4 z5 z6 z7 z8 z9 : Int64} (h0 : z1 = z0 ^^^ bx1 (by_ w J) 0 x0) (h1 : z2 = z1 ^^^ bx1 (by_ w J) 1 x1) (h2 : z3 = z2 ^^^ bx1 (by_ w J) 2 x2) (h3 : z4 = z3 ^^^ bx1 (by_ w J) 3 x3) (h4 : z5 = z4 ^^^ bx1 (by_ w J) 4 x4) (h5 : z6 = z5 ^^^ bx1 (by_ w J) 5 x5) (h6 : z7 = z6 ^^^ bx1 (by_ w J) 6 x6) (h7 : z8 = z7 ^^^ bx1 (by_ w J) 7 x7) (h8 : z9 = z8 ^^^ bx1 (by_ w K) 7 c) (h00 : z0 = 0) : im8 (fin9 J K x0 x1 x2 x3 x4 x5 x6 x7 c) w = z9 := by
  unfold im8 im4
  rw [fin9_at (by_lt w 0) hKJ, fin9_at (by_lt w 1) hKJ, fin9_at (by_lt w 2) hKJ, fin9_at (by_lt w 3) hKJ, fin9_at (by_lt w 4) hKJ, fin9_at (by_lt w 5) hKJ, fin9_at (by_lt w 6) hKJ, fin9_at (by_lt w 7) hKJ]
  rw [xs8 (P := fun b => X8 (by_ w b) x0 x1 x2 x3 x4 x5 x6 x7) (Q := fun b => bx1 (by_ w b) 7 c) hJ hK hKJ]
  rw [h8, h7, h6, h5, h4, h3, h2, h1, h0, h00]
  unfold X8
  simp only [Int64.xor_zero, Int64.zero_xor]
  ac_rfl
theorem jn9 {w c z z' : Int64} {ct : Int32} {K : Nat} (hK : K < 8) (hc : ct.toInt = 8 * K + 7) (h : ((shu w ct &&& (1 : Int64) = (0 : Int64)) ∧ ((shu w ct &&& (1 : Int64)).toInt = 0) ∧ z' = z) ∨ ((shu w ct &&& (1 : Int64) ≠ (0 : Int64)) ∧ ((shu w ct &&& (1 : Int64)).toInt ≠ 0) ∧ z' = (z ^^^ c))) : z' = z ^^^ bx1 (by_ w K) 7 c := by
  unfold bx1
  rcases h with ⟨h, -, r⟩ | ⟨h, -, r⟩
  · rw [(top_by hK hc).mp h, r]; simp
  · rw [ne_eq, top_by hK hc, Bool.not_eq_false] at h
    rw [h, r]; simp
theorem imul8 {j : Int32} {J : Nat} (hJ : j.toInt = J) (h : J < 8) : ((8 : Int32) * j).toInt = ((8 * J : Nat) : Int) := by
  have q1 := c_imul 8 j
  have q2 := rng32 (8 * j)
  rw [show (8 : Int32).toInt = 8 from rfl] at q1
  omega
theorem pd0 : parseMethodDescriptor "(I)V" = some ⟨[.int], none⟩ := by decide +kernel
theorem pd1 : parseMethodDescriptor "(IJ)V" = some ⟨[.int, .long], none⟩ := by decide +kernel
theorem pd2 : parseMethodDescriptor "(J)J" = some ⟨[.long], some .long⟩ := by decide +kernel
theorem pn1 : plainName "com/example/parley/parley/LinearMapImagePinLaw" = true := by first | (simp [plainName, overriddenIn]; done) | decide +kernel
theorem ef6 (m : MethodId) (i0 : Int32) (i1 : Int64) (i2 : Int64) (i3 : Int64) (i4 : Int64) : entryFrame m #[(.int i0), (.long i1), (.long i2), (.long i3), (.long i4)] 36 = mkF m 0 #[.val (.int i0), .val (.long i1), .second, .val (.long i2), .second, .val (.long i3), .second, .val (.long i4), .second, .unset, .unset, .unset, .unset, .unset, .unset, .unset, .unset, .unset, .unset, .unset, .unset, .unset, .unset, .unset, .unset, .unset, .unset, .unset, .unset, .unset, .unset, .unset, .unset, .unset, .unset, .unset] [] := by first | (simp [entryFrame, mkF, argsToLocals, Value.category]; done) | rfl
abbrev Q_law (Z : State) (h0 : Heap) (i0 : Int32) (i1 : Int64) (i2 : Int64) (i3 : Int64) (i4 : Int64) : Option Value → Heap → Prop := fun v h' => v = some (.int 1)
set_option maxRecDepth 65536 in
set_option maxHeartbeats 40000000 in
theorem m_law (l : Launch) (Z : State) (a0 : Array Value) (hw : ∀ d ∈ tables_1, d.before a0 Z = true) (i0 : Int32) (i1 : Int64) (i2 : Int64) (i3 : Int64) (i4 : Int64) (h0 : Heap) (n0 : Nat) (Z0 : n0 ≤ h0.size)  : Met l Z (⟨"com/example/parley/parley/LinearMapImagePinLaw", "law", "(IJJJJ)Z"⟩ : MethodName) code 36 (some .boolean) room_1 #[(.int i0), (.long i1), (.long i2), (.long i3), (.long i4)] h0 n0 (Q_law Z h0 i0 i1 i2 i3 i4) := by
  refine Met.of (plainFor_of_name pn1) (fun m => ef6 m i0 i1 i2 i3 i4) ?_
  intro p e s m args below meth c C
  refine G.iloadN C at_0 rfl (n := 1) rfl ?_
  refine G.bipush C (v := (8 : Int32)) at_1 (by decide) (n := 3) rfl ?_
  refine G.iand C at_3 (n := 4) rfl ?_
  refine G.if_eq C (A := (i0 &&& (8 : Int32)).toInt) rfl at_4 (by decide) (by decide) (n := 7) (n' := 11) rfl (fun c4_1 c4_1i => ?_) (fun c4_1 c4_1i => ?_)
  · refine G.iconst C (v := (0 : Int32)) at_11 (by decide) (n := 12) rfl ?_
    refine G.istore C at_12 (l' := #[.val (.int i0), .val (.long i1), .second, .val (.long i2), .second, .val (.long i3), .second, .val (.long i4), .second, .val (.int (0 : Int32)), .unset, .unset, .unset, .unset, .unset, .unset, .unset, .unset, .unset, .unset, .unset, .unset, .unset, .unset, .unset, .unset, .unset, .unset, .unset, .unset, .unset, .unset, .unset, .unset, .unset, .unset]) rfl (n := 14) rfl ?_
    refine G.iload C at_14 rfl (n := 16) rfl ?_
    refine G.if_eq C (A := 0) (by decide) at_16 (by decide) (by decide) (n := 19) (n' := 24) rfl (fun c16_2 c16_2i => ?_) (fun c16_2 c16_2i => ?_)
    rotate_left
    · exact absurd c16_2 (by decide)
    refine G.iconst C (v := (4 : Int32)) at_24 (by decide) (n := 25) rfl ?_
    refine G.istore C at_25 (l' := #[.val (.int i0), .val (.long i1), .second, .val (.long i2), .second, .val (.long i3), .second, .val (.long i4), .second, .val (.int (0 : Int32)), .val (.int (4 : Int32)), .unset, .unset, .unset, .unset, .unset, .unset, .unset, .unset, .unset, .unset, .unset, .unset, .unset, .unset, .unset, .unset, .unset, .unset, .unset, .unset, .unset, .unset, .unset, .unset, .unset]) rfl (n := 27) rfl ?_
    refine G.iloadN C at_27 rfl (n := 28) rfl ?_
    refine G.iload C at_28 rfl (n := 30) rfl ?_
    refine G.iconst C (v := (1 : Int32)) at_30 (by decide) (n := 31) rfl ?_
    refine G.isub C at_31 (n := 32) rfl ?_
    refine G.fold_int (z := (3 : Int32)) (by decide) ?_
    refine G.iand C at_32 (n := 33) rfl ?_
    refine G.istoreZ C at_33 (l' := fun z => #[.val (.int i0), .val (.long i1), .second, .val (.long i2), .second, .val (.long i3), .second, .val (.long i4), .second, .val (.int (0 : Int32)), .val (.int (4 : Int32)), .val (.int z), .unset, .unset, .unset, .unset, .unset, .unset, .unset, .unset, .unset, .unset, .unset, .unset, .unset, .unset, .unset, .unset, .unset, .unset, .unset, .unset, .unset, .unset, .unset, .unset]) (fun _ => rfl) (n := 35) rfl ?_
    intro v3 hv3
    refine G.iload C at_35 rfl (n := 37) rfl ?_
    refine G.iconst C (v := (1 : Int32)) at_37 (by decide) (n := 38) rfl ?_
    refine G.iadd C at_38 (n := 39) rfl ?_
    refine G.iloadN C at_39 rfl (n := 40) rfl ?_
    refine G.iconst C (v := (4 : Int32)) at_40 (by decide) (n := 41) rfl ?_
    refine G.iushr C at_41 (n := 42) rfl ?_
    refine G.ldc C (v := (2147483647 : Int32)) (wd hw 0 rfl) at_42 (n := 44) rfl ?_
    refine G.iand C at_44 (n := 45) rfl ?_
    refine G.iload C at_45 rfl (n := 47) rfl ?_
    refine G.iconst C (v := (1 : Int32)) at_47 (by decide) (n := 48) rfl ?_
    refine G.isub C at_48 (n := 49) rfl ?_
    refine G.fold_int (z := (3 : Int32)) (by decide) ?_
    refine G.irem C at_49 (by decide) (n := 50) rfl ?_
    refine G.iadd C at_50 (n := 51) rfl ?_
    refine G.iload C at_51 rfl (n := 53) rfl ?_
    refine G.irem C at_53 (by decide) (n := 54) rfl ?_
    refine G.istoreZ C at_54 (l' := fun z => #[.val (.int i0), .val (.long i1), .second, .val (.long i2), .second, .val (.long i3), .second, .val (.long i4), .second, .val (.int (0 : Int32)), .val (.int (4 : Int32)), .val (.int v3), .val (.int z), .unset, .unset, .unset, .unset, .unset, .unset, .unset, .unset, .unset, .unset, .unset, .unset, .unset, .unset, .unset, .unset, .unset, .unset, .unset, .unset, .unset, .unset, .unset]) (fun _ => rfl) (n := 56) rfl ?_
    intro v4 hv4
    have qj : v3.toInt = i0.toInt % ((2 ^ 2 : Nat) : Int) := by rw [hv3]; exact c_mask i0 3 2 (by decide) (by decide)
    have qk := kf4 (j := v3) (by omega) (c_and ((i0.toUInt32 >>> ((4 : Int32) &&& 31).toUInt32).toInt32) (2147483647 : Int32) (by decide)).1 hv4
    obtain ⟨J, hJ⟩ : ∃ J : Nat, v3.toInt = J := ⟨v3.toInt.toNat, by omega⟩
    obtain ⟨K, hK⟩ : ∃ K : Nat, v4.toInt = K := ⟨v4.toInt.toNat, by omega⟩
    have hJn : J < 4 := by omega
    have hKn : K < 4 := by omega
    have hKJ : K ≠ J := by omega
    clear qj qk
    refine G.lloadN C at_56 rfl (n := 57) rfl ?_
    refine G.lload C at_57 rfl (n := 59) rfl ?_
    refine G.lxor C at_59 (n := 60) rfl ?_
    refine G.lstoreZ C at_60 (l' := fun z => #[.val (.int i0), .val (.long i1), .second, .val (.long i2), .second, .val (.long i3), .second, .val (.long i4), .second, .val (.int (0 : Int32)), .val (.int (4 : Int32)), .val (.int v3), .val (.int v4), .val (.long z), .second, .unset, .unset, .unset, .unset, .unset, .unset, .unset, .unset, .unset, .unset, .unset, .unset, .unset, .unset, .unset, .unset, .unset, .unset, .unset, .unset, .unset]) (fun _ => rfl) (n := 62) rfl ?_
    intro v5 hv5
    refine G.lloadN C at_62 rfl (n := 63) rfl ?_
    refine G.ldc2 C (v := (3 : Int64)) (wd hw 1 rfl) at_63 (n := 66) rfl ?_
    refine G.lmul C at_66 (n := 67) rfl ?_
    refine G.lload C at_67 rfl (n := 69) rfl ?_
    refine G.iconst C (v := (1 : Int32)) at_69 (by decide) (n := 70) rfl ?_
    refine G.lshl C at_70 (n := 71) rfl ?_
    refine G.lxor C at_71 (n := 72) rfl ?_
    refine G.lstoreZ C at_72 (l' := fun z => #[.val (.int i0), .val (.long i1), .second, .val (.long i2), .second, .val (.long i3), .second, .val (.long i4), .second, .val (.int (0 : Int32)), .val (.int (4 : Int32)), .val (.int v3), .val (.int v4), .val (.long v5), .second, .val (.long z), .second, .unset, .unset, .unset, .unset, .unset, .unset, .unset, .unset, .unset, .unset, .unset, .unset, .unset, .unset, .unset, .unset, .unset, .unset, .unset]) (fun _ => rfl) (n := 74) rfl ?_
    intro v6 hv6
    refine G.lloadN C at_74 rfl (n := 75) rfl ?_
    refine G.ldc2 C (v := (5 : Int64)) (wd hw 2 rfl) at_75 (n := 78) rfl ?_
    refine G.lmul C at_78 (n := 79) rfl ?_
    refine G.lload C at_79 rfl (n := 81) rfl ?_
    refine G.iconst C (v := (2 : Int32)) at_81 (by decide) (n := 82) rfl ?_
    refine G.lshl C at_82 (n := 83) rfl ?_
    refine G.lxor C at_83 (n := 84) rfl ?_
    refine G.lstoreZ C at_84 (l' := fun z => #[.val (.int i0), .val (.long i1), .second, .val (.long i2), .second, .val (.long i3), .second, .val (.long i4), .second, .val (.int (0 : Int32)), .val (.int (4 : Int32)), .val (.int v3), .val (.int v4), .val (.long v5), .second, .val (.long v6), .second, .val (.long z), .second, .unset, .unset, .unset, .unset, .unset, .unset, .unset, .unset, .unset, .unset, .unset, .unset, .unset, .unset, .unset, .unset, .unset]) (fun _ => rfl) (n := 86) rfl ?_
    intro v7 hv7
    refine G.lloadN C at_86 rfl (n := 87) rfl ?_
    refine G.ldc2 C (v := (7 : Int64)) (wd hw 3 rfl) at_87 (n := 90) rfl ?_
    refine G.lmul C at_90 (n := 91) rfl ?_
    refine G.lload C at_91 rfl (n := 93) rfl ?_
    refine G.iconst C (v := (3 : Int32)) at_93 (by decide) (n := 94) rfl ?_
    refine G.lshl C at_94 (n := 95) rfl ?_
    refine G.lxor C at_95 (n := 96) rfl ?_
    refine G.lstoreZ C at_96 (l' := fun z => #[.val (.int i0), .val (.long i1), .second, .val (.long i2), .second, .val (.long i3), .second, .val (.long i4), .second, .val (.int (0 : Int32)), .val (.int (4 : Int32)), .val (.int v3), .val (.int v4), .val (.long v5), .second, .val (.long v6), .second, .val (.long v7), .second, .val (.long z), .second, .unset, .unset, .unset, .unset, .unset, .unset, .unset, .unset, .unset, .unset, .unset, .unset, .unset, .unset, .unset]) (fun _ => rfl) (n := 98) rfl ?_
    intro v8 hv8
    refine G.lloadN C at_98 rfl (n := 99) rfl ?_
    refine G.ldc2 C (v := (9 : Int64)) (wd hw 4 rfl) at_99 (n := 102) rfl ?_
    refine G.lmul C at_102 (n := 103) rfl ?_
    refine G.lload C at_103 rfl (n := 105) rfl ?_
    refine G.iconst C (v := (4 : Int32)) at_105 (by decide) (n := 106) rfl ?_
    refine G.lshl C at_106 (n := 107) rfl ?_
    refine G.lxor C at_107 (n := 108) rfl ?_
    refine G.lstoreZ C at_108 (l' := fun z => #[.val (.int i0), .val (.long i1), .second, .val (.long i2), .second, .val (.long i3), .second, .val (.long i4), .second, .val (.int (0 : Int32)), .val (.int (4 : Int32)), .val (.int v3), .val (.int v4), .val (.long v5), .second, .val (.long v6), .second, .val (.long v7), .second, .val (.long v8), .second, .val (.long z), .second, .unset, .unset, .unset, .unset, .unset, .unset, .unset, .unset, .unset, .unset, .unset, .unset, .unset]) (fun _ => rfl) (n := 110) rfl ?_
    intro v9 hv9
    refine G.lloadN C at_110 rfl (n := 111) rfl ?_
    refine G.ldc2 C (v := (11 : Int64)) (wd hw 5 rfl) at_111 (n := 114) rfl ?_
    refine G.lmul C at_114 (n := 115) rfl ?_
    refine G.lload C at_115 rfl (n := 117) rfl ?_
    refine G.iconst C (v := (5 : Int32)) at_117 (by decide) (n := 118) rfl ?_
    refine G.lshl C at_118 (n := 119) rfl ?_
    refine G.lxor C at_119 (n := 120) rfl ?_
    refine G.lstoreZ C at_120 (l' := fun z => #[.val (.int i0), .val (.long i1), .second, .val (.long i2), .second, .val (.long i3), .second, .val (.long i4), .second, .val (.int (0 : Int32)), .val (.int (4 : Int32)), .val (.int v3), .val (.int v4), .val (.long v5), .second, .val (.long v6), .second, .val (.long v7), .second, .val (.long v8), .second, .val (.long v9), .second, .val (.long z), .second, .unset, .unset, .unset, .unset, .unset, .unset, .unset, .unset, .unset, .unset, .unset]) (fun _ => rfl) (n := 122) rfl ?_
    intro v10 hv10
    refine G.lloadN C at_122 rfl (n := 123) rfl ?_
    refine G.ldc2 C (v := (13 : Int64)) (wd hw 6 rfl) at_123 (n := 126) rfl ?_
    refine G.lmul C at_126 (n := 127) rfl ?_
    refine G.lload C at_127 rfl (n := 129) rfl ?_
    refine G.bipush C (v := (6 : Int32)) at_129 (by decide) (n := 131) rfl ?_
    refine G.lshl C at_131 (n := 132) rfl ?_
    refine G.lxor C at_132 (n := 133) rfl ?_
    refine G.lstoreZ C at_133 (l' := fun z => #[.val (.int i0), .val (.long i1), .second, .val (.long i2), .second, .val (.long i3), .second, .val (.long i4), .second, .val (.int (0 : Int32)), .val (.int (4 : Int32)), .val (.int v3), .val (.int v4), .val (.long v5), .second, .val (.long v6), .second, .val (.long v7), .second, .val (.long v8), .second, .val (.long v9), .second, .val (.long v10), .second, .val (.long z), .second, .unset, .unset, .unset, .unset, .unset, .unset, .unset, .unset, .unset]) (fun _ => rfl) (n := 135) rfl ?_
    intro v11 hv11
    refine G.lloadN C at_135 rfl (n := 136) rfl ?_
    refine G.ldc2 C (v := (15 : Int64)) (wd hw 7 rfl) at_136 (n := 139) rfl ?_
    refine G.lmul C at_139 (n := 140) rfl ?_
    refine G.lload C at_140 rfl (n := 142) rfl ?_
    refine G.bipush C (v := (7 : Int32)) at_142 (by decide) (n := 144) rfl ?_
    refine G.lshl C at_144 (n := 145) rfl ?_
    refine G.lxor C at_145 (n := 146) rfl ?_
    refine G.lstoreZ C at_146 (l' := fun z => #[.val (.int i0), .val (.long i1), .second, .val (.long i2), .second, .val (.long i3), .second, .val (.long i4), .second, .val (.int (0 : Int32)), .val (.int (4 : Int32)), .val (.int v3), .val (.int v4), .val (.long v5), .second, .val (.long v6), .second, .val (.long v7), .second, .val (.long v8), .second, .val (.long v9), .second, .val (.long v10), .second, .val (.long v11), .second, .val (.long z), .second, .unset, .unset, .unset, .unset, .unset, .unset, .unset]) (fun _ => rfl) (n := 148) rfl ?_
    intro v12 hv12
    refine G.new C (wd hw 8 rfl) (wd hw 9 rfl) (wd hw 10 rfl) at_148 (n := 151) rfl (c' := 1) (s' := 1) rfl rfl (by decide) (by decide) ?_
    intro h13 b14 q15 E16 A17 D18
    have g19 : n0 ≤ b14 := Nat.le_trans Z0 (Nat.le_of_eq q15.symm)
    have O20 := Ob_M.new hw A17 D18
    have K21 := kext E16
    have Z22 : n0 ≤ h13.size := Nat.le_trans Z0 K21.1
    refine G.dup C at_151 rfl (n := 152) rfl ?_
    refine G.iload C at_152 rfl (n := 154) rfl ?_
    refine G.if_eq C (A := 0) (by decide) at_154 (by decide) (by decide) (n := 157) (n' := 162) rfl (fun c154_23 c154_23i => ?_) (fun c154_23 c154_23i => ?_)
    rotate_left
    · exact absurd c154_23 (by decide)
    refine G.bipush C (v := (32 : Int32)) at_162 (by decide) (n := 164) rfl ?_
    refine G.callC C (argsL := [(.int (32 : Int32))]) (yc := (⟨"com/example/parley/parley/LinearMap", "<init>", "(I)V"⟩ : MethodName)) (a := b14) rfl (wd hw 11 rfl) (wd hw 12 rfl) (wd hw 10 rfl) (wd hw 13 rfl) (by decide) (m_init4 l Z a0 hw b14 h13 n0 Z22 O20 g19) rfl (by decide) (W := 1) rfl (by decide) (c' := 2) (s' := 1025) rfl rfl (by decide) (by decide) at_164 (n := 167) rfl pd0 rfl rfl ?_
    rintro _ h30 ⟨rfl, K24, b25, f26, O27, O28⟩
    have ne31 : b14 ≠ b25 := Nat.ne_of_lt (Nat.lt_of_lt_of_le O20.lt f26)
    have g32 : n0 ≤ b25 := Nat.le_trans Z22 f26
    have Z33 : n0 ≤ h30.size := Nat.le_trans Z22 K24.1
    refine G.astore C at_167 rfl (l' := #[.val (.int i0), .val (.long i1), .second, .val (.long i2), .second, .val (.long i3), .second, .val (.long i4), .second, .val (.int (0 : Int32)), .val (.int (4 : Int32)), .val (.int v3), .val (.int v4), .val (.long v5), .second, .val (.long v6), .second, .val (.long v7), .second, .val (.long v8), .second, .val (.long v9), .second, .val (.long v10), .second, .val (.long v11), .second, .val (.long v12), .second, .val (.ref b14), .unset, .unset, .unset, .unset, .unset, .unset]) rfl (n := 169) rfl ?_
    refine G.bipush C (v := (8 : Int32)) at_169 (by decide) (n := 171) rfl ?_
    refine G.iload C at_171 rfl (n := 173) rfl ?_
    refine G.imul C at_173 (n := 174) rfl ?_
    refine G.istoreZ C at_174 (l' := fun z => #[.val (.int i0), .val (.long i1), .second, .val (.long i2), .second, .val (.long i3), .second, .val (.long i4), .second, .val (.int (0 : Int32)), .val (.int (4 : Int32)), .val (.int v3), .val (.int v4), .val (.long v5), .second, .val (.long v6), .second, .val (.long v7), .second, .val (.long v8), .second, .val (.long v9), .second, .val (.long v10), .second, .val (.long v11), .second, .val (.long v12), .second, .val (.ref b14), .val (.int z), .unset, .unset, .unset, .unset, .unset]) (fun _ => rfl) (n := 176) rfl ?_
    intro v34 hv34
    have hbase : v34.toInt = ((8 * J : Nat) : Int) := by rw [hv34]; exact imul8 hJ (by omega)
    have hk8 : ((8 : Int32) * v4).toInt = ((8 * K : Nat) : Int) := imul8 hK (by omega)
    refine G.aload C at_176 rfl rfl (n := 178) rfl ?_
    refine G.iload C at_178 rfl (n := 180) rfl ?_
    refine G.lload C at_180 rfl (n := 182) rfl ?_
    refine G.callV C (argsL := [(.int v34), (.long v5)]) (yr := (⟨"com/example/parley/parley/LinearMap", "set", "(IJ)V"⟩ : MethodName)) (yc := (⟨"com/example/parley/parley/LinearMap", "set", "(IJ)V"⟩ : MethodName)) (a := b14) (O27.1) (wd hw 20 rfl) (wd hw 21 rfl) (nfS (wd hw 23 rfl) rfl) (wd hw 23 rfl) (wd hw 22 rfl) (wd hw 10 rfl) (wd hw 24 rfl) (by decide) (m_set l Z a0 hw b14 v34 v5 b25 1024 (fun _ => 0) J 0 1 h30 n0 Z33 O27 O28 ne31 g32 (hbase.trans (by omega)) (by decide) (by decide) (by decide) (by omega) (by decide)) rfl (by decide) (W := 0) rfl (by decide) (c' := 2) (s' := 1025) rfl rfl (by decide) (by decide) at_182 (n := 185) rfl pd1 rfl rfl ?_
    rintro _ h38 ⟨rfl, K35, O36⟩
    have O39 := O27.keep K35 (ninS ne31 nin0)
    have Z40 : n0 ≤ h38.size := Nat.le_trans Z33 K35.1
    refine G.aload C at_185 rfl rfl (n := 187) rfl ?_
    refine G.iload C at_187 rfl (n := 189) rfl ?_
    refine G.iconst C (v := (1 : Int32)) at_189 (by decide) (n := 190) rfl ?_
    refine G.iadd C at_190 (n := 191) rfl ?_
    refine G.lload C at_191 rfl (n := 193) rfl ?_
    refine G.callV C (argsL := [(.int (v34 + (1 : Int32))), (.long v6)]) (yr := (⟨"com/example/parley/parley/LinearMap", "set", "(IJ)V"⟩ : MethodName)) (yc := (⟨"com/example/parley/parley/LinearMap", "set", "(IJ)V"⟩ : MethodName)) (a := b14) (O39.1) (wd hw 20 rfl) (wd hw 21 rfl) (nfS (wd hw 23 rfl) rfl) (wd hw 23 rfl) (wd hw 22 rfl) (wd hw 10 rfl) (wd hw 24 rfl) (by decide) (m_set l Z a0 hw b14 (v34 + (1 : Int32)) v6 b25 1024 (setf J 0 v5 (fun _ => 0)) J 1 2 h38 n0 Z40 O39 O36 ne31 g32 ((iadd_n hbase (B := 1) rfl (by omega)).trans (by omega)) (by decide) (by decide) (by decide) (by omega) (by decide)) rfl (by decide) (W := 0) rfl (by decide) (c' := 2) (s' := 1025) rfl rfl (by decide) (by decide) at_193 (n := 196) rfl pd1 rfl rfl ?_
    rintro _ h44 ⟨rfl, K41, O42⟩
    have O45 := O39.keep K41 (ninS ne31 nin0)
    have Z46 : n0 ≤ h44.size := Nat.le_trans Z40 K41.1
    refine G.aload C at_196 rfl rfl (n := 198) rfl ?_
    refine G.iload C at_198 rfl (n := 200) rfl ?_
    refine G.iconst C (v := (2 : Int32)) at_200 (by decide) (n := 201) rfl ?_
    refine G.iadd C at_201 (n := 202) rfl ?_
    refine G.lload C at_202 rfl (n := 204) rfl ?_
    refine G.callV C (argsL := [(.int (v34 + (2 : Int32))), (.long v7)]) (yr := (⟨"com/example/parley/parley/LinearMap", "set", "(IJ)V"⟩ : MethodName)) (yc := (⟨"com/example/parley/parley/LinearMap", "set", "(IJ)V"⟩ : MethodName)) (a := b14) (O45.1) (wd hw 20 rfl) (wd hw 21 rfl) (nfS (wd hw 23 rfl) rfl) (wd hw 23 rfl) (wd hw 22 rfl) (wd hw 10 rfl) (wd hw 24 rfl) (by decide) (m_set l Z a0 hw b14 (v34 + (2 : Int32)) v7 b25 1024 (setf J 1 v6 (setf J 0 v5 (fun _ => 0))) J 2 4 h44 n0 Z46 O45 O42 ne31 g32 ((iadd_n hbase (B := 2) rfl (by omega)).trans (by omega)) (by decide) (by decide) (by decide) (by omega) (by decide)) rfl (by decide) (W := 0) rfl (by decide) (c' := 2) (s' := 1025) rfl rfl (by decide) (by decide) at_204 (n := 207) rfl pd1 rfl rfl ?_
    rintro _ h50 ⟨rfl, K47, O48⟩
    have O51 := O45.keep K47 (ninS ne31 nin0)
    have Z52 : n0 ≤ h50.size := Nat.le_trans Z46 K47.1
    refine G.aload C at_207 rfl rfl (n := 209) rfl ?_
    refine G.iload C at_209 rfl (n := 211) rfl ?_
    refine G.iconst C (v := (3 : Int32)) at_211 (by decide) (n := 212) rfl ?_
    refine G.iadd C at_212 (n := 213) rfl ?_
    refine G.lload C at_213 rfl (n := 215) rfl ?_
    refine G.callV C (argsL := [(.int (v34 + (3 : Int32))), (.long v8)]) (yr := (⟨"com/example/parley/parley/LinearMap", "set", "(IJ)V"⟩ : MethodName)) (yc := (⟨"com/example/parley/parley/LinearMap", "set", "(IJ)V"⟩ : MethodName)) (a := b14) (O51.1) (wd hw 20 rfl) (wd hw 21 rfl) (nfS (wd hw 23 rfl) rfl) (wd hw 23 rfl) (wd hw 22 rfl) (wd hw 10 rfl) (wd hw 24 rfl) (by decide) (m_set l Z a0 hw b14 (v34 + (3 : Int32)) v8 b25 1024 (setf J 2 v7 (setf J 1 v6 (setf J 0 v5 (fun _ => 0)))) J 3 8 h50 n0 Z52 O51 O48 ne31 g32 ((iadd_n hbase (B := 3) rfl (by omega)).trans (by omega)) (by decide) (by decide) (by decide) (by omega) (by decide)) rfl (by decide) (W := 0) rfl (by decide) (c' := 2) (s' := 1025) rfl rfl (by decide) (by decide) at_215 (n := 218) rfl pd1 rfl rfl ?_
    rintro _ h56 ⟨rfl, K53, O54⟩
    have O57 := O51.keep K53 (ninS ne31 nin0)
    have Z58 : n0 ≤ h56.size := Nat.le_trans Z52 K53.1
    refine G.aload C at_218 rfl rfl (n := 220) rfl ?_
    refine G.iload C at_220 rfl (n := 222) rfl ?_
    refine G.iconst C (v := (4 : Int32)) at_222 (by decide) (n := 223) rfl ?_
    refine G.iadd C at_223 (n := 224) rfl ?_
    refine G.lload C at_224 rfl (n := 226) rfl ?_
    refine G.callV C (argsL := [(.int (v34 + (4 : Int32))), (.long v9)]) (yr := (⟨"com/example/parley/parley/LinearMap", "set", "(IJ)V"⟩ : MethodName)) (yc := (⟨"com/example/parley/parley/LinearMap", "set", "(IJ)V"⟩ : MethodName)) (a := b14) (O57.1) (wd hw 20 rfl) (wd hw 21 rfl) (nfS (wd hw 23 rfl) rfl) (wd hw 23 rfl) (wd hw 22 rfl) (wd hw 10 rfl) (wd hw 24 rfl) (by decide) (m_set l Z a0 hw b14 (v34 + (4 : Int32)) v9 b25 1024 (setf J 3 v8 (setf J 2 v7 (setf J 1 v6 (setf J 0 v5 (fun _ => 0))))) J 4 16 h56 n0 Z58 O57 O54 ne31 g32 ((iadd_n hbase (B := 4) rfl (by omega)).trans (by omega)) (by decide) (by decide) (by decide) (by omega) (by decide)) rfl (by decide) (W := 0) rfl (by decide) (c' := 2) (s' := 1025) rfl rfl (by decide) (by decide) at_226 (n := 229) rfl pd1 rfl rfl ?_
    rintro _ h62 ⟨rfl, K59, O60⟩
    have O63 := O57.keep K59 (ninS ne31 nin0)
    have Z64 : n0 ≤ h62.size := Nat.le_trans Z58 K59.1
    refine G.aload C at_229 rfl rfl (n := 231) rfl ?_
    refine G.iload C at_231 rfl (n := 233) rfl ?_
    refine G.iconst C (v := (5 : Int32)) at_233 (by decide) (n := 234) rfl ?_
    refine G.iadd C at_234 (n := 235) rfl ?_
    refine G.lload C at_235 rfl (n := 237) rfl ?_
    refine G.callV C (argsL := [(.int (v34 + (5 : Int32))), (.long v10)]) (yr := (⟨"com/example/parley/parley/LinearMap", "set", "(IJ)V"⟩ : MethodName)) (yc := (⟨"com/example/parley/parley/LinearMap", "set", "(IJ)V"⟩ : MethodName)) (a := b14) (O63.1) (wd hw 20 rfl) (wd hw 21 rfl) (nfS (wd hw 23 rfl) rfl) (wd hw 23 rfl) (wd hw 22 rfl) (wd hw 10 rfl) (wd hw 24 rfl) (by decide) (m_set l Z a0 hw b14 (v34 + (5 : Int32)) v10 b25 1024 (setf J 4 v9 (setf J 3 v8 (setf J 2 v7 (setf J 1 v6 (setf J 0 v5 (fun _ => 0)))))) J 5 32 h62 n0 Z64 O63 O60 ne31 g32 ((iadd_n hbase (B := 5) rfl (by omega)).trans (by omega)) (by decide) (by decide) (by decide) (by omega) (by decide)) rfl (by decide) (W := 0) rfl (by decide) (c' := 2) (s' := 1025) rfl rfl (by decide) (by decide) at_237 (n := 240) rfl pd1 rfl rfl ?_
    rintro _ h68 ⟨rfl, K65, O66⟩
    have O69 := O63.keep K65 (ninS ne31 nin0)
    have Z70 : n0 ≤ h68.size := Nat.le_trans Z64 K65.1
    refine G.aload C at_240 rfl rfl (n := 242) rfl ?_
    refine G.iload C at_242 rfl (n := 244) rfl ?_
    refine G.bipush C (v := (6 : Int32)) at_244 (by decide) (n := 246) rfl ?_
    refine G.iadd C at_246 (n := 247) rfl ?_
    refine G.lload C at_247 rfl (n := 249) rfl ?_
    refine G.callV C (argsL := [(.int (v34 + (6 : Int32))), (.long v11)]) (yr := (⟨"com/example/parley/parley/LinearMap", "set", "(IJ)V"⟩ : MethodName)) (yc := (⟨"com/example/parley/parley/LinearMap", "set", "(IJ)V"⟩ : MethodName)) (a := b14) (O69.1) (wd hw 20 rfl) (wd hw 21 rfl) (nfS (wd hw 23 rfl) rfl) (wd hw 23 rfl) (wd hw 22 rfl) (wd hw 10 rfl) (wd hw 24 rfl) (by decide) (m_set l Z a0 hw b14 (v34 + (6 : Int32)) v11 b25 1024 (setf J 5 v10 (setf J 4 v9 (setf J 3 v8 (setf J 2 v7 (setf J 1 v6 (setf J 0 v5 (fun _ => 0))))))) J 6 64 h68 n0 Z70 O69 O66 ne31 g32 ((iadd_n hbase (B := 6) rfl (by omega)).trans (by omega)) (by decide) (by decide) (by decide) (by omega) (by decide)) rfl (by decide) (W := 0) rfl (by decide) (c' := 2) (s' := 1025) rfl rfl (by decide) (by decide) at_249 (n := 252) rfl pd1 rfl rfl ?_
    rintro _ h74 ⟨rfl, K71, O72⟩
    have O75 := O69.keep K71 (ninS ne31 nin0)
    have Z76 : n0 ≤ h74.size := Nat.le_trans Z70 K71.1
    refine G.aload C at_252 rfl rfl (n := 254) rfl ?_
    refine G.iload C at_254 rfl (n := 256) rfl ?_
    refine G.bipush C (v := (7 : Int32)) at_256 (by decide) (n := 258) rfl ?_
    refine G.iadd C at_258 (n := 259) rfl ?_
    refine G.lload C at_259 rfl (n := 261) rfl ?_
    refine G.callV C (argsL := [(.int (v34 + (7 : Int32))), (.long v12)]) (yr := (⟨"com/example/parley/parley/LinearMap", "set", "(IJ)V"⟩ : MethodName)) (yc := (⟨"com/example/parley/parley/LinearMap", "set", "(IJ)V"⟩ : MethodName)) (a := b14) (O75.1) (wd hw 20 rfl) (wd hw 21 rfl) (nfS (wd hw 23 rfl) rfl) (wd hw 23 rfl) (wd hw 22 rfl) (wd hw 10 rfl) (wd hw 24 rfl) (by decide) (m_set l Z a0 hw b14 (v34 + (7 : Int32)) v12 b25 1024 (setf J 6 v11 (setf J 5 v10 (setf J 4 v9 (setf J 3 v8 (setf J 2 v7 (setf J 1 v6 (setf J 0 v5 (fun _ => 0)))))))) J 7 128 h74 n0 Z76 O75 O72 ne31 g32 ((iadd_n hbase (B := 7) rfl (by omega)).trans (by omega)) (by decide) (by decide) (by decide) (by omega) (by decide)) rfl (by decide) (W := 0) rfl (by decide) (c' := 2) (s' := 1025) rfl rfl (by decide) (by decide) at_261 (n := 264) rfl pd1 rfl rfl ?_
    rintro _ h80 ⟨rfl, K77, O78⟩
    have O81 := O75.keep K77 (ninS ne31 nin0)
    have Z82 : n0 ≤ h80.size := Nat.le_trans Z76 K77.1
    refine G.aload C at_264 rfl rfl (n := 266) rfl ?_
    refine G.bipush C (v := (8 : Int32)) at_266 (by decide) (n := 268) rfl ?_
    refine G.iload C at_268 rfl (n := 270) rfl ?_
    refine G.imul C at_270 (n := 271) rfl ?_
    refine G.bipush C (v := (7 : Int32)) at_271 (by decide) (n := 273) rfl ?_
    refine G.iadd C at_273 (n := 274) rfl ?_
    refine G.lload C at_274 rfl (n := 276) rfl ?_
    refine G.callV C (argsL := [(.int (((8 : Int32) * v4) + (7 : Int32))), (.long i4)]) (yr := (⟨"com/example/parley/parley/LinearMap", "set", "(IJ)V"⟩ : MethodName)) (yc := (⟨"com/example/parley/parley/LinearMap", "set", "(IJ)V"⟩ : MethodName)) (a := b14) (O81.1) (wd hw 20 rfl) (wd hw 21 rfl) (nfS (wd hw 23 rfl) rfl) (wd hw 23 rfl) (wd hw 22 rfl) (wd hw 10 rfl) (wd hw 24 rfl) (by decide) (m_set l Z a0 hw b14 (((8 : Int32) * v4) + (7 : Int32)) i4 b25 1024 (setf J 7 v12 (setf J 6 v11 (setf J 5 v10 (setf J 4 v9 (setf J 3 v8 (setf J 2 v7 (setf J 1 v6 (setf J 0 v5 (fun _ => 0))))))))) K 7 128 h80 n0 Z82 O81 O78 ne31 g32 ((iadd_n hk8 (B := 7) rfl (by omega)).trans (by omega)) (by decide) (by decide) (by decide) (by omega) (by decide)) rfl (by decide) (W := 0) rfl (by decide) (c' := 2) (s' := 1025) rfl rfl (by decide) (by decide) at_276 (n := 279) rfl pd1 rfl rfl ?_
    rintro _ h86 ⟨rfl, K83, O84⟩
    have O87 := O81.keep K83 (ninS ne31 nin0)
    have Z88 : n0 ≤ h86.size := Nat.le_trans Z82 K83.1
    refine G.aload C at_279 rfl rfl (n := 281) rfl ?_
    refine G.lloadN C at_281 rfl (n := 282) rfl ?_
    refine G.callV C (argsL := [(.long i1)]) (yr := (⟨"com/example/parley/parley/LinearMap", "image", "(J)J"⟩ : MethodName)) (yc := (⟨"com/example/parley/parley/LinearMap", "image", "(J)J"⟩ : MethodName)) (a := b14) (O87.1) (wd hw 25 rfl) (wd hw 26 rfl) (nfS (wd hw 28 rfl) rfl) (wd hw 28 rfl) (wd hw 27 rfl) (wd hw 10 rfl) (wd hw 29 rfl) (by decide) (m_image4 l Z a0 hw b14 i1 b25 (setf K 7 i4 (setf J 7 v12 (setf J 6 v11 (setf J 5 v10 (setf J 4 v9 (setf J 3 v8 (setf J 2 v7 (setf J 1 v6 (setf J 0 v5 (fun _ => 0)))))))))) h86 n0 Z88 O87 O84) rfl (by decide) (W := 0) rfl (by decide) (c' := 2) (s' := 1025) rfl rfl (by decide) (by decide) at_282 (n := 285) rfl pd2 rfl rfl ?_
    rintro _ _ ⟨rfl, rfl⟩
    refine G.lstoreZ C at_285 (l' := fun z => #[.val (.int i0), .val (.long i1), .second, .val (.long i2), .second, .val (.long i3), .second, .val (.long i4), .second, .val (.int (0 : Int32)), .val (.int (4 : Int32)), .val (.int v3), .val (.int v4), .val (.long v5), .second, .val (.long v6), .second, .val (.long v7), .second, .val (.long v8), .second, .val (.long v9), .second, .val (.long v10), .second, .val (.long v11), .second, .val (.long v12), .second, .val (.ref b14), .val (.int v34), .val (.long z), .second, .unset, .unset, .unset]) (fun _ => rfl) (n := 287) rfl ?_
    intro v91 hv91
    refine G.lloadN C at_287 rfl (n := 288) rfl ?_
    refine G.iload C at_288 rfl (n := 290) rfl ?_
    refine G.lushr C at_290 (n := 291) rfl ?_
    refine G.l2i C at_291 (n := 292) rfl ?_
    refine G.sipush C (v := (255 : Int32)) at_292 (by decide) (n := 295) rfl ?_
    refine G.iand C at_295 (n := 296) rfl ?_
    refine G.istoreZ C at_296 (l' := fun z => #[.val (.int i0), .val (.long i1), .second, .val (.long i2), .second, .val (.long i3), .second, .val (.long i4), .second, .val (.int (0 : Int32)), .val (.int (4 : Int32)), .val (.int v3), .val (.int v4), .val (.long v5), .second, .val (.long v6), .second, .val (.long v7), .second, .val (.long v8), .second, .val (.long v9), .second, .val (.long v10), .second, .val (.long v11), .second, .val (.long v12), .second, .val (.ref b14), .val (.int v34), .val (.long v91), .second, .val (.int z), .unset, .unset]) (fun _ => rfl) (n := 298) rfl ?_
    intro v92 hv92
    have hV : v92.toInt = by_ i1 J := by rw [hv92]; exact sh_by (by omega) (hbase.trans (by omega))
    refine G.lconst C (v := (0 : Int64)) at_298 (by decide) (n := 299) rfl ?_
    refine G.lstore C at_299 (l' := #[.val (.int i0), .val (.long i1), .second, .val (.long i2), .second, .val (.long i3), .second, .val (.long i4), .second, .val (.int (0 : Int32)), .val (.int (4 : Int32)), .val (.int v3), .val (.int v4), .val (.long v5), .second, .val (.long v6), .second, .val (.long v7), .second, .val (.long v8), .second, .val (.long v9), .second, .val (.long v10), .second, .val (.long v11), .second, .val (.long v12), .second, .val (.ref b14), .val (.int v34), .val (.long v91), .second, .val (.int v92), .val (.long (0 : Int64)), .second]) rfl (n := 301) rfl ?_
    refine G.iload C at_301 rfl (n := 303) rfl ?_
    refine G.iconst C (v := (1 : Int32)) at_303 (by decide) (n := 304) rfl ?_
    refine G.iand C at_304 (n := 305) rfl ?_
    suffices key94 : ∀ (z94_l34 : Int64), ((((v92 &&& (1 : Int32)) = 0) ∧ ((v92 &&& (1 : Int32)).toInt = 0) ∧ (z94_l34 = (0 : Int64))) ∨ (((v92 &&& (1 : Int32)) ≠ 0) ∧ ((v92 &&& (1 : Int32)).toInt ≠ 0) ∧ (z94_l34 = ((0 : Int64) ^^^ v5)))) → Go p l e room_1 s m args below meth c n0 (Q_law Z h0 i0 i1 i2 i3 i4) 2 1025 h86 (mkF m 315 #[.val (.int i0), .val (.long i1), .second, .val (.long i2), .second, .val (.long i3), .second, .val (.long i4), .second, .val (.int (0 : Int32)), .val (.int (4 : Int32)), .val (.int v3), .val (.int v4), .val (.long v5), .second, .val (.long v6), .second, .val (.long v7), .second, .val (.long v8), .second, .val (.long v9), .second, .val (.long v10), .second, .val (.long v11), .second, .val (.long v12), .second, .val (.ref b14), .val (.int v34), .val (.long v91), .second, .val (.int v92), .val (.long z94_l34), .second] []) by
      refine G.if_eq C (A := (v92 &&& (1 : Int32)).toInt) rfl at_305 (by decide) (by decide) (n := 308) (n' := 315) rfl (fun c305_93 c305_93i => ?_) (fun c305_93 c305_93i => ?_)
      · exact key94 _ (Or.inl ⟨c305_93, c305_93i, rfl⟩) 
      · refine G.lload C at_308 rfl (n := 310) rfl ?_
        refine G.lload C at_310 rfl (n := 312) rfl ?_
        refine G.lxor C at_312 (n := 313) rfl ?_
        refine G.lstore C at_313 (l' := #[.val (.int i0), .val (.long i1), .second, .val (.long i2), .second, .val (.long i3), .second, .val (.long i4), .second, .val (.int (0 : Int32)), .val (.int (4 : Int32)), .val (.int v3), .val (.int v4), .val (.long v5), .second, .val (.long v6), .second, .val (.long v7), .second, .val (.long v8), .second, .val (.long v9), .second, .val (.long v10), .second, .val (.long v11), .second, .val (.long v12), .second, .val (.ref b14), .val (.int v34), .val (.long v91), .second, .val (.int v92), .val (.long ((0 : Int64) ^^^ v5)), .second]) rfl (n := 315) rfl ?_
        exact key94 _ (Or.inr (⟨c305_93, c305_93i, rfl⟩)) 
    intro z94_l34 j94 
    have r0 := jn hV (t := 0) (by decide) (by decide) j94
    refine G.iload C at_315 rfl (n := 317) rfl ?_
    refine G.iconst C (v := (2 : Int32)) at_317 (by decide) (n := 318) rfl ?_
    refine G.iand C at_318 (n := 319) rfl ?_
    suffices key96 : ∀ (z96_l34 : Int64), ((((v92 &&& (2 : Int32)) = 0) ∧ ((v92 &&& (2 : Int32)).toInt = 0) ∧ (z96_l34 = z94_l34)) ∨ (((v92 &&& (2 : Int32)) ≠ 0) ∧ ((v92 &&& (2 : Int32)).toInt ≠ 0) ∧ (z96_l34 = (z94_l34 ^^^ v6)))) → Go p l e room_1 s m args below meth c n0 (Q_law Z h0 i0 i1 i2 i3 i4) 2 1025 h86 (mkF m 329 #[.val (.int i0), .val (.long i1), .second, .val (.long i2), .second, .val (.long i3), .second, .val (.long i4), .second, .val (.int (0 : Int32)), .val (.int (4 : Int32)), .val (.int v3), .val (.int v4), .val (.long v5), .second, .val (.long v6), .second, .val (.long v7), .second, .val (.long v8), .second, .val (.long v9), .second, .val (.long v10), .second, .val (.long v11), .second, .val (.long v12), .second, .val (.ref b14), .val (.int v34), .val (.long v91), .second, .val (.int v92), .val (.long z96_l34), .second] []) by
      refine G.if_eq C (A := (v92 &&& (2 : Int32)).toInt) rfl at_319 (by decide) (by decide) (n := 322) (n' := 329) rfl (fun c319_95 c319_95i => ?_) (fun c319_95 c319_95i => ?_)
      · exact key96 _ (Or.inl ⟨c319_95, c319_95i, rfl⟩) 
      · refine G.lload C at_322 rfl (n := 324) rfl ?_
        refine G.lload C at_324 rfl (n := 326) rfl ?_
        refine G.lxor C at_326 (n := 327) rfl ?_
        refine G.lstore C at_327 (l' := #[.val (.int i0), .val (.long i1), .second, .val (.long i2), .second, .val (.long i3), .second, .val (.long i4), .second, .val (.int (0 : Int32)), .val (.int (4 : Int32)), .val (.int v3), .val (.int v4), .val (.long v5), .second, .val (.long v6), .second, .val (.long v7), .second, .val (.long v8), .second, .val (.long v9), .second, .val (.long v10), .second, .val (.long v11), .second, .val (.long v12), .second, .val (.ref b14), .val (.int v34), .val (.long v91), .second, .val (.int v92), .val (.long (z94_l34 ^^^ v6)), .second]) rfl (n := 329) rfl ?_
        exact key96 _ (Or.inr (⟨c319_95, c319_95i, rfl⟩)) 
    intro z96_l34 j96 
    have r1 := jn hV (t := 1) (by decide) (by decide) j96
    refine G.iload C at_329 rfl (n := 331) rfl ?_
    refine G.iconst C (v := (4 : Int32)) at_331 (by decide) (n := 332) rfl ?_
    refine G.iand C at_332 (n := 333) rfl ?_
    suffices key98 : ∀ (z98_l34 : Int64), ((((v92 &&& (4 : Int32)) = 0) ∧ ((v92 &&& (4 : Int32)).toInt = 0) ∧ (z98_l34 = z96_l34)) ∨ (((v92 &&& (4 : Int32)) ≠ 0) ∧ ((v92 &&& (4 : Int32)).toInt ≠ 0) ∧ (z98_l34 = (z96_l34 ^^^ v7)))) → Go p l e room_1 s m args below meth c n0 (Q_law Z h0 i0 i1 i2 i3 i4) 2 1025 h86 (mkF m 343 #[.val (.int i0), .val (.long i1), .second, .val (.long i2), .second, .val (.long i3), .second, .val (.long i4), .second, .val (.int (0 : Int32)), .val (.int (4 : Int32)), .val (.int v3), .val (.int v4), .val (.long v5), .second, .val (.long v6), .second, .val (.long v7), .second, .val (.long v8), .second, .val (.long v9), .second, .val (.long v10), .second, .val (.long v11), .second, .val (.long v12), .second, .val (.ref b14), .val (.int v34), .val (.long v91), .second, .val (.int v92), .val (.long z98_l34), .second] []) by
      refine G.if_eq C (A := (v92 &&& (4 : Int32)).toInt) rfl at_333 (by decide) (by decide) (n := 336) (n' := 343) rfl (fun c333_97 c333_97i => ?_) (fun c333_97 c333_97i => ?_)
      · exact key98 _ (Or.inl ⟨c333_97, c333_97i, rfl⟩) 
      · refine G.lload C at_336 rfl (n := 338) rfl ?_
        refine G.lload C at_338 rfl (n := 340) rfl ?_
        refine G.lxor C at_340 (n := 341) rfl ?_
        refine G.lstore C at_341 (l' := #[.val (.int i0), .val (.long i1), .second, .val (.long i2), .second, .val (.long i3), .second, .val (.long i4), .second, .val (.int (0 : Int32)), .val (.int (4 : Int32)), .val (.int v3), .val (.int v4), .val (.long v5), .second, .val (.long v6), .second, .val (.long v7), .second, .val (.long v8), .second, .val (.long v9), .second, .val (.long v10), .second, .val (.long v11), .second, .val (.long v12), .second, .val (.ref b14), .val (.int v34), .val (.long v91), .second, .val (.int v92), .val (.long (z96_l34 ^^^ v7)), .second]) rfl (n := 343) rfl ?_
        exact key98 _ (Or.inr (⟨c333_97, c333_97i, rfl⟩)) 
    intro z98_l34 j98 
    have r2 := jn hV (t := 2) (by decide) (by decide) j98
    refine G.iload C at_343 rfl (n := 345) rfl ?_
    refine G.bipush C (v := (8 : Int32)) at_345 (by decide) (n := 347) rfl ?_
    refine G.iand C at_347 (n := 348) rfl ?_
    suffices key100 : ∀ (z100_l34 : Int64), ((((v92 &&& (8 : Int32)) = 0) ∧ ((v92 &&& (8 : Int32)).toInt = 0) ∧ (z100_l34 = z98_l34)) ∨ (((v92 &&& (8 : Int32)) ≠ 0) ∧ ((v92 &&& (8 : Int32)).toInt ≠ 0) ∧ (z100_l34 = (z98_l34 ^^^ v8)))) → Go p l e room_1 s m args below meth c n0 (Q_law Z h0 i0 i1 i2 i3 i4) 2 1025 h86 (mkF m 358 #[.val (.int i0), .val (.long i1), .second, .val (.long i2), .second, .val (.long i3), .second, .val (.long i4), .second, .val (.int (0 : Int32)), .val (.int (4 : Int32)), .val (.int v3), .val (.int v4), .val (.long v5), .second, .val (.long v6), .second, .val (.long v7), .second, .val (.long v8), .second, .val (.long v9), .second, .val (.long v10), .second, .val (.long v11), .second, .val (.long v12), .second, .val (.ref b14), .val (.int v34), .val (.long v91), .second, .val (.int v92), .val (.long z100_l34), .second] []) by
      refine G.if_eq C (A := (v92 &&& (8 : Int32)).toInt) rfl at_348 (by decide) (by decide) (n := 351) (n' := 358) rfl (fun c348_99 c348_99i => ?_) (fun c348_99 c348_99i => ?_)
      · exact key100 _ (Or.inl ⟨c348_99, c348_99i, rfl⟩) 
      · refine G.lload C at_351 rfl (n := 353) rfl ?_
        refine G.lload C at_353 rfl (n := 355) rfl ?_
        refine G.lxor C at_355 (n := 356) rfl ?_
        refine G.lstore C at_356 (l' := #[.val (.int i0), .val (.long i1), .second, .val (.long i2), .second, .val (.long i3), .second, .val (.long i4), .second, .val (.int (0 : Int32)), .val (.int (4 : Int32)), .val (.int v3), .val (.int v4), .val (.long v5), .second, .val (.long v6), .second, .val (.long v7), .second, .val (.long v8), .second, .val (.long v9), .second, .val (.long v10), .second, .val (.long v11), .second, .val (.long v12), .second, .val (.ref b14), .val (.int v34), .val (.long v91), .second, .val (.int v92), .val (.long (z98_l34 ^^^ v8)), .second]) rfl (n := 358) rfl ?_
        exact key100 _ (Or.inr (⟨c348_99, c348_99i, rfl⟩)) 
    intro z100_l34 j100 
    have r3 := jn hV (t := 3) (by decide) (by decide) j100
    refine G.iload C at_358 rfl (n := 360) rfl ?_
    refine G.bipush C (v := (16 : Int32)) at_360 (by decide) (n := 362) rfl ?_
    refine G.iand C at_362 (n := 363) rfl ?_
    suffices key102 : ∀ (z102_l34 : Int64), ((((v92 &&& (16 : Int32)) = 0) ∧ ((v92 &&& (16 : Int32)).toInt = 0) ∧ (z102_l34 = z100_l34)) ∨ (((v92 &&& (16 : Int32)) ≠ 0) ∧ ((v92 &&& (16 : Int32)).toInt ≠ 0) ∧ (z102_l34 = (z100_l34 ^^^ v9)))) → Go p l e room_1 s m args below meth c n0 (Q_law Z h0 i0 i1 i2 i3 i4) 2 1025 h86 (mkF m 373 #[.val (.int i0), .val (.long i1), .second, .val (.long i2), .second, .val (.long i3), .second, .val (.long i4), .second, .val (.int (0 : Int32)), .val (.int (4 : Int32)), .val (.int v3), .val (.int v4), .val (.long v5), .second, .val (.long v6), .second, .val (.long v7), .second, .val (.long v8), .second, .val (.long v9), .second, .val (.long v10), .second, .val (.long v11), .second, .val (.long v12), .second, .val (.ref b14), .val (.int v34), .val (.long v91), .second, .val (.int v92), .val (.long z102_l34), .second] []) by
      refine G.if_eq C (A := (v92 &&& (16 : Int32)).toInt) rfl at_363 (by decide) (by decide) (n := 366) (n' := 373) rfl (fun c363_101 c363_101i => ?_) (fun c363_101 c363_101i => ?_)
      · exact key102 _ (Or.inl ⟨c363_101, c363_101i, rfl⟩) 
      · refine G.lload C at_366 rfl (n := 368) rfl ?_
        refine G.lload C at_368 rfl (n := 370) rfl ?_
        refine G.lxor C at_370 (n := 371) rfl ?_
        refine G.lstore C at_371 (l' := #[.val (.int i0), .val (.long i1), .second, .val (.long i2), .second, .val (.long i3), .second, .val (.long i4), .second, .val (.int (0 : Int32)), .val (.int (4 : Int32)), .val (.int v3), .val (.int v4), .val (.long v5), .second, .val (.long v6), .second, .val (.long v7), .second, .val (.long v8), .second, .val (.long v9), .second, .val (.long v10), .second, .val (.long v11), .second, .val (.long v12), .second, .val (.ref b14), .val (.int v34), .val (.long v91), .second, .val (.int v92), .val (.long (z100_l34 ^^^ v9)), .second]) rfl (n := 373) rfl ?_
        exact key102 _ (Or.inr (⟨c363_101, c363_101i, rfl⟩)) 
    intro z102_l34 j102 
    have r4 := jn hV (t := 4) (by decide) (by decide) j102
    refine G.iload C at_373 rfl (n := 375) rfl ?_
    refine G.bipush C (v := (32 : Int32)) at_375 (by decide) (n := 377) rfl ?_
    refine G.iand C at_377 (n := 378) rfl ?_
    suffices key104 : ∀ (z104_l34 : Int64), ((((v92 &&& (32 : Int32)) = 0) ∧ ((v92 &&& (32 : Int32)).toInt = 0) ∧ (z104_l34 = z102_l34)) ∨ (((v92 &&& (32 : Int32)) ≠ 0) ∧ ((v92 &&& (32 : Int32)).toInt ≠ 0) ∧ (z104_l34 = (z102_l34 ^^^ v10)))) → Go p l e room_1 s m args below meth c n0 (Q_law Z h0 i0 i1 i2 i3 i4) 2 1025 h86 (mkF m 388 #[.val (.int i0), .val (.long i1), .second, .val (.long i2), .second, .val (.long i3), .second, .val (.long i4), .second, .val (.int (0 : Int32)), .val (.int (4 : Int32)), .val (.int v3), .val (.int v4), .val (.long v5), .second, .val (.long v6), .second, .val (.long v7), .second, .val (.long v8), .second, .val (.long v9), .second, .val (.long v10), .second, .val (.long v11), .second, .val (.long v12), .second, .val (.ref b14), .val (.int v34), .val (.long v91), .second, .val (.int v92), .val (.long z104_l34), .second] []) by
      refine G.if_eq C (A := (v92 &&& (32 : Int32)).toInt) rfl at_378 (by decide) (by decide) (n := 381) (n' := 388) rfl (fun c378_103 c378_103i => ?_) (fun c378_103 c378_103i => ?_)
      · exact key104 _ (Or.inl ⟨c378_103, c378_103i, rfl⟩) 
      · refine G.lload C at_381 rfl (n := 383) rfl ?_
        refine G.lload C at_383 rfl (n := 385) rfl ?_
        refine G.lxor C at_385 (n := 386) rfl ?_
        refine G.lstore C at_386 (l' := #[.val (.int i0), .val (.long i1), .second, .val (.long i2), .second, .val (.long i3), .second, .val (.long i4), .second, .val (.int (0 : Int32)), .val (.int (4 : Int32)), .val (.int v3), .val (.int v4), .val (.long v5), .second, .val (.long v6), .second, .val (.long v7), .second, .val (.long v8), .second, .val (.long v9), .second, .val (.long v10), .second, .val (.long v11), .second, .val (.long v12), .second, .val (.ref b14), .val (.int v34), .val (.long v91), .second, .val (.int v92), .val (.long (z102_l34 ^^^ v10)), .second]) rfl (n := 388) rfl ?_
        exact key104 _ (Or.inr (⟨c378_103, c378_103i, rfl⟩)) 
    intro z104_l34 j104 
    have r5 := jn hV (t := 5) (by decide) (by decide) j104
    refine G.iload C at_388 rfl (n := 390) rfl ?_
    refine G.bipush C (v := (64 : Int32)) at_390 (by decide) (n := 392) rfl ?_
    refine G.iand C at_392 (n := 393) rfl ?_
    suffices key106 : ∀ (z106_l34 : Int64), ((((v92 &&& (64 : Int32)) = 0) ∧ ((v92 &&& (64 : Int32)).toInt = 0) ∧ (z106_l34 = z104_l34)) ∨ (((v92 &&& (64 : Int32)) ≠ 0) ∧ ((v92 &&& (64 : Int32)).toInt ≠ 0) ∧ (z106_l34 = (z104_l34 ^^^ v11)))) → Go p l e room_1 s m args below meth c n0 (Q_law Z h0 i0 i1 i2 i3 i4) 2 1025 h86 (mkF m 403 #[.val (.int i0), .val (.long i1), .second, .val (.long i2), .second, .val (.long i3), .second, .val (.long i4), .second, .val (.int (0 : Int32)), .val (.int (4 : Int32)), .val (.int v3), .val (.int v4), .val (.long v5), .second, .val (.long v6), .second, .val (.long v7), .second, .val (.long v8), .second, .val (.long v9), .second, .val (.long v10), .second, .val (.long v11), .second, .val (.long v12), .second, .val (.ref b14), .val (.int v34), .val (.long v91), .second, .val (.int v92), .val (.long z106_l34), .second] []) by
      refine G.if_eq C (A := (v92 &&& (64 : Int32)).toInt) rfl at_393 (by decide) (by decide) (n := 396) (n' := 403) rfl (fun c393_105 c393_105i => ?_) (fun c393_105 c393_105i => ?_)
      · exact key106 _ (Or.inl ⟨c393_105, c393_105i, rfl⟩) 
      · refine G.lload C at_396 rfl (n := 398) rfl ?_
        refine G.lload C at_398 rfl (n := 400) rfl ?_
        refine G.lxor C at_400 (n := 401) rfl ?_
        refine G.lstore C at_401 (l' := #[.val (.int i0), .val (.long i1), .second, .val (.long i2), .second, .val (.long i3), .second, .val (.long i4), .second, .val (.int (0 : Int32)), .val (.int (4 : Int32)), .val (.int v3), .val (.int v4), .val (.long v5), .second, .val (.long v6), .second, .val (.long v7), .second, .val (.long v8), .second, .val (.long v9), .second, .val (.long v10), .second, .val (.long v11), .second, .val (.long v12), .second, .val (.ref b14), .val (.int v34), .val (.long v91), .second, .val (.int v92), .val (.long (z104_l34 ^^^ v11)), .second]) rfl (n := 403) rfl ?_
        exact key106 _ (Or.inr (⟨c393_105, c393_105i, rfl⟩)) 
    intro z106_l34 j106 
    have r6 := jn hV (t := 6) (by decide) (by decide) j106
    refine G.iload C at_403 rfl (n := 405) rfl ?_
    refine G.sipush C (v := (128 : Int32)) at_405 (by decide) (n := 408) rfl ?_
    refine G.iand C at_408 (n := 409) rfl ?_
    suffices key108 : ∀ (z108_l34 : Int64), ((((v92 &&& (128 : Int32)) = 0) ∧ ((v92 &&& (128 : Int32)).toInt = 0) ∧ (z108_l34 = z106_l34)) ∨ (((v92 &&& (128 : Int32)) ≠ 0) ∧ ((v92 &&& (128 : Int32)).toInt ≠ 0) ∧ (z108_l34 = (z106_l34 ^^^ v12)))) → Go p l e room_1 s m args below meth c n0 (Q_law Z h0 i0 i1 i2 i3 i4) 2 1025 h86 (mkF m 419 #[.val (.int i0), .val (.long i1), .second, .val (.long i2), .second, .val (.long i3), .second, .val (.long i4), .second, .val (.int (0 : Int32)), .val (.int (4 : Int32)), .val (.int v3), .val (.int v4), .val (.long v5), .second, .val (.long v6), .second, .val (.long v7), .second, .val (.long v8), .second, .val (.long v9), .second, .val (.long v10), .second, .val (.long v11), .second, .val (.long v12), .second, .val (.ref b14), .val (.int v34), .val (.long v91), .second, .val (.int v92), .val (.long z108_l34), .second] []) by
      refine G.if_eq C (A := (v92 &&& (128 : Int32)).toInt) rfl at_409 (by decide) (by decide) (n := 412) (n' := 419) rfl (fun c409_107 c409_107i => ?_) (fun c409_107 c409_107i => ?_)
      · exact key108 _ (Or.inl ⟨c409_107, c409_107i, rfl⟩) 
      · refine G.lload C at_412 rfl (n := 414) rfl ?_
        refine G.lload C at_414 rfl (n := 416) rfl ?_
        refine G.lxor C at_416 (n := 417) rfl ?_
        refine G.lstore C at_417 (l' := #[.val (.int i0), .val (.long i1), .second, .val (.long i2), .second, .val (.long i3), .second, .val (.long i4), .second, .val (.int (0 : Int32)), .val (.int (4 : Int32)), .val (.int v3), .val (.int v4), .val (.long v5), .second, .val (.long v6), .second, .val (.long v7), .second, .val (.long v8), .second, .val (.long v9), .second, .val (.long v10), .second, .val (.long v11), .second, .val (.long v12), .second, .val (.ref b14), .val (.int v34), .val (.long v91), .second, .val (.int v92), .val (.long (z106_l34 ^^^ v12)), .second]) rfl (n := 419) rfl ?_
        exact key108 _ (Or.inr (⟨c409_107, c409_107i, rfl⟩)) 
    intro z108_l34 j108 
    have r7 := jn hV (t := 7) (by decide) (by decide) j108
    refine G.lloadN C at_419 rfl (n := 420) rfl ?_
    refine G.bipush C (v := (8 : Int32)) at_420 (by decide) (n := 422) rfl ?_
    refine G.iload C at_422 rfl (n := 424) rfl ?_
    refine G.imul C at_424 (n := 425) rfl ?_
    refine G.bipush C (v := (7 : Int32)) at_425 (by decide) (n := 427) rfl ?_
    refine G.iadd C at_427 (n := 428) rfl ?_
    refine G.lushr C at_428 (n := 429) rfl ?_
    refine G.lconst C (v := (1 : Int64)) at_429 (by decide) (n := 430) rfl ?_
    refine G.land C at_430 (n := 431) rfl ?_
    refine G.lconst C (v := (0 : Int64)) at_431 (by decide) (n := 432) rfl ?_
    suffices key110 : ∀ (z110_l34 : Int64), ((((((i1.toUInt64 >>> ((((8 : Int32) * v4) + (7 : Int32)) &&& 0x3f).toInt64.toUInt64).toInt64) &&& (1 : Int64)) = (0 : Int64)) ∧ ((((i1.toUInt64 >>> ((((8 : Int32) * v4) + (7 : Int32)) &&& 0x3f).toInt64.toUInt64).toInt64) &&& (1 : Int64)).toInt = 0) ∧ (z110_l34 = z108_l34)) ∨ (((((i1.toUInt64 >>> ((((8 : Int32) * v4) + (7 : Int32)) &&& 0x3f).toInt64.toUInt64).toInt64) &&& (1 : Int64)) ≠ (0 : Int64)) ∧ ((((i1.toUInt64 >>> ((((8 : Int32) * v4) + (7 : Int32)) &&& 0x3f).toInt64.toUInt64).toInt64) &&& (1 : Int64)).toInt ≠ 0) ∧ (z110_l34 = (z108_l34 ^^^ i4)))) → Go p l e room_1 s m args below meth c n0 (Q_law Z h0 i0 i1 i2 i3 i4) 2 1025 h86 (mkF m 443 #[.val (.int i0), .val (.long i1), .second, .val (.long i2), .second, .val (.long i3), .second, .val (.long i4), .second, .val (.int (0 : Int32)), .val (.int (4 : Int32)), .val (.int v3), .val (.int v4), .val (.long v5), .second, .val (.long v6), .second, .val (.long v7), .second, .val (.long v8), .second, .val (.long v9), .second, .val (.long v10), .second, .val (.long v11), .second, .val (.long v12), .second, .val (.ref b14), .val (.int v34), .val (.long v91), .second, .val (.int v92), .val (.long z110_l34), .second] []) by
      refine G.lcmp_eq C (A := (((i1.toUInt64 >>> ((((8 : Int32) * v4) + (7 : Int32)) &&& 0x3f).toInt64.toUInt64).toInt64) &&& (1 : Int64)).toInt) (B := 0) rfl (by decide) at_432 at_433 (by decide) (by decide) (n := 436) (n' := 443) rfl (fun c433_109 c433_109i => ?_) (fun c433_109 c433_109i => ?_)
      · exact key110 _ (Or.inl ⟨c433_109, c433_109i, rfl⟩) 
      · refine G.lload C at_436 rfl (n := 438) rfl ?_
        refine G.lload C at_438 rfl (n := 440) rfl ?_
        refine G.lxor C at_440 (n := 441) rfl ?_
        refine G.lstore C at_441 (l' := #[.val (.int i0), .val (.long i1), .second, .val (.long i2), .second, .val (.long i3), .second, .val (.long i4), .second, .val (.int (0 : Int32)), .val (.int (4 : Int32)), .val (.int v3), .val (.int v4), .val (.long v5), .second, .val (.long v6), .second, .val (.long v7), .second, .val (.long v8), .second, .val (.long v9), .second, .val (.long v10), .second, .val (.long v11), .second, .val (.long v12), .second, .val (.ref b14), .val (.int v34), .val (.long v91), .second, .val (.int v92), .val (.long (z108_l34 ^^^ i4)), .second]) rfl (n := 443) rfl ?_
        exact key110 _ (Or.inr (⟨c433_109, c433_109i, rfl⟩)) 
    intro z110_l34 j110 
    have r8 := jn9 (K := K) (by omega) ((iadd_n hk8 (B := 7) rfl (by omega)).trans (by omega)) j110
    refine G.lload C at_443 rfl (n := 445) rfl ?_
    refine G.lload C at_445 rfl (n := 447) rfl ?_
    refine G.lcmp_ne C (A := v91.toInt) (B := z110_l34.toInt) rfl rfl at_447 at_448 (by decide) (by decide) (n := 451) (n' := 455) rfl (fun c448_111 c448_111i => ?_) (fun c448_111 c448_111i => ?_)
    · exact absurd (by rw [hv91]; exact fin4 hJn hKn hKJ r0 r1 r2 r3 r4 r5 r6 r7 r8 rfl) c448_111
    refine G.iconst C (v := (1 : Int32)) at_451 (by decide) (n := 452) rfl ?_
    refine G.goto C at_452 (by decide) (n := 456) (by decide) ?_
    refine G.ireturn C at_456 (rfl) (by simp) (by decide) (by decide) ?_
    exact rfl
  · refine G.iconst C (v := (1 : Int32)) at_7 (by decide) (n := 8) rfl ?_
    refine G.goto C at_8 (by decide) (n := 12) (by decide) ?_
    refine G.istore C at_12 (l' := #[.val (.int i0), .val (.long i1), .second, .val (.long i2), .second, .val (.long i3), .second, .val (.long i4), .second, .val (.int (1 : Int32)), .unset, .unset, .unset, .unset, .unset, .unset, .unset, .unset, .unset, .unset, .unset, .unset, .unset, .unset, .unset, .unset, .unset, .unset, .unset, .unset, .unset, .unset, .unset, .unset, .unset, .unset]) rfl (n := 14) rfl ?_
    refine G.iload C at_14 rfl (n := 16) rfl ?_
    refine G.if_eq C (A := 1) (by decide) at_16 (by decide) (by decide) (n := 19) (n' := 24) rfl (fun c16_112 c16_112i => ?_) (fun c16_112 c16_112i => ?_)
    · exact absurd c16_112 (by decide)
    refine G.bipush C (v := (8 : Int32)) at_19 (by decide) (n := 21) rfl ?_
    refine G.goto C at_21 (by decide) (n := 25) (by decide) ?_
    refine G.istore C at_25 (l' := #[.val (.int i0), .val (.long i1), .second, .val (.long i2), .second, .val (.long i3), .second, .val (.long i4), .second, .val (.int (1 : Int32)), .val (.int (8 : Int32)), .unset, .unset, .unset, .unset, .unset, .unset, .unset, .unset, .unset, .unset, .unset, .unset, .unset, .unset, .unset, .unset, .unset, .unset, .unset, .unset, .unset, .unset, .unset, .unset, .unset]) rfl (n := 27) rfl ?_
    refine G.iloadN C at_27 rfl (n := 28) rfl ?_
    refine G.iload C at_28 rfl (n := 30) rfl ?_
    refine G.iconst C (v := (1 : Int32)) at_30 (by decide) (n := 31) rfl ?_
    refine G.isub C at_31 (n := 32) rfl ?_
    refine G.fold_int (z := (7 : Int32)) (by decide) ?_
    refine G.iand C at_32 (n := 33) rfl ?_
    refine G.istoreZ C at_33 (l' := fun z => #[.val (.int i0), .val (.long i1), .second, .val (.long i2), .second, .val (.long i3), .second, .val (.long i4), .second, .val (.int (1 : Int32)), .val (.int (8 : Int32)), .val (.int z), .unset, .unset, .unset, .unset, .unset, .unset, .unset, .unset, .unset, .unset, .unset, .unset, .unset, .unset, .unset, .unset, .unset, .unset, .unset, .unset, .unset, .unset, .unset, .unset]) (fun _ => rfl) (n := 35) rfl ?_
    intro v113 hv113
    refine G.iload C at_35 rfl (n := 37) rfl ?_
    refine G.iconst C (v := (1 : Int32)) at_37 (by decide) (n := 38) rfl ?_
    refine G.iadd C at_38 (n := 39) rfl ?_
    refine G.iloadN C at_39 rfl (n := 40) rfl ?_
    refine G.iconst C (v := (4 : Int32)) at_40 (by decide) (n := 41) rfl ?_
    refine G.iushr C at_41 (n := 42) rfl ?_
    refine G.ldc C (v := (2147483647 : Int32)) (wd hw 0 rfl) at_42 (n := 44) rfl ?_
    refine G.iand C at_44 (n := 45) rfl ?_
    refine G.iload C at_45 rfl (n := 47) rfl ?_
    refine G.iconst C (v := (1 : Int32)) at_47 (by decide) (n := 48) rfl ?_
    refine G.isub C at_48 (n := 49) rfl ?_
    refine G.fold_int (z := (7 : Int32)) (by decide) ?_
    refine G.irem C at_49 (by decide) (n := 50) rfl ?_
    refine G.iadd C at_50 (n := 51) rfl ?_
    refine G.iload C at_51 rfl (n := 53) rfl ?_
    refine G.irem C at_53 (by decide) (n := 54) rfl ?_
    refine G.istoreZ C at_54 (l' := fun z => #[.val (.int i0), .val (.long i1), .second, .val (.long i2), .second, .val (.long i3), .second, .val (.long i4), .second, .val (.int (1 : Int32)), .val (.int (8 : Int32)), .val (.int v113), .val (.int z), .unset, .unset, .unset, .unset, .unset, .unset, .unset, .unset, .unset, .unset, .unset, .unset, .unset, .unset, .unset, .unset, .unset, .unset, .unset, .unset, .unset, .unset, .unset]) (fun _ => rfl) (n := 56) rfl ?_
    intro v114 hv114
    have qj : v113.toInt = i0.toInt % ((2 ^ 3 : Nat) : Int) := by rw [hv113]; exact c_mask i0 7 3 (by decide) (by decide)
    have qk := kf8 (j := v113) (by omega) (c_and ((i0.toUInt32 >>> ((4 : Int32) &&& 31).toUInt32).toInt32) (2147483647 : Int32) (by decide)).1 hv114
    obtain ⟨J, hJ⟩ : ∃ J : Nat, v113.toInt = J := ⟨v113.toInt.toNat, by omega⟩
    obtain ⟨K, hK⟩ : ∃ K : Nat, v114.toInt = K := ⟨v114.toInt.toNat, by omega⟩
    have hJn : J < 8 := by omega
    have hKn : K < 8 := by omega
    have hKJ : K ≠ J := by omega
    clear qj qk
    refine G.lloadN C at_56 rfl (n := 57) rfl ?_
    refine G.lload C at_57 rfl (n := 59) rfl ?_
    refine G.lxor C at_59 (n := 60) rfl ?_
    refine G.lstoreZ C at_60 (l' := fun z => #[.val (.int i0), .val (.long i1), .second, .val (.long i2), .second, .val (.long i3), .second, .val (.long i4), .second, .val (.int (1 : Int32)), .val (.int (8 : Int32)), .val (.int v113), .val (.int v114), .val (.long z), .second, .unset, .unset, .unset, .unset, .unset, .unset, .unset, .unset, .unset, .unset, .unset, .unset, .unset, .unset, .unset, .unset, .unset, .unset, .unset, .unset, .unset]) (fun _ => rfl) (n := 62) rfl ?_
    intro v115 hv115
    refine G.lloadN C at_62 rfl (n := 63) rfl ?_
    refine G.ldc2 C (v := (3 : Int64)) (wd hw 1 rfl) at_63 (n := 66) rfl ?_
    refine G.lmul C at_66 (n := 67) rfl ?_
    refine G.lload C at_67 rfl (n := 69) rfl ?_
    refine G.iconst C (v := (1 : Int32)) at_69 (by decide) (n := 70) rfl ?_
    refine G.lshl C at_70 (n := 71) rfl ?_
    refine G.lxor C at_71 (n := 72) rfl ?_
    refine G.lstoreZ C at_72 (l' := fun z => #[.val (.int i0), .val (.long i1), .second, .val (.long i2), .second, .val (.long i3), .second, .val (.long i4), .second, .val (.int (1 : Int32)), .val (.int (8 : Int32)), .val (.int v113), .val (.int v114), .val (.long v115), .second, .val (.long z), .second, .unset, .unset, .unset, .unset, .unset, .unset, .unset, .unset, .unset, .unset, .unset, .unset, .unset, .unset, .unset, .unset, .unset, .unset, .unset]) (fun _ => rfl) (n := 74) rfl ?_
    intro v116 hv116
    refine G.lloadN C at_74 rfl (n := 75) rfl ?_
    refine G.ldc2 C (v := (5 : Int64)) (wd hw 2 rfl) at_75 (n := 78) rfl ?_
    refine G.lmul C at_78 (n := 79) rfl ?_
    refine G.lload C at_79 rfl (n := 81) rfl ?_
    refine G.iconst C (v := (2 : Int32)) at_81 (by decide) (n := 82) rfl ?_
    refine G.lshl C at_82 (n := 83) rfl ?_
    refine G.lxor C at_83 (n := 84) rfl ?_
    refine G.lstoreZ C at_84 (l' := fun z => #[.val (.int i0), .val (.long i1), .second, .val (.long i2), .second, .val (.long i3), .second, .val (.long i4), .second, .val (.int (1 : Int32)), .val (.int (8 : Int32)), .val (.int v113), .val (.int v114), .val (.long v115), .second, .val (.long v116), .second, .val (.long z), .second, .unset, .unset, .unset, .unset, .unset, .unset, .unset, .unset, .unset, .unset, .unset, .unset, .unset, .unset, .unset, .unset, .unset]) (fun _ => rfl) (n := 86) rfl ?_
    intro v117 hv117
    refine G.lloadN C at_86 rfl (n := 87) rfl ?_
    refine G.ldc2 C (v := (7 : Int64)) (wd hw 3 rfl) at_87 (n := 90) rfl ?_
    refine G.lmul C at_90 (n := 91) rfl ?_
    refine G.lload C at_91 rfl (n := 93) rfl ?_
    refine G.iconst C (v := (3 : Int32)) at_93 (by decide) (n := 94) rfl ?_
    refine G.lshl C at_94 (n := 95) rfl ?_
    refine G.lxor C at_95 (n := 96) rfl ?_
    refine G.lstoreZ C at_96 (l' := fun z => #[.val (.int i0), .val (.long i1), .second, .val (.long i2), .second, .val (.long i3), .second, .val (.long i4), .second, .val (.int (1 : Int32)), .val (.int (8 : Int32)), .val (.int v113), .val (.int v114), .val (.long v115), .second, .val (.long v116), .second, .val (.long v117), .second, .val (.long z), .second, .unset, .unset, .unset, .unset, .unset, .unset, .unset, .unset, .unset, .unset, .unset, .unset, .unset, .unset, .unset]) (fun _ => rfl) (n := 98) rfl ?_
    intro v118 hv118
    refine G.lloadN C at_98 rfl (n := 99) rfl ?_
    refine G.ldc2 C (v := (9 : Int64)) (wd hw 4 rfl) at_99 (n := 102) rfl ?_
    refine G.lmul C at_102 (n := 103) rfl ?_
    refine G.lload C at_103 rfl (n := 105) rfl ?_
    refine G.iconst C (v := (4 : Int32)) at_105 (by decide) (n := 106) rfl ?_
    refine G.lshl C at_106 (n := 107) rfl ?_
    refine G.lxor C at_107 (n := 108) rfl ?_
    refine G.lstoreZ C at_108 (l' := fun z => #[.val (.int i0), .val (.long i1), .second, .val (.long i2), .second, .val (.long i3), .second, .val (.long i4), .second, .val (.int (1 : Int32)), .val (.int (8 : Int32)), .val (.int v113), .val (.int v114), .val (.long v115), .second, .val (.long v116), .second, .val (.long v117), .second, .val (.long v118), .second, .val (.long z), .second, .unset, .unset, .unset, .unset, .unset, .unset, .unset, .unset, .unset, .unset, .unset, .unset, .unset]) (fun _ => rfl) (n := 110) rfl ?_
    intro v119 hv119
    refine G.lloadN C at_110 rfl (n := 111) rfl ?_
    refine G.ldc2 C (v := (11 : Int64)) (wd hw 5 rfl) at_111 (n := 114) rfl ?_
    refine G.lmul C at_114 (n := 115) rfl ?_
    refine G.lload C at_115 rfl (n := 117) rfl ?_
    refine G.iconst C (v := (5 : Int32)) at_117 (by decide) (n := 118) rfl ?_
    refine G.lshl C at_118 (n := 119) rfl ?_
    refine G.lxor C at_119 (n := 120) rfl ?_
    refine G.lstoreZ C at_120 (l' := fun z => #[.val (.int i0), .val (.long i1), .second, .val (.long i2), .second, .val (.long i3), .second, .val (.long i4), .second, .val (.int (1 : Int32)), .val (.int (8 : Int32)), .val (.int v113), .val (.int v114), .val (.long v115), .second, .val (.long v116), .second, .val (.long v117), .second, .val (.long v118), .second, .val (.long v119), .second, .val (.long z), .second, .unset, .unset, .unset, .unset, .unset, .unset, .unset, .unset, .unset, .unset, .unset]) (fun _ => rfl) (n := 122) rfl ?_
    intro v120 hv120
    refine G.lloadN C at_122 rfl (n := 123) rfl ?_
    refine G.ldc2 C (v := (13 : Int64)) (wd hw 6 rfl) at_123 (n := 126) rfl ?_
    refine G.lmul C at_126 (n := 127) rfl ?_
    refine G.lload C at_127 rfl (n := 129) rfl ?_
    refine G.bipush C (v := (6 : Int32)) at_129 (by decide) (n := 131) rfl ?_
    refine G.lshl C at_131 (n := 132) rfl ?_
    refine G.lxor C at_132 (n := 133) rfl ?_
    refine G.lstoreZ C at_133 (l' := fun z => #[.val (.int i0), .val (.long i1), .second, .val (.long i2), .second, .val (.long i3), .second, .val (.long i4), .second, .val (.int (1 : Int32)), .val (.int (8 : Int32)), .val (.int v113), .val (.int v114), .val (.long v115), .second, .val (.long v116), .second, .val (.long v117), .second, .val (.long v118), .second, .val (.long v119), .second, .val (.long v120), .second, .val (.long z), .second, .unset, .unset, .unset, .unset, .unset, .unset, .unset, .unset, .unset]) (fun _ => rfl) (n := 135) rfl ?_
    intro v121 hv121
    refine G.lloadN C at_135 rfl (n := 136) rfl ?_
    refine G.ldc2 C (v := (15 : Int64)) (wd hw 7 rfl) at_136 (n := 139) rfl ?_
    refine G.lmul C at_139 (n := 140) rfl ?_
    refine G.lload C at_140 rfl (n := 142) rfl ?_
    refine G.bipush C (v := (7 : Int32)) at_142 (by decide) (n := 144) rfl ?_
    refine G.lshl C at_144 (n := 145) rfl ?_
    refine G.lxor C at_145 (n := 146) rfl ?_
    refine G.lstoreZ C at_146 (l' := fun z => #[.val (.int i0), .val (.long i1), .second, .val (.long i2), .second, .val (.long i3), .second, .val (.long i4), .second, .val (.int (1 : Int32)), .val (.int (8 : Int32)), .val (.int v113), .val (.int v114), .val (.long v115), .second, .val (.long v116), .second, .val (.long v117), .second, .val (.long v118), .second, .val (.long v119), .second, .val (.long v120), .second, .val (.long v121), .second, .val (.long z), .second, .unset, .unset, .unset, .unset, .unset, .unset, .unset]) (fun _ => rfl) (n := 148) rfl ?_
    intro v122 hv122
    refine G.new C (wd hw 8 rfl) (wd hw 9 rfl) (wd hw 10 rfl) at_148 (n := 151) rfl (c' := 1) (s' := 1) rfl rfl (by decide) (by decide) ?_
    intro h123 b124 q125 E126 A127 D128
    have g129 : n0 ≤ b124 := Nat.le_trans Z0 (Nat.le_of_eq q125.symm)
    have O130 := Ob_M.new hw A127 D128
    have K131 := kext E126
    have Z132 : n0 ≤ h123.size := Nat.le_trans Z0 K131.1
    refine G.dup C at_151 rfl (n := 152) rfl ?_
    refine G.iload C at_152 rfl (n := 154) rfl ?_
    refine G.if_eq C (A := 1) (by decide) at_154 (by decide) (by decide) (n := 157) (n' := 162) rfl (fun c154_133 c154_133i => ?_) (fun c154_133 c154_133i => ?_)
    · exact absurd c154_133 (by decide)
    refine G.bipush C (v := (64 : Int32)) at_157 (by decide) (n := 159) rfl ?_
    refine G.goto C at_159 (by decide) (n := 164) (by decide) ?_
    refine G.callC C (argsL := [(.int (64 : Int32))]) (yc := (⟨"com/example/parley/parley/LinearMap", "<init>", "(I)V"⟩ : MethodName)) (a := b124) rfl (wd hw 11 rfl) (wd hw 12 rfl) (wd hw 10 rfl) (wd hw 13 rfl) (by decide) (m_init8 l Z a0 hw b124 h123 n0 Z132 O130 g129) rfl (by decide) (W := 1) rfl (by decide) (c' := 2) (s' := 2049) rfl rfl (by decide) (by decide) at_164 (n := 167) rfl pd0 rfl rfl ?_
    rintro _ h140 ⟨rfl, K134, b135, f136, O137, O138⟩
    have ne141 : b124 ≠ b135 := Nat.ne_of_lt (Nat.lt_of_lt_of_le O130.lt f136)
    have g142 : n0 ≤ b135 := Nat.le_trans Z132 f136
    have Z143 : n0 ≤ h140.size := Nat.le_trans Z132 K134.1
    refine G.astore C at_167 rfl (l' := #[.val (.int i0), .val (.long i1), .second, .val (.long i2), .second, .val (.long i3), .second, .val (.long i4), .second, .val (.int (1 : Int32)), .val (.int (8 : Int32)), .val (.int v113), .val (.int v114), .val (.long v115), .second, .val (.long v116), .second, .val (.long v117), .second, .val (.long v118), .second, .val (.long v119), .second, .val (.long v120), .second, .val (.long v121), .second, .val (.long v122), .second, .val (.ref b124), .unset, .unset, .unset, .unset, .unset, .unset]) rfl (n := 169) rfl ?_
    refine G.bipush C (v := (8 : Int32)) at_169 (by decide) (n := 171) rfl ?_
    refine G.iload C at_171 rfl (n := 173) rfl ?_
    refine G.imul C at_173 (n := 174) rfl ?_
    refine G.istoreZ C at_174 (l' := fun z => #[.val (.int i0), .val (.long i1), .second, .val (.long i2), .second, .val (.long i3), .second, .val (.long i4), .second, .val (.int (1 : Int32)), .val (.int (8 : Int32)), .val (.int v113), .val (.int v114), .val (.long v115), .second, .val (.long v116), .second, .val (.long v117), .second, .val (.long v118), .second, .val (.long v119), .second, .val (.long v120), .second, .val (.long v121), .second, .val (.long v122), .second, .val (.ref b124), .val (.int z), .unset, .unset, .unset, .unset, .unset]) (fun _ => rfl) (n := 176) rfl ?_
    intro v144 hv144
    have hbase : v144.toInt = ((8 * J : Nat) : Int) := by rw [hv144]; exact imul8 hJ (by omega)
    have hk8 : ((8 : Int32) * v114).toInt = ((8 * K : Nat) : Int) := imul8 hK (by omega)
    refine G.aload C at_176 rfl rfl (n := 178) rfl ?_
    refine G.iload C at_178 rfl (n := 180) rfl ?_
    refine G.lload C at_180 rfl (n := 182) rfl ?_
    refine G.callV C (argsL := [(.int v144), (.long v115)]) (yr := (⟨"com/example/parley/parley/LinearMap", "set", "(IJ)V"⟩ : MethodName)) (yc := (⟨"com/example/parley/parley/LinearMap", "set", "(IJ)V"⟩ : MethodName)) (a := b124) (O137.1) (wd hw 20 rfl) (wd hw 21 rfl) (nfS (wd hw 23 rfl) rfl) (wd hw 23 rfl) (wd hw 22 rfl) (wd hw 10 rfl) (wd hw 24 rfl) (by decide) (m_set l Z a0 hw b124 v144 v115 b135 2048 (fun _ => 0) J 0 1 h140 n0 Z143 O137 O138 ne141 g142 (hbase.trans (by omega)) (by decide) (by decide) (by decide) (by omega) (by decide)) rfl (by decide) (W := 0) rfl (by decide) (c' := 2) (s' := 2049) rfl rfl (by decide) (by decide) at_182 (n := 185) rfl pd1 rfl rfl ?_
    rintro _ h148 ⟨rfl, K145, O146⟩
    have O149 := O137.keep K145 (ninS ne141 nin0)
    have Z150 : n0 ≤ h148.size := Nat.le_trans Z143 K145.1
    refine G.aload C at_185 rfl rfl (n := 187) rfl ?_
    refine G.iload C at_187 rfl (n := 189) rfl ?_
    refine G.iconst C (v := (1 : Int32)) at_189 (by decide) (n := 190) rfl ?_
    refine G.iadd C at_190 (n := 191) rfl ?_
    refine G.lload C at_191 rfl (n := 193) rfl ?_
    refine G.callV C (argsL := [(.int (v144 + (1 : Int32))), (.long v116)]) (yr := (⟨"com/example/parley/parley/LinearMap", "set", "(IJ)V"⟩ : MethodName)) (yc := (⟨"com/example/parley/parley/LinearMap", "set", "(IJ)V"⟩ : MethodName)) (a := b124) (O149.1) (wd hw 20 rfl) (wd hw 21 rfl) (nfS (wd hw 23 rfl) rfl) (wd hw 23 rfl) (wd hw 22 rfl) (wd hw 10 rfl) (wd hw 24 rfl) (by decide) (m_set l Z a0 hw b124 (v144 + (1 : Int32)) v116 b135 2048 (setf J 0 v115 (fun _ => 0)) J 1 2 h148 n0 Z150 O149 O146 ne141 g142 ((iadd_n hbase (B := 1) rfl (by omega)).trans (by omega)) (by decide) (by decide) (by decide) (by omega) (by decide)) rfl (by decide) (W := 0) rfl (by decide) (c' := 2) (s' := 2049) rfl rfl (by decide) (by decide) at_193 (n := 196) rfl pd1 rfl rfl ?_
    rintro _ h154 ⟨rfl, K151, O152⟩
    have O155 := O149.keep K151 (ninS ne141 nin0)
    have Z156 : n0 ≤ h154.size := Nat.le_trans Z150 K151.1
    refine G.aload C at_196 rfl rfl (n := 198) rfl ?_
    refine G.iload C at_198 rfl (n := 200) rfl ?_
    refine G.iconst C (v := (2 : Int32)) at_200 (by decide) (n := 201) rfl ?_
    refine G.iadd C at_201 (n := 202) rfl ?_
    refine G.lload C at_202 rfl (n := 204) rfl ?_
    refine G.callV C (argsL := [(.int (v144 + (2 : Int32))), (.long v117)]) (yr := (⟨"com/example/parley/parley/LinearMap", "set", "(IJ)V"⟩ : MethodName)) (yc := (⟨"com/example/parley/parley/LinearMap", "set", "(IJ)V"⟩ : MethodName)) (a := b124) (O155.1) (wd hw 20 rfl) (wd hw 21 rfl) (nfS (wd hw 23 rfl) rfl) (wd hw 23 rfl) (wd hw 22 rfl) (wd hw 10 rfl) (wd hw 24 rfl) (by decide) (m_set l Z a0 hw b124 (v144 + (2 : Int32)) v117 b135 2048 (setf J 1 v116 (setf J 0 v115 (fun _ => 0))) J 2 4 h154 n0 Z156 O155 O152 ne141 g142 ((iadd_n hbase (B := 2) rfl (by omega)).trans (by omega)) (by decide) (by decide) (by decide) (by omega) (by decide)) rfl (by decide) (W := 0) rfl (by decide) (c' := 2) (s' := 2049) rfl rfl (by decide) (by decide) at_204 (n := 207) rfl pd1 rfl rfl ?_
    rintro _ h160 ⟨rfl, K157, O158⟩
    have O161 := O155.keep K157 (ninS ne141 nin0)
    have Z162 : n0 ≤ h160.size := Nat.le_trans Z156 K157.1
    refine G.aload C at_207 rfl rfl (n := 209) rfl ?_
    refine G.iload C at_209 rfl (n := 211) rfl ?_
    refine G.iconst C (v := (3 : Int32)) at_211 (by decide) (n := 212) rfl ?_
    refine G.iadd C at_212 (n := 213) rfl ?_
    refine G.lload C at_213 rfl (n := 215) rfl ?_
    refine G.callV C (argsL := [(.int (v144 + (3 : Int32))), (.long v118)]) (yr := (⟨"com/example/parley/parley/LinearMap", "set", "(IJ)V"⟩ : MethodName)) (yc := (⟨"com/example/parley/parley/LinearMap", "set", "(IJ)V"⟩ : MethodName)) (a := b124) (O161.1) (wd hw 20 rfl) (wd hw 21 rfl) (nfS (wd hw 23 rfl) rfl) (wd hw 23 rfl) (wd hw 22 rfl) (wd hw 10 rfl) (wd hw 24 rfl) (by decide) (m_set l Z a0 hw b124 (v144 + (3 : Int32)) v118 b135 2048 (setf J 2 v117 (setf J 1 v116 (setf J 0 v115 (fun _ => 0)))) J 3 8 h160 n0 Z162 O161 O158 ne141 g142 ((iadd_n hbase (B := 3) rfl (by omega)).trans (by omega)) (by decide) (by decide) (by decide) (by omega) (by decide)) rfl (by decide) (W := 0) rfl (by decide) (c' := 2) (s' := 2049) rfl rfl (by decide) (by decide) at_215 (n := 218) rfl pd1 rfl rfl ?_
    rintro _ h166 ⟨rfl, K163, O164⟩
    have O167 := O161.keep K163 (ninS ne141 nin0)
    have Z168 : n0 ≤ h166.size := Nat.le_trans Z162 K163.1
    refine G.aload C at_218 rfl rfl (n := 220) rfl ?_
    refine G.iload C at_220 rfl (n := 222) rfl ?_
    refine G.iconst C (v := (4 : Int32)) at_222 (by decide) (n := 223) rfl ?_
    refine G.iadd C at_223 (n := 224) rfl ?_
    refine G.lload C at_224 rfl (n := 226) rfl ?_
    refine G.callV C (argsL := [(.int (v144 + (4 : Int32))), (.long v119)]) (yr := (⟨"com/example/parley/parley/LinearMap", "set", "(IJ)V"⟩ : MethodName)) (yc := (⟨"com/example/parley/parley/LinearMap", "set", "(IJ)V"⟩ : MethodName)) (a := b124) (O167.1) (wd hw 20 rfl) (wd hw 21 rfl) (nfS (wd hw 23 rfl) rfl) (wd hw 23 rfl) (wd hw 22 rfl) (wd hw 10 rfl) (wd hw 24 rfl) (by decide) (m_set l Z a0 hw b124 (v144 + (4 : Int32)) v119 b135 2048 (setf J 3 v118 (setf J 2 v117 (setf J 1 v116 (setf J 0 v115 (fun _ => 0))))) J 4 16 h166 n0 Z168 O167 O164 ne141 g142 ((iadd_n hbase (B := 4) rfl (by omega)).trans (by omega)) (by decide) (by decide) (by decide) (by omega) (by decide)) rfl (by decide) (W := 0) rfl (by decide) (c' := 2) (s' := 2049) rfl rfl (by decide) (by decide) at_226 (n := 229) rfl pd1 rfl rfl ?_
    rintro _ h172 ⟨rfl, K169, O170⟩
    have O173 := O167.keep K169 (ninS ne141 nin0)
    have Z174 : n0 ≤ h172.size := Nat.le_trans Z168 K169.1
    refine G.aload C at_229 rfl rfl (n := 231) rfl ?_
    refine G.iload C at_231 rfl (n := 233) rfl ?_
    refine G.iconst C (v := (5 : Int32)) at_233 (by decide) (n := 234) rfl ?_
    refine G.iadd C at_234 (n := 235) rfl ?_
    refine G.lload C at_235 rfl (n := 237) rfl ?_
    refine G.callV C (argsL := [(.int (v144 + (5 : Int32))), (.long v120)]) (yr := (⟨"com/example/parley/parley/LinearMap", "set", "(IJ)V"⟩ : MethodName)) (yc := (⟨"com/example/parley/parley/LinearMap", "set", "(IJ)V"⟩ : MethodName)) (a := b124) (O173.1) (wd hw 20 rfl) (wd hw 21 rfl) (nfS (wd hw 23 rfl) rfl) (wd hw 23 rfl) (wd hw 22 rfl) (wd hw 10 rfl) (wd hw 24 rfl) (by decide) (m_set l Z a0 hw b124 (v144 + (5 : Int32)) v120 b135 2048 (setf J 4 v119 (setf J 3 v118 (setf J 2 v117 (setf J 1 v116 (setf J 0 v115 (fun _ => 0)))))) J 5 32 h172 n0 Z174 O173 O170 ne141 g142 ((iadd_n hbase (B := 5) rfl (by omega)).trans (by omega)) (by decide) (by decide) (by decide) (by omega) (by decide)) rfl (by decide) (W := 0) rfl (by decide) (c' := 2) (s' := 2049) rfl rfl (by decide) (by decide) at_237 (n := 240) rfl pd1 rfl rfl ?_
    rintro _ h178 ⟨rfl, K175, O176⟩
    have O179 := O173.keep K175 (ninS ne141 nin0)
    have Z180 : n0 ≤ h178.size := Nat.le_trans Z174 K175.1
    refine G.aload C at_240 rfl rfl (n := 242) rfl ?_
    refine G.iload C at_242 rfl (n := 244) rfl ?_
    refine G.bipush C (v := (6 : Int32)) at_244 (by decide) (n := 246) rfl ?_
    refine G.iadd C at_246 (n := 247) rfl ?_
    refine G.lload C at_247 rfl (n := 249) rfl ?_
    refine G.callV C (argsL := [(.int (v144 + (6 : Int32))), (.long v121)]) (yr := (⟨"com/example/parley/parley/LinearMap", "set", "(IJ)V"⟩ : MethodName)) (yc := (⟨"com/example/parley/parley/LinearMap", "set", "(IJ)V"⟩ : MethodName)) (a := b124) (O179.1) (wd hw 20 rfl) (wd hw 21 rfl) (nfS (wd hw 23 rfl) rfl) (wd hw 23 rfl) (wd hw 22 rfl) (wd hw 10 rfl) (wd hw 24 rfl) (by decide) (m_set l Z a0 hw b124 (v144 + (6 : Int32)) v121 b135 2048 (setf J 5 v120 (setf J 4 v119 (setf J 3 v118 (setf J 2 v117 (setf J 1 v116 (setf J 0 v115 (fun _ => 0))))))) J 6 64 h178 n0 Z180 O179 O176 ne141 g142 ((iadd_n hbase (B := 6) rfl (by omega)).trans (by omega)) (by decide) (by decide) (by decide) (by omega) (by decide)) rfl (by decide) (W := 0) rfl (by decide) (c' := 2) (s' := 2049) rfl rfl (by decide) (by decide) at_249 (n := 252) rfl pd1 rfl rfl ?_
    rintro _ h184 ⟨rfl, K181, O182⟩
    have O185 := O179.keep K181 (ninS ne141 nin0)
    have Z186 : n0 ≤ h184.size := Nat.le_trans Z180 K181.1
    refine G.aload C at_252 rfl rfl (n := 254) rfl ?_
    refine G.iload C at_254 rfl (n := 256) rfl ?_
    refine G.bipush C (v := (7 : Int32)) at_256 (by decide) (n := 258) rfl ?_
    refine G.iadd C at_258 (n := 259) rfl ?_
    refine G.lload C at_259 rfl (n := 261) rfl ?_
    refine G.callV C (argsL := [(.int (v144 + (7 : Int32))), (.long v122)]) (yr := (⟨"com/example/parley/parley/LinearMap", "set", "(IJ)V"⟩ : MethodName)) (yc := (⟨"com/example/parley/parley/LinearMap", "set", "(IJ)V"⟩ : MethodName)) (a := b124) (O185.1) (wd hw 20 rfl) (wd hw 21 rfl) (nfS (wd hw 23 rfl) rfl) (wd hw 23 rfl) (wd hw 22 rfl) (wd hw 10 rfl) (wd hw 24 rfl) (by decide) (m_set l Z a0 hw b124 (v144 + (7 : Int32)) v122 b135 2048 (setf J 6 v121 (setf J 5 v120 (setf J 4 v119 (setf J 3 v118 (setf J 2 v117 (setf J 1 v116 (setf J 0 v115 (fun _ => 0)))))))) J 7 128 h184 n0 Z186 O185 O182 ne141 g142 ((iadd_n hbase (B := 7) rfl (by omega)).trans (by omega)) (by decide) (by decide) (by decide) (by omega) (by decide)) rfl (by decide) (W := 0) rfl (by decide) (c' := 2) (s' := 2049) rfl rfl (by decide) (by decide) at_261 (n := 264) rfl pd1 rfl rfl ?_
    rintro _ h190 ⟨rfl, K187, O188⟩
    have O191 := O185.keep K187 (ninS ne141 nin0)
    have Z192 : n0 ≤ h190.size := Nat.le_trans Z186 K187.1
    refine G.aload C at_264 rfl rfl (n := 266) rfl ?_
    refine G.bipush C (v := (8 : Int32)) at_266 (by decide) (n := 268) rfl ?_
    refine G.iload C at_268 rfl (n := 270) rfl ?_
    refine G.imul C at_270 (n := 271) rfl ?_
    refine G.bipush C (v := (7 : Int32)) at_271 (by decide) (n := 273) rfl ?_
    refine G.iadd C at_273 (n := 274) rfl ?_
    refine G.lload C at_274 rfl (n := 276) rfl ?_
    refine G.callV C (argsL := [(.int (((8 : Int32) * v114) + (7 : Int32))), (.long i4)]) (yr := (⟨"com/example/parley/parley/LinearMap", "set", "(IJ)V"⟩ : MethodName)) (yc := (⟨"com/example/parley/parley/LinearMap", "set", "(IJ)V"⟩ : MethodName)) (a := b124) (O191.1) (wd hw 20 rfl) (wd hw 21 rfl) (nfS (wd hw 23 rfl) rfl) (wd hw 23 rfl) (wd hw 22 rfl) (wd hw 10 rfl) (wd hw 24 rfl) (by decide) (m_set l Z a0 hw b124 (((8 : Int32) * v114) + (7 : Int32)) i4 b135 2048 (setf J 7 v122 (setf J 6 v121 (setf J 5 v120 (setf J 4 v119 (setf J 3 v118 (setf J 2 v117 (setf J 1 v116 (setf J 0 v115 (fun _ => 0))))))))) K 7 128 h190 n0 Z192 O191 O188 ne141 g142 ((iadd_n hk8 (B := 7) rfl (by omega)).trans (by omega)) (by decide) (by decide) (by decide) (by omega) (by decide)) rfl (by decide) (W := 0) rfl (by decide) (c' := 2) (s' := 2049) rfl rfl (by decide) (by decide) at_276 (n := 279) rfl pd1 rfl rfl ?_
    rintro _ h196 ⟨rfl, K193, O194⟩
    have O197 := O191.keep K193 (ninS ne141 nin0)
    have Z198 : n0 ≤ h196.size := Nat.le_trans Z192 K193.1
    refine G.aload C at_279 rfl rfl (n := 281) rfl ?_
    refine G.lloadN C at_281 rfl (n := 282) rfl ?_
    refine G.callV C (argsL := [(.long i1)]) (yr := (⟨"com/example/parley/parley/LinearMap", "image", "(J)J"⟩ : MethodName)) (yc := (⟨"com/example/parley/parley/LinearMap", "image", "(J)J"⟩ : MethodName)) (a := b124) (O197.1) (wd hw 25 rfl) (wd hw 26 rfl) (nfS (wd hw 28 rfl) rfl) (wd hw 28 rfl) (wd hw 27 rfl) (wd hw 10 rfl) (wd hw 29 rfl) (by decide) (m_image8 l Z a0 hw b124 i1 b135 (setf K 7 i4 (setf J 7 v122 (setf J 6 v121 (setf J 5 v120 (setf J 4 v119 (setf J 3 v118 (setf J 2 v117 (setf J 1 v116 (setf J 0 v115 (fun _ => 0)))))))))) h196 n0 Z198 O197 O194) rfl (by decide) (W := 0) rfl (by decide) (c' := 2) (s' := 2049) rfl rfl (by decide) (by decide) at_282 (n := 285) rfl pd2 rfl rfl ?_
    rintro _ _ ⟨rfl, rfl⟩
    refine G.lstoreZ C at_285 (l' := fun z => #[.val (.int i0), .val (.long i1), .second, .val (.long i2), .second, .val (.long i3), .second, .val (.long i4), .second, .val (.int (1 : Int32)), .val (.int (8 : Int32)), .val (.int v113), .val (.int v114), .val (.long v115), .second, .val (.long v116), .second, .val (.long v117), .second, .val (.long v118), .second, .val (.long v119), .second, .val (.long v120), .second, .val (.long v121), .second, .val (.long v122), .second, .val (.ref b124), .val (.int v144), .val (.long z), .second, .unset, .unset, .unset]) (fun _ => rfl) (n := 287) rfl ?_
    intro v201 hv201
    refine G.lloadN C at_287 rfl (n := 288) rfl ?_
    refine G.iload C at_288 rfl (n := 290) rfl ?_
    refine G.lushr C at_290 (n := 291) rfl ?_
    refine G.l2i C at_291 (n := 292) rfl ?_
    refine G.sipush C (v := (255 : Int32)) at_292 (by decide) (n := 295) rfl ?_
    refine G.iand C at_295 (n := 296) rfl ?_
    refine G.istoreZ C at_296 (l' := fun z => #[.val (.int i0), .val (.long i1), .second, .val (.long i2), .second, .val (.long i3), .second, .val (.long i4), .second, .val (.int (1 : Int32)), .val (.int (8 : Int32)), .val (.int v113), .val (.int v114), .val (.long v115), .second, .val (.long v116), .second, .val (.long v117), .second, .val (.long v118), .second, .val (.long v119), .second, .val (.long v120), .second, .val (.long v121), .second, .val (.long v122), .second, .val (.ref b124), .val (.int v144), .val (.long v201), .second, .val (.int z), .unset, .unset]) (fun _ => rfl) (n := 298) rfl ?_
    intro v202 hv202
    have hV : v202.toInt = by_ i1 J := by rw [hv202]; exact sh_by (by omega) (hbase.trans (by omega))
    refine G.lconst C (v := (0 : Int64)) at_298 (by decide) (n := 299) rfl ?_
    refine G.lstore C at_299 (l' := #[.val (.int i0), .val (.long i1), .second, .val (.long i2), .second, .val (.long i3), .second, .val (.long i4), .second, .val (.int (1 : Int32)), .val (.int (8 : Int32)), .val (.int v113), .val (.int v114), .val (.long v115), .second, .val (.long v116), .second, .val (.long v117), .second, .val (.long v118), .second, .val (.long v119), .second, .val (.long v120), .second, .val (.long v121), .second, .val (.long v122), .second, .val (.ref b124), .val (.int v144), .val (.long v201), .second, .val (.int v202), .val (.long (0 : Int64)), .second]) rfl (n := 301) rfl ?_
    refine G.iload C at_301 rfl (n := 303) rfl ?_
    refine G.iconst C (v := (1 : Int32)) at_303 (by decide) (n := 304) rfl ?_
    refine G.iand C at_304 (n := 305) rfl ?_
    suffices key204 : ∀ (z204_l34 : Int64), ((((v202 &&& (1 : Int32)) = 0) ∧ ((v202 &&& (1 : Int32)).toInt = 0) ∧ (z204_l34 = (0 : Int64))) ∨ (((v202 &&& (1 : Int32)) ≠ 0) ∧ ((v202 &&& (1 : Int32)).toInt ≠ 0) ∧ (z204_l34 = ((0 : Int64) ^^^ v115)))) → Go p l e room_1 s m args below meth c n0 (Q_law Z h0 i0 i1 i2 i3 i4) 2 2049 h196 (mkF m 315 #[.val (.int i0), .val (.long i1), .second, .val (.long i2), .second, .val (.long i3), .second, .val (.long i4), .second, .val (.int (1 : Int32)), .val (.int (8 : Int32)), .val (.int v113), .val (.int v114), .val (.long v115), .second, .val (.long v116), .second, .val (.long v117), .second, .val (.long v118), .second, .val (.long v119), .second, .val (.long v120), .second, .val (.long v121), .second, .val (.long v122), .second, .val (.ref b124), .val (.int v144), .val (.long v201), .second, .val (.int v202), .val (.long z204_l34), .second] []) by
      refine G.if_eq C (A := (v202 &&& (1 : Int32)).toInt) rfl at_305 (by decide) (by decide) (n := 308) (n' := 315) rfl (fun c305_203 c305_203i => ?_) (fun c305_203 c305_203i => ?_)
      · exact key204 _ (Or.inl ⟨c305_203, c305_203i, rfl⟩) 
      · refine G.lload C at_308 rfl (n := 310) rfl ?_
        refine G.lload C at_310 rfl (n := 312) rfl ?_
        refine G.lxor C at_312 (n := 313) rfl ?_
        refine G.lstore C at_313 (l' := #[.val (.int i0), .val (.long i1), .second, .val (.long i2), .second, .val (.long i3), .second, .val (.long i4), .second, .val (.int (1 : Int32)), .val (.int (8 : Int32)), .val (.int v113), .val (.int v114), .val (.long v115), .second, .val (.long v116), .second, .val (.long v117), .second, .val (.long v118), .second, .val (.long v119), .second, .val (.long v120), .second, .val (.long v121), .second, .val (.long v122), .second, .val (.ref b124), .val (.int v144), .val (.long v201), .second, .val (.int v202), .val (.long ((0 : Int64) ^^^ v115)), .second]) rfl (n := 315) rfl ?_
        exact key204 _ (Or.inr (⟨c305_203, c305_203i, rfl⟩)) 
    intro z204_l34 j204 
    have r0 := jn hV (t := 0) (by decide) (by decide) j204
    refine G.iload C at_315 rfl (n := 317) rfl ?_
    refine G.iconst C (v := (2 : Int32)) at_317 (by decide) (n := 318) rfl ?_
    refine G.iand C at_318 (n := 319) rfl ?_
    suffices key206 : ∀ (z206_l34 : Int64), ((((v202 &&& (2 : Int32)) = 0) ∧ ((v202 &&& (2 : Int32)).toInt = 0) ∧ (z206_l34 = z204_l34)) ∨ (((v202 &&& (2 : Int32)) ≠ 0) ∧ ((v202 &&& (2 : Int32)).toInt ≠ 0) ∧ (z206_l34 = (z204_l34 ^^^ v116)))) → Go p l e room_1 s m args below meth c n0 (Q_law Z h0 i0 i1 i2 i3 i4) 2 2049 h196 (mkF m 329 #[.val (.int i0), .val (.long i1), .second, .val (.long i2), .second, .val (.long i3), .second, .val (.long i4), .second, .val (.int (1 : Int32)), .val (.int (8 : Int32)), .val (.int v113), .val (.int v114), .val (.long v115), .second, .val (.long v116), .second, .val (.long v117), .second, .val (.long v118), .second, .val (.long v119), .second, .val (.long v120), .second, .val (.long v121), .second, .val (.long v122), .second, .val (.ref b124), .val (.int v144), .val (.long v201), .second, .val (.int v202), .val (.long z206_l34), .second] []) by
      refine G.if_eq C (A := (v202 &&& (2 : Int32)).toInt) rfl at_319 (by decide) (by decide) (n := 322) (n' := 329) rfl (fun c319_205 c319_205i => ?_) (fun c319_205 c319_205i => ?_)
      · exact key206 _ (Or.inl ⟨c319_205, c319_205i, rfl⟩) 
      · refine G.lload C at_322 rfl (n := 324) rfl ?_
        refine G.lload C at_324 rfl (n := 326) rfl ?_
        refine G.lxor C at_326 (n := 327) rfl ?_
        refine G.lstore C at_327 (l' := #[.val (.int i0), .val (.long i1), .second, .val (.long i2), .second, .val (.long i3), .second, .val (.long i4), .second, .val (.int (1 : Int32)), .val (.int (8 : Int32)), .val (.int v113), .val (.int v114), .val (.long v115), .second, .val (.long v116), .second, .val (.long v117), .second, .val (.long v118), .second, .val (.long v119), .second, .val (.long v120), .second, .val (.long v121), .second, .val (.long v122), .second, .val (.ref b124), .val (.int v144), .val (.long v201), .second, .val (.int v202), .val (.long (z204_l34 ^^^ v116)), .second]) rfl (n := 329) rfl ?_
        exact key206 _ (Or.inr (⟨c319_205, c319_205i, rfl⟩)) 
    intro z206_l34 j206 
    have r1 := jn hV (t := 1) (by decide) (by decide) j206
    refine G.iload C at_329 rfl (n := 331) rfl ?_
    refine G.iconst C (v := (4 : Int32)) at_331 (by decide) (n := 332) rfl ?_
    refine G.iand C at_332 (n := 333) rfl ?_
    suffices key208 : ∀ (z208_l34 : Int64), ((((v202 &&& (4 : Int32)) = 0) ∧ ((v202 &&& (4 : Int32)).toInt = 0) ∧ (z208_l34 = z206_l34)) ∨ (((v202 &&& (4 : Int32)) ≠ 0) ∧ ((v202 &&& (4 : Int32)).toInt ≠ 0) ∧ (z208_l34 = (z206_l34 ^^^ v117)))) → Go p l e room_1 s m args below meth c n0 (Q_law Z h0 i0 i1 i2 i3 i4) 2 2049 h196 (mkF m 343 #[.val (.int i0), .val (.long i1), .second, .val (.long i2), .second, .val (.long i3), .second, .val (.long i4), .second, .val (.int (1 : Int32)), .val (.int (8 : Int32)), .val (.int v113), .val (.int v114), .val (.long v115), .second, .val (.long v116), .second, .val (.long v117), .second, .val (.long v118), .second, .val (.long v119), .second, .val (.long v120), .second, .val (.long v121), .second, .val (.long v122), .second, .val (.ref b124), .val (.int v144), .val (.long v201), .second, .val (.int v202), .val (.long z208_l34), .second] []) by
      refine G.if_eq C (A := (v202 &&& (4 : Int32)).toInt) rfl at_333 (by decide) (by decide) (n := 336) (n' := 343) rfl (fun c333_207 c333_207i => ?_) (fun c333_207 c333_207i => ?_)
      · exact key208 _ (Or.inl ⟨c333_207, c333_207i, rfl⟩) 
      · refine G.lload C at_336 rfl (n := 338) rfl ?_
        refine G.lload C at_338 rfl (n := 340) rfl ?_
        refine G.lxor C at_340 (n := 341) rfl ?_
        refine G.lstore C at_341 (l' := #[.val (.int i0), .val (.long i1), .second, .val (.long i2), .second, .val (.long i3), .second, .val (.long i4), .second, .val (.int (1 : Int32)), .val (.int (8 : Int32)), .val (.int v113), .val (.int v114), .val (.long v115), .second, .val (.long v116), .second, .val (.long v117), .second, .val (.long v118), .second, .val (.long v119), .second, .val (.long v120), .second, .val (.long v121), .second, .val (.long v122), .second, .val (.ref b124), .val (.int v144), .val (.long v201), .second, .val (.int v202), .val (.long (z206_l34 ^^^ v117)), .second]) rfl (n := 343) rfl ?_
        exact key208 _ (Or.inr (⟨c333_207, c333_207i, rfl⟩)) 
    intro z208_l34 j208 
    have r2 := jn hV (t := 2) (by decide) (by decide) j208
    refine G.iload C at_343 rfl (n := 345) rfl ?_
    refine G.bipush C (v := (8 : Int32)) at_345 (by decide) (n := 347) rfl ?_
    refine G.iand C at_347 (n := 348) rfl ?_
    suffices key210 : ∀ (z210_l34 : Int64), ((((v202 &&& (8 : Int32)) = 0) ∧ ((v202 &&& (8 : Int32)).toInt = 0) ∧ (z210_l34 = z208_l34)) ∨ (((v202 &&& (8 : Int32)) ≠ 0) ∧ ((v202 &&& (8 : Int32)).toInt ≠ 0) ∧ (z210_l34 = (z208_l34 ^^^ v118)))) → Go p l e room_1 s m args below meth c n0 (Q_law Z h0 i0 i1 i2 i3 i4) 2 2049 h196 (mkF m 358 #[.val (.int i0), .val (.long i1), .second, .val (.long i2), .second, .val (.long i3), .second, .val (.long i4), .second, .val (.int (1 : Int32)), .val (.int (8 : Int32)), .val (.int v113), .val (.int v114), .val (.long v115), .second, .val (.long v116), .second, .val (.long v117), .second, .val (.long v118), .second, .val (.long v119), .second, .val (.long v120), .second, .val (.long v121), .second, .val (.long v122), .second, .val (.ref b124), .val (.int v144), .val (.long v201), .second, .val (.int v202), .val (.long z210_l34), .second] []) by
      refine G.if_eq C (A := (v202 &&& (8 : Int32)).toInt) rfl at_348 (by decide) (by decide) (n := 351) (n' := 358) rfl (fun c348_209 c348_209i => ?_) (fun c348_209 c348_209i => ?_)
      · exact key210 _ (Or.inl ⟨c348_209, c348_209i, rfl⟩) 
      · refine G.lload C at_351 rfl (n := 353) rfl ?_
        refine G.lload C at_353 rfl (n := 355) rfl ?_
        refine G.lxor C at_355 (n := 356) rfl ?_
        refine G.lstore C at_356 (l' := #[.val (.int i0), .val (.long i1), .second, .val (.long i2), .second, .val (.long i3), .second, .val (.long i4), .second, .val (.int (1 : Int32)), .val (.int (8 : Int32)), .val (.int v113), .val (.int v114), .val (.long v115), .second, .val (.long v116), .second, .val (.long v117), .second, .val (.long v118), .second, .val (.long v119), .second, .val (.long v120), .second, .val (.long v121), .second, .val (.long v122), .second, .val (.ref b124), .val (.int v144), .val (.long v201), .second, .val (.int v202), .val (.long (z208_l34 ^^^ v118)), .second]) rfl (n := 358) rfl ?_
        exact key210 _ (Or.inr (⟨c348_209, c348_209i, rfl⟩)) 
    intro z210_l34 j210 
    have r3 := jn hV (t := 3) (by decide) (by decide) j210
    refine G.iload C at_358 rfl (n := 360) rfl ?_
    refine G.bipush C (v := (16 : Int32)) at_360 (by decide) (n := 362) rfl ?_
    refine G.iand C at_362 (n := 363) rfl ?_
    suffices key212 : ∀ (z212_l34 : Int64), ((((v202 &&& (16 : Int32)) = 0) ∧ ((v202 &&& (16 : Int32)).toInt = 0) ∧ (z212_l34 = z210_l34)) ∨ (((v202 &&& (16 : Int32)) ≠ 0) ∧ ((v202 &&& (16 : Int32)).toInt ≠ 0) ∧ (z212_l34 = (z210_l34 ^^^ v119)))) → Go p l e room_1 s m args below meth c n0 (Q_law Z h0 i0 i1 i2 i3 i4) 2 2049 h196 (mkF m 373 #[.val (.int i0), .val (.long i1), .second, .val (.long i2), .second, .val (.long i3), .second, .val (.long i4), .second, .val (.int (1 : Int32)), .val (.int (8 : Int32)), .val (.int v113), .val (.int v114), .val (.long v115), .second, .val (.long v116), .second, .val (.long v117), .second, .val (.long v118), .second, .val (.long v119), .second, .val (.long v120), .second, .val (.long v121), .second, .val (.long v122), .second, .val (.ref b124), .val (.int v144), .val (.long v201), .second, .val (.int v202), .val (.long z212_l34), .second] []) by
      refine G.if_eq C (A := (v202 &&& (16 : Int32)).toInt) rfl at_363 (by decide) (by decide) (n := 366) (n' := 373) rfl (fun c363_211 c363_211i => ?_) (fun c363_211 c363_211i => ?_)
      · exact key212 _ (Or.inl ⟨c363_211, c363_211i, rfl⟩) 
      · refine G.lload C at_366 rfl (n := 368) rfl ?_
        refine G.lload C at_368 rfl (n := 370) rfl ?_
        refine G.lxor C at_370 (n := 371) rfl ?_
        refine G.lstore C at_371 (l' := #[.val (.int i0), .val (.long i1), .second, .val (.long i2), .second, .val (.long i3), .second, .val (.long i4), .second, .val (.int (1 : Int32)), .val (.int (8 : Int32)), .val (.int v113), .val (.int v114), .val (.long v115), .second, .val (.long v116), .second, .val (.long v117), .second, .val (.long v118), .second, .val (.long v119), .second, .val (.long v120), .second, .val (.long v121), .second, .val (.long v122), .second, .val (.ref b124), .val (.int v144), .val (.long v201), .second, .val (.int v202), .val (.long (z210_l34 ^^^ v119)), .second]) rfl (n := 373) rfl ?_
        exact key212 _ (Or.inr (⟨c363_211, c363_211i, rfl⟩)) 
    intro z212_l34 j212 
    have r4 := jn hV (t := 4) (by decide) (by decide) j212
    refine G.iload C at_373 rfl (n := 375) rfl ?_
    refine G.bipush C (v := (32 : Int32)) at_375 (by decide) (n := 377) rfl ?_
    refine G.iand C at_377 (n := 378) rfl ?_
    suffices key214 : ∀ (z214_l34 : Int64), ((((v202 &&& (32 : Int32)) = 0) ∧ ((v202 &&& (32 : Int32)).toInt = 0) ∧ (z214_l34 = z212_l34)) ∨ (((v202 &&& (32 : Int32)) ≠ 0) ∧ ((v202 &&& (32 : Int32)).toInt ≠ 0) ∧ (z214_l34 = (z212_l34 ^^^ v120)))) → Go p l e room_1 s m args below meth c n0 (Q_law Z h0 i0 i1 i2 i3 i4) 2 2049 h196 (mkF m 388 #[.val (.int i0), .val (.long i1), .second, .val (.long i2), .second, .val (.long i3), .second, .val (.long i4), .second, .val (.int (1 : Int32)), .val (.int (8 : Int32)), .val (.int v113), .val (.int v114), .val (.long v115), .second, .val (.long v116), .second, .val (.long v117), .second, .val (.long v118), .second, .val (.long v119), .second, .val (.long v120), .second, .val (.long v121), .second, .val (.long v122), .second, .val (.ref b124), .val (.int v144), .val (.long v201), .second, .val (.int v202), .val (.long z214_l34), .second] []) by
      refine G.if_eq C (A := (v202 &&& (32 : Int32)).toInt) rfl at_378 (by decide) (by decide) (n := 381) (n' := 388) rfl (fun c378_213 c378_213i => ?_) (fun c378_213 c378_213i => ?_)
      · exact key214 _ (Or.inl ⟨c378_213, c378_213i, rfl⟩) 
      · refine G.lload C at_381 rfl (n := 383) rfl ?_
        refine G.lload C at_383 rfl (n := 385) rfl ?_
        refine G.lxor C at_385 (n := 386) rfl ?_
        refine G.lstore C at_386 (l' := #[.val (.int i0), .val (.long i1), .second, .val (.long i2), .second, .val (.long i3), .second, .val (.long i4), .second, .val (.int (1 : Int32)), .val (.int (8 : Int32)), .val (.int v113), .val (.int v114), .val (.long v115), .second, .val (.long v116), .second, .val (.long v117), .second, .val (.long v118), .second, .val (.long v119), .second, .val (.long v120), .second, .val (.long v121), .second, .val (.long v122), .second, .val (.ref b124), .val (.int v144), .val (.long v201), .second, .val (.int v202), .val (.long (z212_l34 ^^^ v120)), .second]) rfl (n := 388) rfl ?_
        exact key214 _ (Or.inr (⟨c378_213, c378_213i, rfl⟩)) 
    intro z214_l34 j214 
    have r5 := jn hV (t := 5) (by decide) (by decide) j214
    refine G.iload C at_388 rfl (n := 390) rfl ?_
    refine G.bipush C (v := (64 : Int32)) at_390 (by decide) (n := 392) rfl ?_
    refine G.iand C at_392 (n := 393) rfl ?_
    suffices key216 : ∀ (z216_l34 : Int64), ((((v202 &&& (64 : Int32)) = 0) ∧ ((v202 &&& (64 : Int32)).toInt = 0) ∧ (z216_l34 = z214_l34)) ∨ (((v202 &&& (64 : Int32)) ≠ 0) ∧ ((v202 &&& (64 : Int32)).toInt ≠ 0) ∧ (z216_l34 = (z214_l34 ^^^ v121)))) → Go p l e room_1 s m args below meth c n0 (Q_law Z h0 i0 i1 i2 i3 i4) 2 2049 h196 (mkF m 403 #[.val (.int i0), .val (.long i1), .second, .val (.long i2), .second, .val (.long i3), .second, .val (.long i4), .second, .val (.int (1 : Int32)), .val (.int (8 : Int32)), .val (.int v113), .val (.int v114), .val (.long v115), .second, .val (.long v116), .second, .val (.long v117), .second, .val (.long v118), .second, .val (.long v119), .second, .val (.long v120), .second, .val (.long v121), .second, .val (.long v122), .second, .val (.ref b124), .val (.int v144), .val (.long v201), .second, .val (.int v202), .val (.long z216_l34), .second] []) by
      refine G.if_eq C (A := (v202 &&& (64 : Int32)).toInt) rfl at_393 (by decide) (by decide) (n := 396) (n' := 403) rfl (fun c393_215 c393_215i => ?_) (fun c393_215 c393_215i => ?_)
      · exact key216 _ (Or.inl ⟨c393_215, c393_215i, rfl⟩) 
      · refine G.lload C at_396 rfl (n := 398) rfl ?_
        refine G.lload C at_398 rfl (n := 400) rfl ?_
        refine G.lxor C at_400 (n := 401) rfl ?_
        refine G.lstore C at_401 (l' := #[.val (.int i0), .val (.long i1), .second, .val (.long i2), .second, .val (.long i3), .second, .val (.long i4), .second, .val (.int (1 : Int32)), .val (.int (8 : Int32)), .val (.int v113), .val (.int v114), .val (.long v115), .second, .val (.long v116), .second, .val (.long v117), .second, .val (.long v118), .second, .val (.long v119), .second, .val (.long v120), .second, .val (.long v121), .second, .val (.long v122), .second, .val (.ref b124), .val (.int v144), .val (.long v201), .second, .val (.int v202), .val (.long (z214_l34 ^^^ v121)), .second]) rfl (n := 403) rfl ?_
        exact key216 _ (Or.inr (⟨c393_215, c393_215i, rfl⟩)) 
    intro z216_l34 j216 
    have r6 := jn hV (t := 6) (by decide) (by decide) j216
    refine G.iload C at_403 rfl (n := 405) rfl ?_
    refine G.sipush C (v := (128 : Int32)) at_405 (by decide) (n := 408) rfl ?_
    refine G.iand C at_408 (n := 409) rfl ?_
    suffices key218 : ∀ (z218_l34 : Int64), ((((v202 &&& (128 : Int32)) = 0) ∧ ((v202 &&& (128 : Int32)).toInt = 0) ∧ (z218_l34 = z216_l34)) ∨ (((v202 &&& (128 : Int32)) ≠ 0) ∧ ((v202 &&& (128 : Int32)).toInt ≠ 0) ∧ (z218_l34 = (z216_l34 ^^^ v122)))) → Go p l e room_1 s m args below meth c n0 (Q_law Z h0 i0 i1 i2 i3 i4) 2 2049 h196 (mkF m 419 #[.val (.int i0), .val (.long i1), .second, .val (.long i2), .second, .val (.long i3), .second, .val (.long i4), .second, .val (.int (1 : Int32)), .val (.int (8 : Int32)), .val (.int v113), .val (.int v114), .val (.long v115), .second, .val (.long v116), .second, .val (.long v117), .second, .val (.long v118), .second, .val (.long v119), .second, .val (.long v120), .second, .val (.long v121), .second, .val (.long v122), .second, .val (.ref b124), .val (.int v144), .val (.long v201), .second, .val (.int v202), .val (.long z218_l34), .second] []) by
      refine G.if_eq C (A := (v202 &&& (128 : Int32)).toInt) rfl at_409 (by decide) (by decide) (n := 412) (n' := 419) rfl (fun c409_217 c409_217i => ?_) (fun c409_217 c409_217i => ?_)
      · exact key218 _ (Or.inl ⟨c409_217, c409_217i, rfl⟩) 
      · refine G.lload C at_412 rfl (n := 414) rfl ?_
        refine G.lload C at_414 rfl (n := 416) rfl ?_
        refine G.lxor C at_416 (n := 417) rfl ?_
        refine G.lstore C at_417 (l' := #[.val (.int i0), .val (.long i1), .second, .val (.long i2), .second, .val (.long i3), .second, .val (.long i4), .second, .val (.int (1 : Int32)), .val (.int (8 : Int32)), .val (.int v113), .val (.int v114), .val (.long v115), .second, .val (.long v116), .second, .val (.long v117), .second, .val (.long v118), .second, .val (.long v119), .second, .val (.long v120), .second, .val (.long v121), .second, .val (.long v122), .second, .val (.ref b124), .val (.int v144), .val (.long v201), .second, .val (.int v202), .val (.long (z216_l34 ^^^ v122)), .second]) rfl (n := 419) rfl ?_
        exact key218 _ (Or.inr (⟨c409_217, c409_217i, rfl⟩)) 
    intro z218_l34 j218 
    have r7 := jn hV (t := 7) (by decide) (by decide) j218
    refine G.lloadN C at_419 rfl (n := 420) rfl ?_
    refine G.bipush C (v := (8 : Int32)) at_420 (by decide) (n := 422) rfl ?_
    refine G.iload C at_422 rfl (n := 424) rfl ?_
    refine G.imul C at_424 (n := 425) rfl ?_
    refine G.bipush C (v := (7 : Int32)) at_425 (by decide) (n := 427) rfl ?_
    refine G.iadd C at_427 (n := 428) rfl ?_
    refine G.lushr C at_428 (n := 429) rfl ?_
    refine G.lconst C (v := (1 : Int64)) at_429 (by decide) (n := 430) rfl ?_
    refine G.land C at_430 (n := 431) rfl ?_
    refine G.lconst C (v := (0 : Int64)) at_431 (by decide) (n := 432) rfl ?_
    suffices key220 : ∀ (z220_l34 : Int64), ((((((i1.toUInt64 >>> ((((8 : Int32) * v114) + (7 : Int32)) &&& 0x3f).toInt64.toUInt64).toInt64) &&& (1 : Int64)) = (0 : Int64)) ∧ ((((i1.toUInt64 >>> ((((8 : Int32) * v114) + (7 : Int32)) &&& 0x3f).toInt64.toUInt64).toInt64) &&& (1 : Int64)).toInt = 0) ∧ (z220_l34 = z218_l34)) ∨ (((((i1.toUInt64 >>> ((((8 : Int32) * v114) + (7 : Int32)) &&& 0x3f).toInt64.toUInt64).toInt64) &&& (1 : Int64)) ≠ (0 : Int64)) ∧ ((((i1.toUInt64 >>> ((((8 : Int32) * v114) + (7 : Int32)) &&& 0x3f).toInt64.toUInt64).toInt64) &&& (1 : Int64)).toInt ≠ 0) ∧ (z220_l34 = (z218_l34 ^^^ i4)))) → Go p l e room_1 s m args below meth c n0 (Q_law Z h0 i0 i1 i2 i3 i4) 2 2049 h196 (mkF m 443 #[.val (.int i0), .val (.long i1), .second, .val (.long i2), .second, .val (.long i3), .second, .val (.long i4), .second, .val (.int (1 : Int32)), .val (.int (8 : Int32)), .val (.int v113), .val (.int v114), .val (.long v115), .second, .val (.long v116), .second, .val (.long v117), .second, .val (.long v118), .second, .val (.long v119), .second, .val (.long v120), .second, .val (.long v121), .second, .val (.long v122), .second, .val (.ref b124), .val (.int v144), .val (.long v201), .second, .val (.int v202), .val (.long z220_l34), .second] []) by
      refine G.lcmp_eq C (A := (((i1.toUInt64 >>> ((((8 : Int32) * v114) + (7 : Int32)) &&& 0x3f).toInt64.toUInt64).toInt64) &&& (1 : Int64)).toInt) (B := 0) rfl (by decide) at_432 at_433 (by decide) (by decide) (n := 436) (n' := 443) rfl (fun c433_219 c433_219i => ?_) (fun c433_219 c433_219i => ?_)
      · exact key220 _ (Or.inl ⟨c433_219, c433_219i, rfl⟩) 
      · refine G.lload C at_436 rfl (n := 438) rfl ?_
        refine G.lload C at_438 rfl (n := 440) rfl ?_
        refine G.lxor C at_440 (n := 441) rfl ?_
        refine G.lstore C at_441 (l' := #[.val (.int i0), .val (.long i1), .second, .val (.long i2), .second, .val (.long i3), .second, .val (.long i4), .second, .val (.int (1 : Int32)), .val (.int (8 : Int32)), .val (.int v113), .val (.int v114), .val (.long v115), .second, .val (.long v116), .second, .val (.long v117), .second, .val (.long v118), .second, .val (.long v119), .second, .val (.long v120), .second, .val (.long v121), .second, .val (.long v122), .second, .val (.ref b124), .val (.int v144), .val (.long v201), .second, .val (.int v202), .val (.long (z218_l34 ^^^ i4)), .second]) rfl (n := 443) rfl ?_
        exact key220 _ (Or.inr (⟨c433_219, c433_219i, rfl⟩)) 
    intro z220_l34 j220 
    have r8 := jn9 (K := K) (by omega) ((iadd_n hk8 (B := 7) rfl (by omega)).trans (by omega)) j220
    refine G.lload C at_443 rfl (n := 445) rfl ?_
    refine G.lload C at_445 rfl (n := 447) rfl ?_
    refine G.lcmp_ne C (A := v201.toInt) (B := z220_l34.toInt) rfl rfl at_447 at_448 (by decide) (by decide) (n := 451) (n' := 455) rfl (fun c448_221 c448_221i => ?_) (fun c448_221 c448_221i => ?_)
    · exact absurd (by rw [hv201]; exact fin8 hJn hKn hKJ r0 r1 r2 r3 r4 r5 r6 r7 r8 rfl) c448_221
    refine G.iconst C (v := (1 : Int32)) at_451 (by decide) (n := 452) rfl ?_
    refine G.goto C at_452 (by decide) (n := 456) (by decide) ?_
    refine G.ireturn C at_456 (rfl) (by simp) (by decide) (by decide) ?_
    exact rfl
set_option maxRecDepth 65536 in
set_option maxHeartbeats 40000000 in
theorem comes_1 {Post : Tables → Env → Array Value → State → Outcome → State → Prop} (hpost : ∀ tb e args s v u, (limb_1_1.after args s (.returned v) u = true ∧ limb_1_2.after args s (.returned v) u = true ∧ True) → FrameEnd s (.returned v) u (Jvm.fieldLocs frame_1_writes args s ++ Jvm.arrayLocs frame_1_arrays args s ++ Jvm.staticLocs frame_1_statics s) 16 4224 → Post tb e args s (.returned v) u) :
    ArmFor flags0 classFile x code maxLocals ret World_1 tables_1 room_1 Calls_1 rest_1 Pre_1 Post := by
  intro l hfl _ _ p e ha hc hk s m args below hf hA hF happ hP
  obtain ⟨hcalls, hrest, hpre⟩ := hP
  obtain ⟨-, -, -, hnamed, -, -, -, hat⟩ := (Spec.applies_iff hf).mp happ
  obtain ⟨hg, hn⟩ := and_e (Cond.before_iff.mp (show (Jvm.Cond.and given_1 narrow_1).before args s = true from hpre))
  obtain ⟨k1, k2⟩ := and_e hg
  obtain ⟨w0, w1, w2, w3, w4, rfl⟩ : ∃ w0 w1 w2 w3 w4 : Value, args = #[w0, w1, w2, w3, w4] := by
    have hs : args.size = 5 := by simpa [Cond.value, given_1] using k1
    obtain ⟨L⟩ := args
    match L, hs with
    | [w0, w1, w2, w3, w4], _ => exact ⟨w0, w1, w2, w3, w4, rfl⟩
  have hw := fun d (hd : d ∈ tables_1) => atoms_spec (ws := Jvm.Cond.code x code maxLocals ret :: tables_1) hat d (List.mem_cons_of_mem _ hd)
  have hfit : Fit s := fun {y c} hc i hi => by
    obtain ⟨ha, rfl⟩ := Array.getElem?_eq_some_iff.mp hc
    have q := List.all_eq_true.mp ((Array.all_eq_true_iff_forall_mem.mp hF) _ (Array.getElem_mem ha)) i (List.mem_range.mpr hi)
    simpa [Array.getElem?_eq_getElem hi] using q
  obtain ⟨u0, k2⟩ := and_e k2
  obtain ⟨i0, e0⟩ := is_v u0
  obtain rfl : w0 = (.int i0) := Option.some.inj e0
  obtain ⟨u1, k2⟩ := and_e k2
  obtain ⟨i1, e1⟩ := isL_v u1
  obtain rfl : w1 = (.long i1) := Option.some.inj e1
  obtain ⟨u2, k2⟩ := and_e k2
  obtain ⟨i2, e2⟩ := isL_v u2
  obtain rfl : w2 = (.long i2) := Option.some.inj e2
  obtain ⟨u3, k2⟩ := and_e k2
  obtain ⟨i3, e3⟩ := isL_v u3
  obtain rfl : w3 = (.long i3) := Option.some.inj e3
  have u4 := k2
  obtain ⟨i4, e4⟩ := isL_v u4
  obtain rfl : w4 = (.long i4) := Option.some.inj e4
  obtain ⟨n, o, h1, h2, h3, _, L, rfl, ⟨N, rfl⟩, hq⟩ := m_law l s _ hw i0 i1 i2 i3 i4 s.heap s.heap.size (Nat.le_refl _)  tables_1 p e ha hc hk s m _ below hf ((Spec.applies_iff_loose hf).mp happ).1 ⟨rfl, State.Warmed39.refl s, rfl⟩ trivial
  refine ⟨n, _, h1, h2, h3, hpost _ _ _ _ _ _ ⟨Cond.after_iff.mpr rfl, Cond.after_iff.mpr (eq_i res_at (Term.int_eval (1)) rfl), trivial⟩ ⟨hq.1, hq.2.1, (hq.2.2.sift fun y hy => Or.inr (N y hy)).mono (by decide) (by decide)⟩⟩
theorem main_1_1 : Claimed_1_1 := comes_1 fun _ _ _ _ _ _ h hF => ⟨h.1, hF⟩
theorem main_1_2 : Claimed_1_2 := comes_1 fun _ _ _ _ _ _ h hF => ⟨h.2.1, hF⟩
end Jvm.Pilot.@@N@@
namespace Jvm.Pilot.@@N@@
open Jvm Jvm.ClassFile Sem Op Lib Jvm.Free Jvm.Stand Jvm.Pilot.@@N@@.Jvm.D
/-! MADE BY PROGRAM (witnessworld.py) out of the Statement's table words and the real class files: 11 classes; the members and pool entries that the words name. The judged class is class 1, her method 1. -/
namespace start1
open Jvm.ClassFile
def u (s : String) : CpInfo := .utf8 (stringToUtf16 s)
/-- a pool by its gaps: so many unusable entries, then the entry; so many at the end -/
def gap : Nat → List CpInfo → List CpInfo
  | 0, r => r
  | n + 1, r => .unusable :: gap n r
def poolList (es : List (Nat × CpInfo)) (last : Nat) : List CpInfo := es.foldr (fun e r => gap e.1 (e.2 :: r)) (gap last [])
def pool (es : List (Nat × CpInfo)) (last : Nat) : Array CpInfo := ⟨poolList es last⟩
def fileOf (pool : Array CpInfo) (this : Nat) (attrs : Array Attribute := #[]) (ms : Array MethodInfo := #[]) (fl : Nat := 33) (sup : Nat := 0) (ifs : Array Nat := #[]) (fds : Array FieldInfo := #[]) : ClassFile where
  minorVersion := 0
  majorVersion := 65
  constantPool := pool
  accessFlags := fl
  thisClass := this
  superClass := sup
  interfaces := ifs
  fields := fds
  methods := ms
  attributes := attrs
def plain (name : String) (sup : Option ClassId) : Class where
  name := name
  kind := .ordinary
  loader := none
  accessFlags := 33
  super := sup
  interfaces := #[]
  cf := none
  fields := #[]
  methods := #[]
  instanceTypes := #[]
  staticTypes := #[]
  resolved := #[]
  callSites := []
  init := .initialized
  statics := none
  mirror := none

def pool0 : Array CpInfo := pool [(5, u "<init>"), (0, u "()V"), (1, .class_ 10), (1, u "java/lang/Object")] 113

def k0c0 : Code := { maxStack := 0, maxLocals := 1, code := object_method_1_code, exceptionTable := #[], attributes := #[] }
def k0m0 : Method := { name := "<init>", desc := "()V", sig := { parameters := [], returnType := none }, accessFlags := 1, code := some k0c0 }
/-- java/lang/Object -/
def k0 : Class := { plain "java/lang/Object" none with
  accessFlags := 33
  interfaces := #[]
  cf := some (fileOf pool0 8 #[] #[{ accessFlags := 1, nameIndex := 5, descriptorIndex := 6, attributes := #[] }] 33 0 #[] #[])
  fields := #[]
  methods := #[k0m0]
  instanceTypes := #[]
  staticTypes := #[]
  resolved := Array.replicate 124 none
  statics := none }

def pool1 : Array CpInfo := pool [(2, .class_ 4), (1, u "java/lang/Object"), (0, u "<init>"), (0, u "()V"), (0, .integer 2147483647), (0, .long 3), (1, .long 5), (1, .long 7), (1, .long 9), (1, .long 11), (1, .long 13), (1, .long 15), (1, .class_ 23), (0, u "com/example/parley/parley/LinearMap"), (0, .methodref 22 25), (0, .nameAndType 5 26), (0, u "(I)V"), (0, .methodref 22 28), (0, .nameAndType 29 30), (0, u "set"), (0, u "(IJ)V"), (0, .methodref 22 32), (0, .nameAndType 33 34), (0, u "image"), (0, u "(J)J"), (0, .class_ 36), (0, u "com/example/parley/parley/LinearMapImagePinLaw"), (2, u "law"), (0, u "(IJJJJ)Z")] 3

def k1m0 : Method := { name := "<init>", desc := "()V", sig := { parameters := [], returnType := none }, accessFlags := 1, code := none }
def k1c1 : Code := { maxStack := 5, maxLocals := 36, code := code, exceptionTable := #[], attributes := #[] }
def k1m1 : Method := { name := "law", desc := "(IJJJJ)Z", sig := { parameters := [.int, .long, .long, .long, .long], returnType := some .boolean }, accessFlags := 9, code := some k1c1 }
/-- com/example/parley/parley/LinearMapImagePinLaw -/
def k1 : Class := { plain "com/example/parley/parley/LinearMapImagePinLaw" (some 0) with
  accessFlags := 49
  interfaces := #[]
  cf := some (fileOf pool1 35 #[] #[{ accessFlags := 1, nameIndex := 5, descriptorIndex := 6, attributes := #[] }, { accessFlags := 9, nameIndex := 39, descriptorIndex := 40, attributes := #[] }] 49 2 #[] #[])
  fields := #[]
  methods := #[k1m0, k1m1]
  instanceTypes := #[]
  staticTypes := #[]
  resolved := Array.replicate 44 none
  statics := none }

def pool2 : Array CpInfo := pool [(1, .methodref 2 3), (0, .class_ 4), (0, .nameAndType 5 6), (0, u "java/lang/Object"), (0, u "<init>"), (0, u "()V"), (2, .fieldref 10 11), (0, .class_ 12), (0, .nameAndType 13 14), (0, u "com/example/parley/parley/LinearMap"), (0, u "images"), (0, u "[J"), (0, u "(I)V"), (2, u "set"), (0, u "(IJ)V"), (1, u "image"), (0, u "(J)J")] 3

def k2c0 : Code := { maxStack := 3, maxLocals := 2, code := prog_16_method_1_code, exceptionTable := #[], attributes := #[] }
def k2m0 : Method := { name := "<init>", desc := "(I)V", sig := { parameters := [.int], returnType := none }, accessFlags := 0, code := some k2c0 }
def k2c1 : Code := { maxStack := 7, maxLocals := 7, code := prog_16_method_2_code, exceptionTable := #[], attributes := #[] }
def k2m1 : Method := { name := "set", desc := "(IJ)V", sig := { parameters := [.int, .long], returnType := none }, accessFlags := 0, code := some k2c1 }
def k2c2 : Code := { maxStack := 9, maxLocals := 6, code := prog_16_method_3_code, exceptionTable := #[], attributes := #[] }
def k2m2 : Method := { name := "image", desc := "(J)J", sig := { parameters := [.long], returnType := some .long }, accessFlags := 0, code := some k2c2 }
/-- com/example/parley/parley/LinearMap -/
def k2 : Class := { plain "com/example/parley/parley/LinearMap" (some 0) with
  accessFlags := 48
  interfaces := #[]
  cf := some (fileOf pool2 10 #[] #[{ accessFlags := 0, nameIndex := 5, descriptorIndex := 15, attributes := #[] }, { accessFlags := 0, nameIndex := 18, descriptorIndex := 19, attributes := #[] }, { accessFlags := 0, nameIndex := 21, descriptorIndex := 22, attributes := #[] }] 48 2 #[] #[{ accessFlags := 18, nameIndex := 13, descriptorIndex := 14, attributes := #[] }])
  fields := #[{ name := "images", type := (.array .long), accessFlags := 18, slot := 0, constantValue := 0 }]
  methods := #[k2m0, k2m1, k2m2]
  instanceTypes := #[(.array .long)]
  staticTypes := #[]
  resolved := Array.replicate 26 none
  statics := none }

def pool3 : Array CpInfo := pool [(1, u "java/lang/Cloneable"), (0, .class_ 1), (0, u "java/lang/Object"), (0, .class_ 3)] 3

/-- java/lang/Cloneable -/
def k3 : Class := { plain "java/lang/Cloneable" (some 0) with
  accessFlags := 1537
  interfaces := #[]
  cf := some (fileOf pool3 2 #[] #[] 1537 4 #[] #[])
  fields := #[]
  methods := #[]
  instanceTypes := #[]
  staticTypes := #[]
  resolved := Array.replicate 8 none
  statics := none }

def pool4 : Array CpInfo := pool [(1, u "java/io/Serializable"), (0, .class_ 1), (0, u "java/lang/Object"), (0, .class_ 3)] 3

/-- java/io/Serializable -/
def k4 : Class := { plain "java/io/Serializable" (some 0) with
  accessFlags := 1537
  interfaces := #[]
  cf := some (fileOf pool4 2 #[] #[] 1537 4 #[] #[])
  fields := #[]
  methods := #[]
  instanceTypes := #[]
  staticTypes := #[]
  resolved := Array.replicate 8 none
  statics := none }

/-- the primitive byte -/
def k5 : Class := { plain "byte" none with kind := .primitive 'B', accessFlags := 0x411 }
/-- [B -/
def k6 : Class := { plain "[B" (some 0) with kind := .array 5 .byte, interfaces := #[3, 4], accessFlags := 1041 }

/-- the primitive int -/
def k7 : Class := { plain "int" none with kind := .primitive 'I', accessFlags := 0x411 }
/-- [I -/
def k8 : Class := { plain "[I" (some 0) with kind := .array 7 .int, interfaces := #[3, 4], accessFlags := 1041 }

/-- the primitive long -/
def k9 : Class := { plain "long" none with kind := .primitive 'J', accessFlags := 0x411 }
/-- [J -/
def k10 : Class := { plain "[J" (some 0) with kind := .array 9 .long, interfaces := #[3, 4], accessFlags := 1041 }

def heap : Heap := #[]
def classes : Array Class := #[k0, k1, k2, k3, k4, k5, k6, k7, k8, k9, k10]
def interned : List (Array UInt16 × Addr) := []
def slotsUsed : Nat := 0
def theMethod : MethodId := ⟨1, 1⟩
def args0 : Array Value := #[.int 5, .long 6, .long 7, .long 1, .long 3]
def aboutOver (below : List Frame) : State where
  vm := { classes := classes, interned := interned.toArray }
  heap := heap
  slotsUsed := slotsUsed
  threads := #[{ frames := .invoking theMethod args0 :: below }]
def below0 : List Frame := [.native { method := ⟨0, 0⟩, args := #[] }]
def about1 : State := aboutOver below0
def p0 : Program := .bare "" "" ""
def e0 : Env := launch0.env 0 0 0
theorem w_frames : about1.frames = Frame.invoking theMethod args0 :: below0 := rfl
set_option maxRecDepth 65536 in
theorem w_args : argsFit about1.vm theMethod args0 = true := by decide +kernel
set_option maxRecDepth 65536 in
theorem w_heap : heapFits about1 = true := by decide +kernel
set_option maxRecDepth 65536 in
theorem w_runnable : about1.curStatus? = some .runnable := by decide +kernel
set_option maxRecDepth 65536 in
theorem w_alone : about1.alone = true := by decide +kernel
set_option maxRecDepth 65536 in
theorem w_named : about1.methodNamed? x = some theMethod := by decide +kernel
set_option maxRecDepth 65536 in
theorem w_hears : about1.hears theMethod below0 = true := by decide +kernel
set_option maxRecDepth 65536 in
theorem w_ripe : about1.ripe theMethod args0 below0 = true := by decide +kernel
theorem w_running : about1.status = .running := rfl
set_option maxRecDepth 65536 in
theorem w_room : about1.hasRoom e0.platform room_1 = true :=
  launch0.hasRoom_least _ room_1 (by decide +kernel) (by decide +kernel) (by decide +kernel) (by decide +kernel) (by decide +kernel) (by decide +kernel)
theorem allAtoms_all (ts : List Jvm.Cond) (a : Array Jvm.Value) (st : Jvm.State) : (allAtoms ts).before a st = ts.all (fun c => c.before a st) := by
  induction ts with
  | nil => rfl
  | cons c t ih =>
    show (Jvm.Cond.and c (allAtoms t)).before a st = _
    rw [Jvm.Cond.before_and, ih, List.all_cons]
def words1 : List Jvm.Cond := Jvm.Cond.code x code maxLocals ret :: tables_1
/-- a 'code' word, met by the world's own term for the bytes: nothing is compared byte by byte -/
theorem code_word {y : MethodName} {bytes : ByteArray} {mx : Nat} {rt : Option FieldType} {a : Array Value} {s : State} {m : MethodId} {meth : Method} {c : Code} (h1 : s.methodNamed? y = some m) (h2 : s.vm.method? m = some meth) (h3 : meth.code = some c) (h4 : c.code = bytes)
    (h5 : (c.maxLocals == mx && c.exceptionTable.isEmpty && decide (c.maxStack ≤ mostOperands) && decide (meth.sig.returnType = rt) && !meth.locks && decide (parseMethodDescriptor y.desc = some meth.sig)) = true) : (Jvm.Cond.code y bytes mx rt).before a s = true := by
  simp only [Bool.and_eq_true, beq_iff_eq, Bool.not_eq_true', decide_eq_true_eq] at h5
  obtain ⟨⟨⟨⟨⟨g1, g2⟩, g3⟩, g4⟩, g5⟩, g6⟩ := h5
  simp [Cond.before, Cond.holds, Cond.value, h1, h2, h3, h4, g1, g2, g3, g4, g5, g6]
def isCode : Jvm.Cond → Bool
  | .code _ _ _ _ => true
  | _ => false
theorem all_split {L : List Jvm.Cond} {P : Jvm.Cond → Bool} (h1 : L.all (fun c => isCode c || P c) = true) (h2 : ∀ c ∈ L.filter isCode, P c = true) : L.all P = true := by
  refine List.all_eq_true.mpr fun c hc => ?_
  have h := List.all_eq_true.mp h1 c hc
  rcases Bool.eq_false_or_eq_true (isCode c) with hi | hi
  · exact h2 c (List.mem_filter.mpr ⟨hc, hi⟩)
  · simpa [hi] using h
set_option maxRecDepth 65536 in
theorem w_c0 : (Jvm.Cond.code x code maxLocals ret).before args0 about1 = true := code_word (m := ⟨1, 1⟩) (meth := k1m1) (c := k1c1) (by decide +kernel) rfl rfl rfl (by decide +kernel)
set_option maxRecDepth 65536 in
theorem w_c1 : (Jvm.Cond.code ({ cls := "com/example/parley/parley/LinearMap", name := "<init>", desc := "(I)V" } : Jvm.MethodName) prog_16_method_1_code (2 : Nat) (Option.none : Option Jvm.ClassFile.FieldType)).before args0 about1 = true := code_word (m := ⟨2, 0⟩) (meth := k2m0) (c := k2c0) (by decide +kernel) rfl rfl rfl (by decide +kernel)
set_option maxRecDepth 65536 in
theorem w_c2 : (Jvm.Cond.code ({ cls := "java/lang/Object", name := "<init>", desc := "()V" } : Jvm.MethodName) object_method_1_code (1 : Nat) (Option.none : Option Jvm.ClassFile.FieldType)).before args0 about1 = true := code_word (m := ⟨0, 0⟩) (meth := k0m0) (c := k0c0) (by decide +kernel) rfl rfl rfl (by decide +kernel)
set_option maxRecDepth 65536 in
theorem w_c3 : (Jvm.Cond.code ({ cls := "com/example/parley/parley/LinearMap", name := "set", desc := "(IJ)V" } : Jvm.MethodName) prog_16_method_2_code (7 : Nat) (Option.none : Option Jvm.ClassFile.FieldType)).before args0 about1 = true := code_word (m := ⟨2, 1⟩) (meth := k2m1) (c := k2c1) (by decide +kernel) rfl rfl rfl (by decide +kernel)
set_option maxRecDepth 65536 in
theorem w_c4 : (Jvm.Cond.code ({ cls := "com/example/parley/parley/LinearMap", name := "image", desc := "(J)J" } : Jvm.MethodName) prog_16_method_3_code (6 : Nat) (Option.some Jvm.ClassFile.FieldType.long)).before args0 about1 = true := code_word (m := ⟨2, 2⟩) (meth := k2m2) (c := k2c2) (by decide +kernel) rfl rfl rfl (by decide +kernel)
def codes1 : List Jvm.Cond := [Jvm.Cond.code x code maxLocals ret, Jvm.Cond.code ({ cls := "com/example/parley/parley/LinearMap", name := "<init>", desc := "(I)V" } : Jvm.MethodName) prog_16_method_1_code (2 : Nat) (Option.none : Option Jvm.ClassFile.FieldType), Jvm.Cond.code ({ cls := "java/lang/Object", name := "<init>", desc := "()V" } : Jvm.MethodName) object_method_1_code (1 : Nat) (Option.none : Option Jvm.ClassFile.FieldType), Jvm.Cond.code ({ cls := "com/example/parley/parley/LinearMap", name := "set", desc := "(IJ)V" } : Jvm.MethodName) prog_16_method_2_code (7 : Nat) (Option.none : Option Jvm.ClassFile.FieldType), Jvm.Cond.code ({ cls := "com/example/parley/parley/LinearMap", name := "image", desc := "(J)J" } : Jvm.MethodName) prog_16_method_3_code (6 : Nat) (Option.some Jvm.ClassFile.FieldType.long)]
set_option maxRecDepth 65536 in
theorem codes_eq : words1.filter isCode = codes1 := rfl
theorem w_codes : ∀ c ∈ words1.filter isCode, c.before args0 about1 = true := by
  rw [codes_eq]
  intro c hc
  simp only [codes1, List.mem_cons, List.not_mem_nil, or_false] at hc
  rcases hc with rfl | rfl | rfl | rfl | rfl
  · exact w_c0
  · exact w_c1
  · exact w_c2
  · exact w_c3
  · exact w_c4
set_option maxRecDepth 65536 in
theorem w_t1 : (words1.take 24).all (fun c => isCode c || c.before args0 about1) = true := by decide +kernel
set_option maxRecDepth 65536 in
theorem w_t2 : (words1.drop 24).all (fun c => isCode c || c.before args0 about1) = true := by decide +kernel
theorem w_tables : (allAtoms (Jvm.Cond.code x code maxLocals ret :: tables_1)).before args0 about1 = true := by
  rw [allAtoms_all]
  show words1.all (fun c => c.before args0 about1) = true
  refine all_split ?_ w_codes
  rw [← List.take_append_drop 24 words1, List.all_append, w_t1, w_t2]
  rfl
set_option maxRecDepth 65536 in
theorem w_case : (Jvm.Cond.and given_1 narrow_1).before args0 about1 = true := by decide +kernel
theorem w_applies : (headSpec (Jvm.Cond.code x code maxLocals ret :: tables_1) room_1).applies x e0.platform about1 = true :=
  (Spec.applies_iff w_frames).mpr ⟨w_running, w_runnable, w_alone, w_named, w_hears, w_ripe, w_room, w_tables⟩
theorem atStart : AtStart classFile x code maxLocals ret World_1 tables_1 room_1 Calls_1 rest_1 Pre_1 launch0 p0 e0 about1 theMethod args0 below0 :=
  ⟨lists_1, trivial, launch0.admits_env _ _ _, launch0.least_env, fairChoices_fair.cas, fairChoices_fair.clock, w_frames, w_args, w_heap, w_applies, trivial, trivial, w_case⟩
end start1
theorem witness_1 : WitnessClaimed_1 := ⟨start1.p0, start1.e0, start1.about1, start1.theMethod, start1.args0, start1.below0, start1.atStart⟩
end Jvm.Pilot.@@N@@
