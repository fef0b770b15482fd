import JvmDerived
import JvmDerived.Pilot.@@N@@Statement
import JvmDerived.Pilot.@@N@@Code
set_option linter.unusedVariables false
set_option linter.unusedSimpArgs false
namespace Jvm.Own
open Jvm Jvm.ClassFile Sem Op Lib Jvm.Free Jvm.Stand Jvm.LawKit Jvm.RoadKit
def b2i (b : Bool) : Int32 := if b then 1 else 0
theorem wd {ws : List Jvm.Cond} {a0 : Array Value} {Z : State} (hw : ∀ d ∈ ws, d.before a0 Z = true) (i : Nat) {d : Jvm.Cond} (h : ws[i]? = some d) : d.before a0 Z = true := hw d (List.mem_of_getElem? h)
/-- a contract of a body: from the heap h with these arguments it returns, writes nothing below n0, and Q holds of what it returns and of the heap -/
def Met (l : Launch) (Z : State) (y : MethodName) (bytes : ByteArray) (maxL : Nat) (ret : Option FieldType) (rm : Room) (as' : Array Value) (h : Heap) (n0 : Nat) (Q : Option Value → Heap → Prop) : Prop :=
  ∀ ws, MetFree l y (head1 (Jvm.Cond.code y bytes maxL ret :: ws) rm) (fun a U => a = as' ∧ Z.Warmed39 U.vm ∧ U.heap = h) (fun _ _ _ _ _ => True) (fun _ U o U' => ∃ v L, o = .returned v ∧ (Fr n0 L ∧ Q v U'.heap) ∧ FrameEnd U o U' L rm.cells rm.slots)
def Cx (p : Program) (s : State) (m : MethodId) (meth : Method) (c : Code) (Z : State) (y : MethodName) (bytes : ByteArray) (maxL : Nat) (ret : Option FieldType) : Prop :=
  p.tables.exec = Jvm.exec ∧ Z.Warmed39 s.vm ∧ s.vm.findClass y.cls = some m.cls ∧ meth.name = y.name ∧ c.code = bytes ∧ c.maxLocals = maxL ∧ meth.sig.returnType = ret ∧ meth.locks = false
def Go (p : Program) (l : Launch) (e : Env) (R : Room) (s : State) (m : MethodId) (args : Array Value) (below : List Frame) (meth : Method) (c : Code) (n0 : Nat) (Q : Option Value → Heap → Prop) (cells slots : Nat) (h : Heap) (f : JFrame) : Prop :=
  ∀ T locs, Stand p l e R s m args below meth c T locs cells slots → Fr n0 locs → T.heap = h → ∃ t o, Steps p.tables e below (T.setTop f) t ∧ t.status = .running ∧ Ended t below o ∧ ∃ v L, o = .returned v ∧ (Fr n0 L ∧ Q v t.heap) ∧ FrameEnd s o t L R.cells R.slots
section
variable {p : Program} {l : Launch} {e : Env} {R : Room} {s : State} {m : MethodId} {args : Array Value} {below : List Frame} {meth : Method} {c : Code} {Z : State} {y : MethodName} {bytes : ByteArray} {maxL : Nat} {ret : Option FieldType} {n0 : Nat} {Q : Option Value → Heap → Prop} {cells slots : Nat} {h : Heap} {pc n n' : Nat} {Ls : Array Slot} {st : List Value} {a0 : Array Value}
theorem Cx.x (C : Cx p s m meth c Z y bytes maxL ret) : p.tables.exec = Jvm.exec := C.1
theorem Cx.z (C : Cx p s m meth c Z y bytes maxL ret) : Z.Warmed39 s.vm := C.2.1
theorem Cx.own (C : Cx p s m meth c Z y bytes maxL ret) : s.vm.findClass y.cls = some m.cls := C.2.2.1
theorem Cx.nm (C : Cx p s m meth c Z y bytes maxL ret) : meth.name = y.name := C.2.2.2.1
theorem Cx.by (C : Cx p s m meth c Z y bytes maxL ret) : c.code = bytes := C.2.2.2.2.1
theorem Cx.ml (C : Cx p s m meth c Z y bytes maxL ret) : c.maxLocals = maxL := C.2.2.2.2.2.1
theorem Cx.rt (C : Cx p s m meth c Z y bytes maxL ret) : meth.sig.returnType = ret := C.2.2.2.2.2.2.1
theorem Cx.locks (C : Cx p s m meth c Z y bytes maxL ret) : meth.locks = false := C.2.2.2.2.2.2.2
theorem Met.of {rm : Room} {as' : Array Value} {Ls0 : Array Slot} (hp : plainFor y = true) (he : ∀ m, entryFrame m as' maxL = mkF m 0 Ls0 [])
    (body : ∀ p e s m args below meth c, Cx p s m meth c Z y bytes maxL ret → Go p l e rm s m args below meth c n0 Q 0 0 h (mkF m 0 Ls0 [])) : Met l Z y bytes maxL ret rm as' h n0 Q := by
  intro ws
  refine MetFree.of_bodySF hp hisR ?_
  intro p e s m args below meth c s₁ Bd hml0 hP hK
  obtain ⟨rfl, hZ, hh⟩ := hP
  have C : Cx p s m meth c Z y bytes maxL ret := ⟨Bd.exec, hZ, findClass_of_methodNamed Bd.named, (name_of_methodNamed Bd.named Bd.method).1, Bd.bytes, hml0, Bd.returns, Bd.notSynchronized⟩
  have X0 : Stand p l e rm s m args below meth c s₁ [] 0 0 := Stand.of_body Bd
  have e0 : s₁.heap = h := by rw [← hh, Bd.state]; rfl
  obtain ⟨t, o, st, r⟩ := body p e s m args below meth c C s₁ [] X0 (Fr.nil n0) e0
  exact ⟨t, o, castTop (he m) st, r⟩
theorem Met.weaken {rm : Room} {as' : Array Value} {Q' : Option Value → Heap → Prop} (M : Met l Z y bytes maxL ret rm as' h n0 Q) (q : ∀ v h', Q v h' → Q' v h') : Met l Z y bytes maxL ret rm as' h n0 Q' := by
  intro ws p e ha hc hk s m args below hf happ hP hK
  obtain ⟨n, o, h1, h2, h3, v, L, h4, h5, h6⟩ := M ws p e ha hc hk s m args below hf happ hP hK
  exact ⟨n, o, h1, h2, h3, v, L, h4, ⟨h5.1, q _ _ h5.2⟩, h6⟩
theorem Go.via {f f' : JFrame} (hs : ∀ T locs, Stand p l e R s m args below meth c T locs cells slots → T.heap = h → ∀ t, Steps p.tables e below (T.setTop f') t → Steps p.tables e below (T.setTop f) t)
    (k : Go p l e R s m args below meth c n0 Q cells slots h f') : Go p l e R s m args below meth c n0 Q cells slots h f := fun T locs X N q => by
  obtain ⟨t, o, st, r⟩ := k T locs X N q
  exact ⟨t, o, hs T locs X q t st, r⟩
theorem Go.mono {f : JFrame} {cells' slots' : Nat} (h1 : cells ≤ cells') (h2 : slots ≤ slots') (k : Go p l e R s m args below meth c n0 Q cells' slots' h f) : Go p l e R s m args below meth c n0 Q cells slots h f := fun T locs X N q =>
  k T locs ⟨X.admits, X.cas, X.clock, X.frames, X.room, X.hears, X.method, X.code, X.here, X.tail, X.warmed, X.limits, X.bytes, X.same.mono h1 h2⟩ N q
theorem Go.cast {f f' : JFrame} (q : f = f') (k : Go p l e R s m args below meth c n0 Q cells slots h f') : Go p l e R s m args below meth c n0 Q cells slots h f := q ▸ k

theorem G.iadd (C : Cx p s m meth c Z y bytes maxL ret) {x1 x2 : Int32} (hd : decode bytes pc = .ok (.iadd, 1))  (hn : pc + 1 = n) (k : Go p l e R s m args below meth c n0 Q cells slots h (mkF m n Ls (.int (x1 + x2) :: st))) : Go p l e R s m args below meth c n0 Q cells slots h (mkF m pc Ls (.int x2 :: .int x1 :: st)) := by
  subst hn
  exact Go.via (fun T locs X _ t q => XS.iadd X.here C.x rfl (hb C.by hd) rfl q) k
theorem G.isub (C : Cx p s m meth c Z y bytes maxL ret) {x1 x2 : Int32} (hd : decode bytes pc = .ok (.isub, 1))  (hn : pc + 1 = n) (k : Go p l e R s m args below meth c n0 Q cells slots h (mkF m n Ls (.int (x1 - x2) :: st))) : Go p l e R s m args below meth c n0 Q cells slots h (mkF m pc Ls (.int x2 :: .int x1 :: st)) := by
  subst hn
  exact Go.via (fun T locs X _ t q => XS.isub X.here C.x rfl (hb C.by hd) rfl q) k
theorem G.imul (C : Cx p s m meth c Z y bytes maxL ret) {x1 x2 : Int32} (hd : decode bytes pc = .ok (.imul, 1))  (hn : pc + 1 = n) (k : Go p l e R s m args below meth c n0 Q cells slots h (mkF m n Ls (.int (x1 * x2) :: st))) : Go p l e R s m args below meth c n0 Q cells slots h (mkF m pc Ls (.int x2 :: .int x1 :: st)) := by
  subst hn
  exact Go.via (fun T locs X _ t q => XS.imul X.here C.x rfl (hb C.by hd) rfl q) k
theorem G.iand (C : Cx p s m meth c Z y bytes maxL ret) {x1 x2 : Int32} (hd : decode bytes pc = .ok (.iand, 1))  (hn : pc + 1 = n) (k : Go p l e R s m args below meth c n0 Q cells slots h (mkF m n Ls (.int (x1 &&& x2) :: st))) : Go p l e R s m args below meth c n0 Q cells slots h (mkF m pc Ls (.int x2 :: .int x1 :: st)) := by
  subst hn
  exact Go.via (fun T locs X _ t q => XS.iand X.here C.x rfl (hb C.by hd) rfl q) k
theorem G.ior (C : Cx p s m meth c Z y bytes maxL ret) {x1 x2 : Int32} (hd : decode bytes pc = .ok (.ior, 1))  (hn : pc + 1 = n) (k : Go p l e R s m args below meth c n0 Q cells slots h (mkF m n Ls (.int (x1 ||| x2) :: st))) : Go p l e R s m args below meth c n0 Q cells slots h (mkF m pc Ls (.int x2 :: .int x1 :: st)) := by
  subst hn
  exact Go.via (fun T locs X _ t q => XS.ior X.here C.x rfl (hb C.by hd) rfl q) k
theorem G.ixor (C : Cx p s m meth c Z y bytes maxL ret) {x1 x2 : Int32} (hd : decode bytes pc = .ok (.ixor, 1))  (hn : pc + 1 = n) (k : Go p l e R s m args below meth c n0 Q cells slots h (mkF m n Ls (.int (x1 ^^^ x2) :: st))) : Go p l e R s m args below meth c n0 Q cells slots h (mkF m pc Ls (.int x2 :: .int x1 :: st)) := by
  subst hn
  exact Go.via (fun T locs X _ t q => XS.ixor X.here C.x rfl (hb C.by hd) rfl q) k
theorem G.ladd (C : Cx p s m meth c Z y bytes maxL ret) {x1 x2 : Int64} (hd : decode bytes pc = .ok (.ladd, 1))  (hn : pc + 1 = n) (k : Go p l e R s m args below meth c n0 Q cells slots h (mkF m n Ls (.long (x1 + x2) :: st))) : Go p l e R s m args below meth c n0 Q cells slots h (mkF m pc Ls (.long x2 :: .long x1 :: st)) := by
  subst hn
  exact Go.via (fun T locs X _ t q => XS.ladd X.here C.x rfl (hb C.by hd) rfl q) k
theorem G.lsub (C : Cx p s m meth c Z y bytes maxL ret) {x1 x2 : Int64} (hd : decode bytes pc = .ok (.lsub, 1))  (hn : pc + 1 = n) (k : Go p l e R s m args below meth c n0 Q cells slots h (mkF m n Ls (.long (x1 - x2) :: st))) : Go p l e R s m args below meth c n0 Q cells slots h (mkF m pc Ls (.long x2 :: .long x1 :: st)) := by
  subst hn
  exact Go.via (fun T locs X _ t q => XS.lsub X.here C.x rfl (hb C.by hd) rfl q) k
theorem G.lmul (C : Cx p s m meth c Z y bytes maxL ret) {x1 x2 : Int64} (hd : decode bytes pc = .ok (.lmul, 1))  (hn : pc + 1 = n) (k : Go p l e R s m args below meth c n0 Q cells slots h (mkF m n Ls (.long (x1 * x2) :: st))) : Go p l e R s m args below meth c n0 Q cells slots h (mkF m pc Ls (.long x2 :: .long x1 :: st)) := by
  subst hn
  exact Go.via (fun T locs X _ t q => XS.lmul X.here C.x rfl (hb C.by hd) rfl q) k
theorem G.land (C : Cx p s m meth c Z y bytes maxL ret) {x1 x2 : Int64} (hd : decode bytes pc = .ok (.land, 1))  (hn : pc + 1 = n) (k : Go p l e R s m args below meth c n0 Q cells slots h (mkF m n Ls (.long (x1 &&& x2) :: st))) : Go p l e R s m args below meth c n0 Q cells slots h (mkF m pc Ls (.long x2 :: .long x1 :: st)) := by
  subst hn
  exact Go.via (fun T locs X _ t q => XS.land X.here C.x rfl (hb C.by hd) rfl q) k
theorem G.lor (C : Cx p s m meth c Z y bytes maxL ret) {x1 x2 : Int64} (hd : decode bytes pc = .ok (.lor, 1))  (hn : pc + 1 = n) (k : Go p l e R s m args below meth c n0 Q cells slots h (mkF m n Ls (.long (x1 ||| x2) :: st))) : Go p l e R s m args below meth c n0 Q cells slots h (mkF m pc Ls (.long x2 :: .long x1 :: st)) := by
  subst hn
  exact Go.via (fun T locs X _ t q => XS.lor X.here C.x rfl (hb C.by hd) rfl q) k
theorem G.lxor (C : Cx p s m meth c Z y bytes maxL ret) {x1 x2 : Int64} (hd : decode bytes pc = .ok (.lxor, 1))  (hn : pc + 1 = n) (k : Go p l e R s m args below meth c n0 Q cells slots h (mkF m n Ls (.long (x1 ^^^ x2) :: st))) : Go p l e R s m args below meth c n0 Q cells slots h (mkF m pc Ls (.long x2 :: .long x1 :: st)) := by
  subst hn
  exact Go.via (fun T locs X _ t q => XS.lxor X.here C.x rfl (hb C.by hd) rfl q) k
theorem G.idiv (C : Cx p s m meth c Z y bytes maxL ret) {x1 x2 : Int32} (hd : decode bytes pc = .ok (.idiv, 1)) (hy : x2 ≠ 0) (hn : pc + 1 = n) (k : Go p l e R s m args below meth c n0 Q cells slots h (mkF m n Ls (.int (x1 / x2) :: st))) : Go p l e R s m args below meth c n0 Q cells slots h (mkF m pc Ls (.int x2 :: .int x1 :: st)) := by
  subst hn
  exact Go.via (fun T locs X _ t q => XS.idiv X.here C.x rfl (hb C.by hd) rfl hy q) k
theorem G.ishl (C : Cx p s m meth c Z y bytes maxL ret) {x1 x2 : Int32} (hd : decode bytes pc = .ok (.ishl, 1))  (hn : pc + 1 = n) (k : Go p l e R s m args below meth c n0 Q cells slots h (mkF m n Ls (.int (x1 <<< (x2 &&& 31)) :: st))) : Go p l e R s m args below meth c n0 Q cells slots h (mkF m pc Ls (.int x2 :: .int x1 :: st)) := by
  subst hn
  exact Go.via (fun T locs X _ t q => XS.ishl X.here C.x rfl (hb C.by hd) rfl q) k
theorem G.ishr (C : Cx p s m meth c Z y bytes maxL ret) {x1 x2 : Int32} (hd : decode bytes pc = .ok (.ishr, 1))  (hn : pc + 1 = n) (k : Go p l e R s m args below meth c n0 Q cells slots h (mkF m n Ls (.int (x1 >>> (x2 &&& 31)) :: st))) : Go p l e R s m args below meth c n0 Q cells slots h (mkF m pc Ls (.int x2 :: .int x1 :: st)) := by
  subst hn
  exact Go.via (fun T locs X _ t q => XS.ishr X.here C.x rfl (hb C.by hd) rfl q) k
theorem G.iushr (C : Cx p s m meth c Z y bytes maxL ret) {x1 x2 : Int32} (hd : decode bytes pc = .ok (.iushr, 1))  (hn : pc + 1 = n) (k : Go p l e R s m args below meth c n0 Q cells slots h (mkF m n Ls (.int ((x1.toUInt32 >>> (x2 &&& 31).toUInt32).toInt32) :: st))) : Go p l e R s m args below meth c n0 Q cells slots h (mkF m pc Ls (.int x2 :: .int x1 :: st)) := by
  subst hn
  exact Go.via (fun T locs X _ t q => XS.iushr X.here C.x rfl (hb C.by hd) rfl q) k
theorem G.irem (C : Cx p s m meth c Z y bytes maxL ret) {x1 x2 : Int32} (hd : decode bytes pc = .ok (.irem, 1)) (hy : x2 ≠ 0) (hn : pc + 1 = n) (k : Go p l e R s m args below meth c n0 Q cells slots h (mkF m n Ls (.int (x1 % x2) :: st))) : Go p l e R s m args below meth c n0 Q cells slots h (mkF m pc Ls (.int x2 :: .int x1 :: st)) := by
  subst hn
  exact Go.via (fun T locs X _ t q => iremM X C.x rfl (hb C.by hd) rfl hy q) k
theorem G.ldiv (C : Cx p s m meth c Z y bytes maxL ret) {x1 x2 : Int64} (hd : decode bytes pc = .ok (.ldiv, 1)) (hy : x2 ≠ 0) (hn : pc + 1 = n) (k : Go p l e R s m args below meth c n0 Q cells slots h (mkF m n Ls (.long (x1 / x2) :: st))) : Go p l e R s m args below meth c n0 Q cells slots h (mkF m pc Ls (.long x2 :: .long x1 :: st)) := by
  subst hn
  exact Go.via (fun T locs X _ t q => XS.ldiv X.here C.x rfl (hb C.by hd) rfl hy q) k
theorem G.lrem (C : Cx p s m meth c Z y bytes maxL ret) {x1 x2 : Int64} (hd : decode bytes pc = .ok (.lrem, 1)) (hy : x2 ≠ 0) (hn : pc + 1 = n) (k : Go p l e R s m args below meth c n0 Q cells slots h (mkF m n Ls (.long (x1 - (x1 / x2) * x2) :: st))) : Go p l e R s m args below meth c n0 Q cells slots h (mkF m pc Ls (.long x2 :: .long x1 :: st)) := by
  subst hn
  exact Go.via (fun T locs X _ t q => XS.lrem X.here C.x rfl (hb C.by hd) rfl hy q) k
theorem G.lshl (C : Cx p s m meth c Z y bytes maxL ret) {x1 : Int64} {x2 : Int32} (hd : decode bytes pc = .ok (.lshl, 1))  (hn : pc + 1 = n) (k : Go p l e R s m args below meth c n0 Q cells slots h (mkF m n Ls (.long (x1 <<< (x2 &&& 0x3f).toInt64) :: st))) : Go p l e R s m args below meth c n0 Q cells slots h (mkF m pc Ls (.int x2 :: .long x1 :: st)) := by
  subst hn
  exact Go.via (fun T locs X _ t q => XS.lshl X.here C.x rfl (hb C.by hd) rfl q) k
theorem G.lshr (C : Cx p s m meth c Z y bytes maxL ret) {x1 : Int64} {x2 : Int32} (hd : decode bytes pc = .ok (.lshr, 1))  (hn : pc + 1 = n) (k : Go p l e R s m args below meth c n0 Q cells slots h (mkF m n Ls (.long (x1 >>> (x2 &&& 0x3f).toInt64) :: st))) : Go p l e R s m args below meth c n0 Q cells slots h (mkF m pc Ls (.int x2 :: .long x1 :: st)) := by
  subst hn
  exact Go.via (fun T locs X _ t q => XS.lshr X.here C.x rfl (hb C.by hd) rfl q) k
theorem G.lushr (C : Cx p s m meth c Z y bytes maxL ret) {x1 : Int64} {x2 : Int32} (hd : decode bytes pc = .ok (.lushr, 1))  (hn : pc + 1 = n) (k : Go p l e R s m args below meth c n0 Q cells slots h (mkF m n Ls (.long ((x1.toUInt64 >>> (x2 &&& 0x3f).toInt64.toUInt64).toInt64) :: st))) : Go p l e R s m args below meth c n0 Q cells slots h (mkF m pc Ls (.int x2 :: .long x1 :: st)) := by
  subst hn
  exact Go.via (fun T locs X _ t q => XS.lushr X.here C.x rfl (hb C.by hd) rfl q) k
theorem G.ineg (C : Cx p s m meth c Z y bytes maxL ret) {x : Int32} (hd : decode bytes pc = .ok (.ineg, 1))  (hn : pc + 1 = n) (k : Go p l e R s m args below meth c n0 Q cells slots h (mkF m n Ls (.int (-x) :: st))) : Go p l e R s m args below meth c n0 Q cells slots h (mkF m pc Ls (.int x :: st)) := by
  subst hn
  exact Go.via (fun T locs X _ t q => XS.ineg X.here C.x rfl (hb C.by hd) rfl q) k
theorem G.lneg (C : Cx p s m meth c Z y bytes maxL ret) {x : Int64} (hd : decode bytes pc = .ok (.lneg, 1))  (hn : pc + 1 = n) (k : Go p l e R s m args below meth c n0 Q cells slots h (mkF m n Ls (.long (-x) :: st))) : Go p l e R s m args below meth c n0 Q cells slots h (mkF m pc Ls (.long x :: st)) := by
  subst hn
  exact Go.via (fun T locs X _ t q => XS.lneg X.here C.x rfl (hb C.by hd) rfl q) k
theorem G.i2l (C : Cx p s m meth c Z y bytes maxL ret) {x : Int32} (hd : decode bytes pc = .ok (.i2l, 1))  (hn : pc + 1 = n) (k : Go p l e R s m args below meth c n0 Q cells slots h (mkF m n Ls (.long (x.toInt64) :: st))) : Go p l e R s m args below meth c n0 Q cells slots h (mkF m pc Ls (.int x :: st)) := by
  subst hn
  exact Go.via (fun T locs X _ t q => XS.i2l X.here C.x rfl (hb C.by hd) rfl q) k
theorem G.l2i (C : Cx p s m meth c Z y bytes maxL ret) {x : Int64} (hd : decode bytes pc = .ok (.l2i, 1))  (hn : pc + 1 = n) (k : Go p l e R s m args below meth c n0 Q cells slots h (mkF m n Ls (.int (x.toInt32) :: st))) : Go p l e R s m args below meth c n0 Q cells slots h (mkF m pc Ls (.long x :: st)) := by
  subst hn
  exact Go.via (fun T locs X _ t q => XS.l2i X.here C.x rfl (hb C.by hd) rfl q) k
theorem G.i2b (C : Cx p s m meth c Z y bytes maxL ret) {x : Int32} (hd : decode bytes pc = .ok (.i2b, 1))  (hn : pc + 1 = n) (k : Go p l e R s m args below meth c n0 Q cells slots h (mkF m n Ls (.int (x.toInt8.toInt32) :: st))) : Go p l e R s m args below meth c n0 Q cells slots h (mkF m pc Ls (.int x :: st)) := by
  subst hn
  exact Go.via (fun T locs X _ t q => XS.i2b X.here C.x rfl (hb C.by hd) rfl q) k
theorem G.i2s (C : Cx p s m meth c Z y bytes maxL ret) {x : Int32} (hd : decode bytes pc = .ok (.i2s, 1))  (hn : pc + 1 = n) (k : Go p l e R s m args below meth c n0 Q cells slots h (mkF m n Ls (.int (x.toInt16.toInt32) :: st))) : Go p l e R s m args below meth c n0 Q cells slots h (mkF m pc Ls (.int x :: st)) := by
  subst hn
  exact Go.via (fun T locs X _ t q => XS.i2s X.here C.x rfl (hb C.by hd) rfl q) k
theorem G.i2c (C : Cx p s m meth c Z y bytes maxL ret) {x : Int32} (hd : decode bytes pc = .ok (.i2c, 1))  (hn : pc + 1 = n) (k : Go p l e R s m args below meth c n0 Q cells slots h (mkF m n Ls (.int (x.toUInt32.toUInt16.toUInt32.toInt32) :: st))) : Go p l e R s m args below meth c n0 Q cells slots h (mkF m pc Ls (.int x :: st)) := by
  subst hn
  exact Go.via (fun T locs X _ t q => XS.i2c X.here C.x rfl (hb C.by hd) rfl q) k
theorem G.iconst (C : Cx p s m meth c Z y bytes maxL ret) {i : Int} (v : Int32) (hd : decode bytes pc = .ok (.iconst i, 1)) (hv : Int32.ofInt i = v) (hn : pc + 1 = n) (k : Go p l e R s m args below meth c n0 Q cells slots h (mkF m n Ls (.int v :: st))) : Go p l e R s m args below meth c n0 Q cells slots h (mkF m pc Ls (st)) := by
  subst hn hv
  exact Go.via (fun T locs X _ t q => XS.iconst X.here C.x rfl (hb C.by hd)  q) k
theorem G.bipush (C : Cx p s m meth c Z y bytes maxL ret) {i : Int} (v : Int32) (hd : decode bytes pc = .ok (.bipush i, 2)) (hv : (Int8.ofInt i).toInt32 = v) (hn : pc + 2 = n) (k : Go p l e R s m args below meth c n0 Q cells slots h (mkF m n Ls (.int v :: st))) : Go p l e R s m args below meth c n0 Q cells slots h (mkF m pc Ls (st)) := by
  subst hn hv
  exact Go.via (fun T locs X _ t q => XS.bipush X.here C.x rfl (hb C.by hd)  q) k
theorem G.sipush (C : Cx p s m meth c Z y bytes maxL ret) {i : Int} (v : Int32) (hd : decode bytes pc = .ok (.sipush i, 3)) (hv : (Int16.ofInt i).toInt32 = v) (hn : pc + 3 = n) (k : Go p l e R s m args below meth c n0 Q cells slots h (mkF m n Ls (.int v :: st))) : Go p l e R s m args below meth c n0 Q cells slots h (mkF m pc Ls (st)) := by
  subst hn hv
  exact Go.via (fun T locs X _ t q => XS.sipush X.here C.x rfl (hb C.by hd)  q) k
theorem G.lconst (C : Cx p s m meth c Z y bytes maxL ret) {i : Fin 2} (v : Int64) (hd : decode bytes pc = .ok (.lconst i, 1)) (hv : Int64.ofNat i = v) (hn : pc + 1 = n) (k : Go p l e R s m args below meth c n0 Q cells slots h (mkF m n Ls (.long v :: st))) : Go p l e R s m args below meth c n0 Q cells slots h (mkF m pc Ls (st)) := by
  subst hn hv
  exact Go.via (fun T locs X _ t q => XS.lconst X.here C.x rfl (hb C.by hd)  q) k
theorem G.aconst_null (C : Cx p s m meth c Z y bytes maxL ret)  (hd : decode bytes pc = .ok (.aconst_null, 1))  (hn : pc + 1 = n) (k : Go p l e R s m args below meth c n0 Q cells slots h (mkF m n Ls (.null :: st))) : Go p l e R s m args below meth c n0 Q cells slots h (mkF m pc Ls (st)) := by
  subst hn
  exact Go.via (fun T locs X _ t q => XS.aconstNull X.here C.x rfl (hb C.by hd)  q) k
theorem G.iload (C : Cx p s m meth c Z y bytes maxL ret) {k : Nat} {v : Int32} (hd : decode bytes pc = .ok (.iload k, 2)) (hl : Ls[k]? = some (.val (.int v)))  (hn : pc + 2 = n) (k : Go p l e R s m args below meth c n0 Q cells slots h (mkF m n Ls (.int v :: st))) : Go p l e R s m args below meth c n0 Q cells slots h (mkF m pc Ls (st)) := by
  subst hn
  exact Go.via (fun T locs X _ t q => XS.iload X.here C.x rfl (hb C.by hd) hl q) k
theorem G.iloadN (C : Cx p s m meth c Z y bytes maxL ret) {k : Fin 4} {v : Int32} (hd : decode bytes pc = .ok (.iload_n k, 1)) (hl : Ls[k.val]? = some (.val (.int v)))  (hn : pc + 1 = n) (k : Go p l e R s m args below meth c n0 Q cells slots h (mkF m n Ls (.int v :: st))) : Go p l e R s m args below meth c n0 Q cells slots h (mkF m pc Ls (st)) := by
  subst hn
  exact Go.via (fun T locs X _ t q => XS.iloadN X.here C.x rfl (hb C.by hd) hl q) k
theorem G.lload (C : Cx p s m meth c Z y bytes maxL ret) {k : Nat} {v : Int64} (hd : decode bytes pc = .ok (.lload k, 2)) (hl : Ls[k]? = some (.val (.long v)))  (hn : pc + 2 = n) (k : Go p l e R s m args below meth c n0 Q cells slots h (mkF m n Ls (.long v :: st))) : Go p l e R s m args below meth c n0 Q cells slots h (mkF m pc Ls (st)) := by
  subst hn
  exact Go.via (fun T locs X _ t q => XS.lload X.here C.x rfl (hb C.by hd) hl q) k
theorem G.lloadN (C : Cx p s m meth c Z y bytes maxL ret) {k : Fin 4} {v : Int64} (hd : decode bytes pc = .ok (.lload_n k, 1)) (hl : Ls[k.val]? = some (.val (.long v)))  (hn : pc + 1 = n) (k : Go p l e R s m args below meth c n0 Q cells slots h (mkF m n Ls (.long v :: st))) : Go p l e R s m args below meth c n0 Q cells slots h (mkF m pc Ls (st)) := by
  subst hn
  exact Go.via (fun T locs X _ t q => XS.lloadN X.here C.x rfl (hb C.by hd) hl q) k
theorem G.aload (C : Cx p s m meth c Z y bytes maxL ret) {k : Nat} {v : Value} (hd : decode bytes pc = .ok (.aload k, 2)) (hl : Ls[k]? = some (.val (v))) (hv : v.isRef = true) (hn : pc + 2 = n) (k : Go p l e R s m args below meth c n0 Q cells slots h (mkF m n Ls (v :: st))) : Go p l e R s m args below meth c n0 Q cells slots h (mkF m pc Ls (st)) := by
  subst hn
  exact Go.via (fun T locs X _ t q => XS.aload X.here C.x rfl (hb C.by hd) hl hv q) k
theorem G.aloadN (C : Cx p s m meth c Z y bytes maxL ret) {k : Fin 4} {v : Value} (hd : decode bytes pc = .ok (.aload_n k, 1)) (hl : Ls[k.val]? = some (.val (v))) (hv : v.isRef = true) (hn : pc + 1 = n) (k : Go p l e R s m args below meth c n0 Q cells slots h (mkF m n Ls (v :: st))) : Go p l e R s m args below meth c n0 Q cells slots h (mkF m pc Ls (st)) := by
  subst hn
  exact Go.via (fun T locs X _ t q => XS.aloadN X.here C.x rfl (hb C.by hd) hl hv q) k
theorem G.istore (C : Cx p s m meth c Z y bytes maxL ret) {k : Nat} {x : Int32} {l' : Array Slot} (hd : decode bytes pc = .ok (.istore k, 2))  (hl : storeLocals Ls k (.int x) = some l') (hn : pc + 2 = n) (kk : Go p l e R s m args below meth c n0 Q cells slots h (mkF m n l' (st))) : Go p l e R s m args below meth c n0 Q cells slots h (mkF m pc Ls (.int x :: st)) := by
  subst hn
  exact Go.via (fun T locs X _ t q => XS.istore X.here C.x rfl (hb C.by hd) rfl hl q) kk
theorem G.istoreZ (C : Cx p s m meth c Z y bytes maxL ret) {k : Nat} {x : Int32} {l' : Int32 → Array Slot} (hd : decode bytes pc = .ok (.istore k, 2)) (hl : ∀ z, storeLocals Ls k (.int z) = some (l' z)) (hn : pc + 2 = n) (kk : ∀ z, z = x → Go p l e R s m args below meth c n0 Q cells slots h (mkF m n (l' z) (st))) : Go p l e R s m args below meth c n0 Q cells slots h (mkF m pc Ls (.int x :: st)) :=
  G.istore C hd (hl x) hn (kk x rfl)
theorem G.istoreN (C : Cx p s m meth c Z y bytes maxL ret) {k : Fin 4} {x : Int32} {l' : Array Slot} (hd : decode bytes pc = .ok (.istore_n k, 1))  (hl : storeLocals Ls k.val (.int x) = some l') (hn : pc + 1 = n) (kk : Go p l e R s m args below meth c n0 Q cells slots h (mkF m n l' (st))) : Go p l e R s m args below meth c n0 Q cells slots h (mkF m pc Ls (.int x :: st)) := by
  subst hn
  exact Go.via (fun T locs X _ t q => XS.istoreN X.here C.x rfl (hb C.by hd) rfl hl q) kk
theorem G.istoreNZ (C : Cx p s m meth c Z y bytes maxL ret) {k : Fin 4} {x : Int32} {l' : Int32 → Array Slot} (hd : decode bytes pc = .ok (.istore_n k, 1)) (hl : ∀ z, storeLocals Ls k.val (.int z) = some (l' z)) (hn : pc + 1 = n) (kk : ∀ z, z = x → Go p l e R s m args below meth c n0 Q cells slots h (mkF m n (l' z) (st))) : Go p l e R s m args below meth c n0 Q cells slots h (mkF m pc Ls (.int x :: st)) :=
  G.istoreN C hd (hl x) hn (kk x rfl)
theorem G.lstore (C : Cx p s m meth c Z y bytes maxL ret) {k : Nat} {x : Int64} {l' : Array Slot} (hd : decode bytes pc = .ok (.lstore k, 2))  (hl : storeLocals Ls k (.long x) = some l') (hn : pc + 2 = n) (kk : Go p l e R s m args below meth c n0 Q cells slots h (mkF m n l' (st))) : Go p l e R s m args below meth c n0 Q cells slots h (mkF m pc Ls (.long x :: st)) := by
  subst hn
  exact Go.via (fun T locs X _ t q => XS.lstore X.here C.x rfl (hb C.by hd) rfl hl q) kk
theorem G.lstoreZ (C : Cx p s m meth c Z y bytes maxL ret) {k : Nat} {x : Int64} {l' : Int64 → Array Slot} (hd : decode bytes pc = .ok (.lstore k, 2)) (hl : ∀ z, storeLocals Ls k (.long z) = some (l' z)) (hn : pc + 2 = n) (kk : ∀ z, z = x → Go p l e R s m args below meth c n0 Q cells slots h (mkF m n (l' z) (st))) : Go p l e R s m args below meth c n0 Q cells slots h (mkF m pc Ls (.long x :: st)) :=
  G.lstore C hd (hl x) hn (kk x rfl)
theorem G.lstoreN (C : Cx p s m meth c Z y bytes maxL ret) {k : Fin 4} {x : Int64} {l' : Array Slot} (hd : decode bytes pc = .ok (.lstore_n k, 1))  (hl : storeLocals Ls k.val (.long x) = some l') (hn : pc + 1 = n) (kk : Go p l e R s m args below meth c n0 Q cells slots h (mkF m n l' (st))) : Go p l e R s m args below meth c n0 Q cells slots h (mkF m pc Ls (.long x :: st)) := by
  subst hn
  exact Go.via (fun T locs X _ t q => XS.lstoreN X.here C.x rfl (hb C.by hd) rfl hl q) kk
theorem G.lstoreNZ (C : Cx p s m meth c Z y bytes maxL ret) {k : Fin 4} {x : Int64} {l' : Int64 → Array Slot} (hd : decode bytes pc = .ok (.lstore_n k, 1)) (hl : ∀ z, storeLocals Ls k.val (.long z) = some (l' z)) (hn : pc + 1 = n) (kk : ∀ z, z = x → Go p l e R s m args below meth c n0 Q cells slots h (mkF m n (l' z) (st))) : Go p l e R s m args below meth c n0 Q cells slots h (mkF m pc Ls (.long x :: st)) :=
  G.lstoreN C hd (hl x) hn (kk x rfl)
theorem G.astore (C : Cx p s m meth c Z y bytes maxL ret) {k : Nat} {x : Value} {l' : Array Slot} (hd : decode bytes pc = .ok (.astore k, 2)) (hv : x.isRef = true) (hl : storeLocals Ls k (x) = some l') (hn : pc + 2 = n) (kk : Go p l e R s m args below meth c n0 Q cells slots h (mkF m n l' (st))) : Go p l e R s m args below meth c n0 Q cells slots h (mkF m pc Ls (x :: st)) := by
  subst hn
  exact Go.via (fun T locs X _ t q => XS.astore X.here C.x rfl (hb C.by hd) rfl hv hl q) kk
theorem G.astoreN (C : Cx p s m meth c Z y bytes maxL ret) {k : Fin 4} {x : Value} {l' : Array Slot} (hd : decode bytes pc = .ok (.astore_n k, 1)) (hv : x.isRef = true) (hl : storeLocals Ls k.val (x) = some l') (hn : pc + 1 = n) (kk : Go p l e R s m args below meth c n0 Q cells slots h (mkF m n l' (st))) : Go p l e R s m args below meth c n0 Q cells slots h (mkF m pc Ls (x :: st)) := by
  subst hn
  exact Go.via (fun T locs X _ t q => XS.astoreN X.here C.x rfl (hb C.by hd) rfl hv hl q) kk
theorem G.iinc (C : Cx p s m meth c Z y bytes maxL ret) {k : Nat} {cst : Int} (v : Int32) {x : Int32} {l' : Array Slot} (hd : decode bytes pc = .ok (.iinc k cst, 3)) (hv : Int32.ofInt cst = v) (hx : Ls[k]? = some (.val (.int x))) (hl : storeLocals Ls k (.int (x + v)) = some l') (hn : pc + 3 = n) (kk : Go p l e R s m args below meth c n0 Q cells slots h (mkF m n l' (st))) : Go p l e R s m args below meth c n0 Q cells slots h (mkF m pc Ls (st)) := by
  subst hn hv
  exact Go.via (fun T locs X _ t q => XS.iinc X.here C.x rfl (hb C.by hd) hx hl q) kk
theorem G.iincZ (C : Cx p s m meth c Z y bytes maxL ret) {k : Nat} {cst : Int} (v : Int32) {x : Int32} {l' : Int32 → Array Slot} (hd : decode bytes pc = .ok (.iinc k cst, 3)) (hv : Int32.ofInt cst = v) (hx : Ls[k]? = some (.val (.int x))) (hl : ∀ z, storeLocals Ls k (.int z) = some (l' z)) (hn : pc + 3 = n) (kk : ∀ z, z = x + v → Go p l e R s m args below meth c n0 Q cells slots h (mkF m n (l' z) (st))) : Go p l e R s m args below meth c n0 Q cells slots h (mkF m pc Ls (st)) :=
  G.iinc C v hd hv hx (hl _) hn (kk _ rfl)
theorem G.iincK (C : Cx p s m meth c Z y bytes maxL ret) {k : Nat} {cst : Int} (v : Int32) {x : Int32} (z : Int32) {l' : Array Slot} (hd : decode bytes pc = .ok (.iinc k cst, 3)) (hv : Int32.ofInt cst = v) (hx : Ls[k]? = some (.val (.int x))) (hz : x + v = z) (hl : storeLocals Ls k (.int z) = some l') (hn : pc + 3 = n) (kk : Go p l e R s m args below meth c n0 Q cells slots h (mkF m n l' (st))) : Go p l e R s m args below meth c n0 Q cells slots h (mkF m pc Ls (st)) := by
  subst hz
  exact G.iinc C v hd hv hx hl hn kk
theorem G.name_int {x : Int32} (kk : ∀ z, z = x → Go p l e R s m args below meth c n0 Q cells slots h (mkF m pc Ls (.int z :: st))) : Go p l e R s m args below meth c n0 Q cells slots h (mkF m pc Ls (.int x :: st)) := kk x rfl
theorem G.name_long {x : Int64} (kk : ∀ z, z = x → Go p l e R s m args below meth c n0 Q cells slots h (mkF m pc Ls (.long z :: st))) : Go p l e R s m args below meth c n0 Q cells slots h (mkF m pc Ls (.long x :: st)) := kk x rfl
theorem G.fold_int {x z : Int32} (hz : x = z) (kk : Go p l e R s m args below meth c n0 Q cells slots h (mkF m pc Ls (.int z :: st))) : Go p l e R s m args below meth c n0 Q cells slots h (mkF m pc Ls (.int x :: st)) := hz ▸ kk
theorem G.fold_long {x z : Int64} (hz : x = z) (kk : Go p l e R s m args below meth c n0 Q cells slots h (mkF m pc Ls (.long z :: st))) : Go p l e R s m args below meth c n0 Q cells slots h (mkF m pc Ls (.long x :: st)) := hz ▸ kk
theorem G.dup (C : Cx p s m meth c Z y bytes maxL ret) {x : Value} (hd : decode bytes pc = .ok (.dup, 1)) (hc : x.category = 1) (hn : pc + 1 = n) (k : Go p l e R s m args below meth c n0 Q cells slots h (mkF m n Ls (x :: x :: st))) : Go p l e R s m args below meth c n0 Q cells slots h (mkF m pc Ls (x :: st)) := by
  subst hn
  exact Go.via (fun T locs X _ t q => XS.dup X.here C.x rfl (hb C.by hd) rfl hc q) k
theorem G.pop (C : Cx p s m meth c Z y bytes maxL ret) {x : Value} (hd : decode bytes pc = .ok (.pop, 1)) (hc : x.category = 1) (hn : pc + 1 = n) (k : Go p l e R s m args below meth c n0 Q cells slots h (mkF m n Ls (st))) : Go p l e R s m args below meth c n0 Q cells slots h (mkF m pc Ls (x :: st)) := by
  subst hn
  exact Go.via (fun T locs X _ t q => XS.pop X.here C.x rfl (hb C.by hd) rfl hc q) k
theorem G.dup_x1 (C : Cx p s m meth c Z y bytes maxL ret) {x x2 : Value} (hd : decode bytes pc = .ok (.dup_x1, 1)) (hc : x.category = 1) (hc2 : x2.category = 1) (hn : pc + 1 = n) (k : Go p l e R s m args below meth c n0 Q cells slots h (mkF m n Ls (x :: x2 :: x :: st))) : Go p l e R s m args below meth c n0 Q cells slots h (mkF m pc Ls (x :: x2 :: st)) := by
  subst hn
  exact Go.via (fun T locs X _ t q => XS.dupX1 X.here C.x rfl (hb C.by hd) rfl hc hc2 q) k
theorem G.dup2 (C : Cx p s m meth c Z y bytes maxL ret) {x x2 : Value} (hd : decode bytes pc = .ok (.dup2, 1)) (hc : x.category = 1) (hc2 : x2.category = 1) (hn : pc + 1 = n) (k : Go p l e R s m args below meth c n0 Q cells slots h (mkF m n Ls (x :: x2 :: x :: x2 :: st))) : Go p l e R s m args below meth c n0 Q cells slots h (mkF m pc Ls (x :: x2 :: st)) := by
  subst hn
  exact Go.via (fun T locs X _ t q => XT.dup2 X.here C.x rfl (hb C.by hd) rfl hc hc2 q) k
theorem G.dup2L (C : Cx p s m meth c Z y bytes maxL ret) {x : Int64} (hd : decode bytes pc = .ok (.dup2, 1)) (hn : pc + 1 = n) (k : Go p l e R s m args below meth c n0 Q cells slots h (mkF m n Ls (.long x :: .long x :: st))) : Go p l e R s m args below meth c n0 Q cells slots h (mkF m pc Ls (.long x :: st)) := by
  subst hn
  exact Go.via (fun T locs X _ t q => XT.dup2L X.here C.x rfl (hb C.by hd) rfl q) k
theorem G.goto (C : Cx p s m meth c Z y bytes maxL ret) {o : Int} (hd : decode bytes pc = .ok (.goto o, 3)) (ho : 0 ≤ (pc : Int) + o) (hp : ((pc : Int) + o).toNat = n) (k : Go p l e R s m args below meth c n0 Q cells slots h (mkF m n Ls (st))) : Go p l e R s m args below meth c n0 Q cells slots h (mkF m pc Ls (st)) :=
  Go.via (fun T locs X _ t q => XS.goto X.here C.x rfl rfl (hb C.by hd) ho hp q) k
theorem lt_i {x y : Int32} : x < y ↔ x.toInt < y.toInt := Int32.lt_iff_toInt_lt
theorem lt_l {x y : Int64} : x < y ↔ x.toInt < y.toInt := Int64.lt_iff_toInt_lt
theorem le_i {x y : Int32} : x ≤ y ↔ x.toInt ≤ y.toInt := Int32.le_iff_toInt_le
theorem le_l {x y : Int64} : x ≤ y ↔ x.toInt ≤ y.toInt := Int64.le_iff_toInt_le
theorem ich_lt {x1 x2 : Int32} : (x1.toInt < x2.toInt ∧ if_icmp.holds .lt x1 x2 = true) ∨ (x2.toInt ≤ x1.toInt ∧ if_icmp.holds .lt x1 x2 = false) := by
  by_cases q : x1.toInt < x2.toInt
  · exact Or.inl ⟨q, by simp [if_icmp.holds, lt_i, le_i, Int32.lt_iff_toInt_lt, Int32.le_iff_toInt_le, q]⟩
  · exact Or.inr ⟨by omega, by first | (simp [if_icmp.holds, lt_i, le_i, Int32.lt_iff_toInt_lt, Int32.le_iff_toInt_le, q]; done) | (simp [if_icmp.holds, lt_i, le_i, Int32.lt_iff_toInt_lt, Int32.le_iff_toInt_le]; omega)⟩
theorem G.icmp_lt (C : Cx p s m meth c Z y bytes maxL ret) {x1 x2 : Int32} {o : Int} {A B : Int} (hA : x1.toInt = A) (hB : x2.toInt = B) (hd : decode bytes pc = .ok (.if_icmp .lt o, 3)) (ho : 0 ≤ (pc : Int) + o) (hp : ((pc : Int) + o).toNat = n') (hn : pc + 3 = n) (kt : A < B → Go p l e R s m args below meth c n0 Q cells slots h (mkF m n' Ls (st))) (kf : B ≤ A → Go p l e R s m args below meth c n0 Q cells slots h (mkF m n Ls (st))) : Go p l e R s m args below meth c n0 Q cells slots h (mkF m pc Ls (.int x2 :: .int x1 :: st)) := by
  subst hn hA hB
  rcases ich_lt (x1 := x1) (x2 := x2) with ⟨q, r⟩ | ⟨q, r⟩
  · exact Go.via (fun T locs X _ t q => XS.icmpYes X.here C.x rfl rfl (hb C.by hd) rfl r ho hp q) (kt q)
  · exact Go.via (fun T locs X _ t q => XS.icmpNo X.here C.x rfl (hb C.by hd) rfl r q) (kf q)
theorem G.if_lt (C : Cx p s m meth c Z y bytes maxL ret) {x1 : Int32} {o : Int} {A : Int} (hA : x1.toInt = A) (hd : decode bytes pc = .ok (.ifCond .lt o, 3)) (ho : 0 ≤ (pc : Int) + o) (hp : ((pc : Int) + o).toNat = n') (hn : pc + 3 = n) (kt : A < 0 → Go p l e R s m args below meth c n0 Q cells slots h (mkF m n' Ls (st))) (kf : 0 ≤ A → Go p l e R s m args below meth c n0 Q cells slots h (mkF m n Ls (st))) : Go p l e R s m args below meth c n0 Q cells slots h (mkF m pc Ls (.int x1 :: st)) := by
  subst hn hA
  rcases ich_lt (x1 := x1) (x2 := 0) with ⟨q, r⟩ | ⟨q, r⟩
  · exact Go.via (fun T locs X _ t q => XS.ifYes X.here C.x rfl rfl (hb C.by hd) rfl ((if0 _ _).trans r) ho hp q) (kt q)
  · exact Go.via (fun T locs X _ t q => XS.ifNo X.here C.x rfl (hb C.by hd) rfl ((if0 _ _).trans r) q) (kf q)
theorem lch_lt (x1 x2 : Int64) : ((lcmpW x1 x2).toInt < 0 → x1.toInt < x2.toInt) ∧ (0 ≤ (lcmpW x1 x2).toInt → x2.toInt ≤ x1.toInt) := by
  have q := c_lcmp x1 x2
  have z : ∀ x : Int32, x = 0 ↔ x.toInt = 0 := fun x => ⟨fun q => by rw [q]; rfl, fun q => Int32.toInt_inj.mp q⟩
  have w : x1 = x2 ↔ x1.toInt = x2.toInt := Int64.toInt_inj.symm
  
  constructor <;> intro r <;> omega
theorem G.lcmp_lt (C : Cx p s m meth c Z y bytes maxL ret) {x1 x2 : Int64} {o : Int} {A B : Int} (hA : x1.toInt = A) (hB : x2.toInt = B) (hc : decode bytes pc = .ok (.lcmp, 1)) (hd : decode bytes (pc + 1) = .ok (.ifCond .lt o, 3)) (ho : 0 ≤ ((pc + 1 : Nat) : Int) + o) (hp : (((pc + 1 : Nat) : Int) + o).toNat = n') (hn : pc + 4 = n) (kt : A < B → Go p l e R s m args below meth c n0 Q cells slots h (mkF m n' Ls (st))) (kf : B ≤ A → Go p l e R s m args below meth c n0 Q cells slots h (mkF m n Ls (st))) : Go p l e R s m args below meth c n0 Q cells slots h (mkF m pc Ls (.long x2 :: .long x1 :: st)) := by
  subst hn hA hB
  refine Go.via (fun T locs X _ t q => XS.lcmp X.here C.x rfl (hb C.by hc) rfl q) ?_
  exact G.if_lt C (A := (lcmpW x1 x2).toInt) rfl (pc := pc + 1) hd ho hp (n := pc + 4) rfl (fun q => kt ((lch_lt x1 x2).1 q)) (fun q => kf ((lch_lt x1 x2).2 q))
theorem ich_ge {x1 x2 : Int32} : (x2.toInt ≤ x1.toInt ∧ if_icmp.holds .ge x1 x2 = true) ∨ (x1.toInt < x2.toInt ∧ if_icmp.holds .ge x1 x2 = false) := by
  by_cases q : x2.toInt ≤ x1.toInt
  · exact Or.inl ⟨q, by simp [if_icmp.holds, lt_i, le_i, Int32.lt_iff_toInt_lt, Int32.le_iff_toInt_le, q]⟩
  · exact Or.inr ⟨by omega, by first | (simp [if_icmp.holds, lt_i, le_i, Int32.lt_iff_toInt_lt, Int32.le_iff_toInt_le, q]; done) | (simp [if_icmp.holds, lt_i, le_i, Int32.lt_iff_toInt_lt, Int32.le_iff_toInt_le]; omega)⟩
theorem G.icmp_ge (C : Cx p s m meth c Z y bytes maxL ret) {x1 x2 : Int32} {o : Int} {A B : Int} (hA : x1.toInt = A) (hB : x2.toInt = B) (hd : decode bytes pc = .ok (.if_icmp .ge o, 3)) (ho : 0 ≤ (pc : Int) + o) (hp : ((pc : Int) + o).toNat = n') (hn : pc + 3 = n) (kt : B ≤ A → Go p l e R s m args below meth c n0 Q cells slots h (mkF m n' Ls (st))) (kf : A < B → Go p l e R s m args below meth c n0 Q cells slots h (mkF m n Ls (st))) : Go p l e R s m args below meth c n0 Q cells slots h (mkF m pc Ls (.int x2 :: .int x1 :: st)) := by
  subst hn hA hB
  rcases ich_ge (x1 := x1) (x2 := x2) with ⟨q, r⟩ | ⟨q, r⟩
  · exact Go.via (fun T locs X _ t q => XS.icmpYes X.here C.x rfl rfl (hb C.by hd) rfl r ho hp q) (kt q)
  · exact Go.via (fun T locs X _ t q => XS.icmpNo X.here C.x rfl (hb C.by hd) rfl r q) (kf q)
theorem G.if_ge (C : Cx p s m meth c Z y bytes maxL ret) {x1 : Int32} {o : Int} {A : Int} (hA : x1.toInt = A) (hd : decode bytes pc = .ok (.ifCond .ge o, 3)) (ho : 0 ≤ (pc : Int) + o) (hp : ((pc : Int) + o).toNat = n') (hn : pc + 3 = n) (kt : 0 ≤ A → Go p l e R s m args below meth c n0 Q cells slots h (mkF m n' Ls (st))) (kf : A < 0 → Go p l e R s m args below meth c n0 Q cells slots h (mkF m n Ls (st))) : Go p l e R s m args below meth c n0 Q cells slots h (mkF m pc Ls (.int x1 :: st)) := by
  subst hn hA
  rcases ich_ge (x1 := x1) (x2 := 0) with ⟨q, r⟩ | ⟨q, r⟩
  · exact Go.via (fun T locs X _ t q => XS.ifYes X.here C.x rfl rfl (hb C.by hd) rfl ((if0 _ _).trans r) ho hp q) (kt q)
  · exact Go.via (fun T locs X _ t q => XS.ifNo X.here C.x rfl (hb C.by hd) rfl ((if0 _ _).trans r) q) (kf q)
theorem lch_ge (x1 x2 : Int64) : (0 ≤ (lcmpW x1 x2).toInt → x2.toInt ≤ x1.toInt) ∧ ((lcmpW x1 x2).toInt < 0 → x1.toInt < x2.toInt) := by
  have q := c_lcmp x1 x2
  have z : ∀ x : Int32, x = 0 ↔ x.toInt = 0 := fun x => ⟨fun q => by rw [q]; rfl, fun q => Int32.toInt_inj.mp q⟩
  have w : x1 = x2 ↔ x1.toInt = x2.toInt := Int64.toInt_inj.symm
  
  constructor <;> intro r <;> omega
theorem G.lcmp_ge (C : Cx p s m meth c Z y bytes maxL ret) {x1 x2 : Int64} {o : Int} {A B : Int} (hA : x1.toInt = A) (hB : x2.toInt = B) (hc : decode bytes pc = .ok (.lcmp, 1)) (hd : decode bytes (pc + 1) = .ok (.ifCond .ge o, 3)) (ho : 0 ≤ ((pc + 1 : Nat) : Int) + o) (hp : (((pc + 1 : Nat) : Int) + o).toNat = n') (hn : pc + 4 = n) (kt : B ≤ A → Go p l e R s m args below meth c n0 Q cells slots h (mkF m n' Ls (st))) (kf : A < B → Go p l e R s m args below meth c n0 Q cells slots h (mkF m n Ls (st))) : Go p l e R s m args below meth c n0 Q cells slots h (mkF m pc Ls (.long x2 :: .long x1 :: st)) := by
  subst hn hA hB
  refine Go.via (fun T locs X _ t q => XS.lcmp X.here C.x rfl (hb C.by hc) rfl q) ?_
  exact G.if_ge C (A := (lcmpW x1 x2).toInt) rfl (pc := pc + 1) hd ho hp (n := pc + 4) rfl (fun q => kt ((lch_ge x1 x2).1 q)) (fun q => kf ((lch_ge x1 x2).2 q))
theorem ich_gt {x1 x2 : Int32} : (x2.toInt < x1.toInt ∧ if_icmp.holds .gt x1 x2 = true) ∨ (x1.toInt ≤ x2.toInt ∧ if_icmp.holds .gt x1 x2 = false) := by
  by_cases q : x2.toInt < x1.toInt
  · exact Or.inl ⟨q, by simp [if_icmp.holds, lt_i, le_i, Int32.lt_iff_toInt_lt, Int32.le_iff_toInt_le, q]⟩
  · exact Or.inr ⟨by omega, by first | (simp [if_icmp.holds, lt_i, le_i, Int32.lt_iff_toInt_lt, Int32.le_iff_toInt_le, q]; done) | (simp [if_icmp.holds, lt_i, le_i, Int32.lt_iff_toInt_lt, Int32.le_iff_toInt_le]; omega)⟩
theorem G.icmp_gt (C : Cx p s m meth c Z y bytes maxL ret) {x1 x2 : Int32} {o : Int} {A B : Int} (hA : x1.toInt = A) (hB : x2.toInt = B) (hd : decode bytes pc = .ok (.if_icmp .gt o, 3)) (ho : 0 ≤ (pc : Int) + o) (hp : ((pc : Int) + o).toNat = n') (hn : pc + 3 = n) (kt : B < A → Go p l e R s m args below meth c n0 Q cells slots h (mkF m n' Ls (st))) (kf : A ≤ B → Go p l e R s m args below meth c n0 Q cells slots h (mkF m n Ls (st))) : Go p l e R s m args below meth c n0 Q cells slots h (mkF m pc Ls (.int x2 :: .int x1 :: st)) := by
  subst hn hA hB
  rcases ich_gt (x1 := x1) (x2 := x2) with ⟨q, r⟩ | ⟨q, r⟩
  · exact Go.via (fun T locs X _ t q => XS.icmpYes X.here C.x rfl rfl (hb C.by hd) rfl r ho hp q) (kt q)
  · exact Go.via (fun T locs X _ t q => XS.icmpNo X.here C.x rfl (hb C.by hd) rfl r q) (kf q)
theorem G.if_gt (C : Cx p s m meth c Z y bytes maxL ret) {x1 : Int32} {o : Int} {A : Int} (hA : x1.toInt = A) (hd : decode bytes pc = .ok (.ifCond .gt o, 3)) (ho : 0 ≤ (pc : Int) + o) (hp : ((pc : Int) + o).toNat = n') (hn : pc + 3 = n) (kt : 0 < A → Go p l e R s m args below meth c n0 Q cells slots h (mkF m n' Ls (st))) (kf : A ≤ 0 → Go p l e R s m args below meth c n0 Q cells slots h (mkF m n Ls (st))) : Go p l e R s m args below meth c n0 Q cells slots h (mkF m pc Ls (.int x1 :: st)) := by
  subst hn hA
  rcases ich_gt (x1 := x1) (x2 := 0) with ⟨q, r⟩ | ⟨q, r⟩
  · exact Go.via (fun T locs X _ t q => XS.ifYes X.here C.x rfl rfl (hb C.by hd) rfl ((if0 _ _).trans r) ho hp q) (kt q)
  · exact Go.via (fun T locs X _ t q => XS.ifNo X.here C.x rfl (hb C.by hd) rfl ((if0 _ _).trans r) q) (kf q)
theorem lch_gt (x1 x2 : Int64) : (0 < (lcmpW x1 x2).toInt → x2.toInt < x1.toInt) ∧ ((lcmpW x1 x2).toInt ≤ 0 → x1.toInt ≤ x2.toInt) := by
  have q := c_lcmp x1 x2
  have z : ∀ x : Int32, x = 0 ↔ x.toInt = 0 := fun x => ⟨fun q => by rw [q]; rfl, fun q => Int32.toInt_inj.mp q⟩
  have w : x1 = x2 ↔ x1.toInt = x2.toInt := Int64.toInt_inj.symm
  
  constructor <;> intro r <;> omega
theorem G.lcmp_gt (C : Cx p s m meth c Z y bytes maxL ret) {x1 x2 : Int64} {o : Int} {A B : Int} (hA : x1.toInt = A) (hB : x2.toInt = B) (hc : decode bytes pc = .ok (.lcmp, 1)) (hd : decode bytes (pc + 1) = .ok (.ifCond .gt o, 3)) (ho : 0 ≤ ((pc + 1 : Nat) : Int) + o) (hp : (((pc + 1 : Nat) : Int) + o).toNat = n') (hn : pc + 4 = n) (kt : B < A → Go p l e R s m args below meth c n0 Q cells slots h (mkF m n' Ls (st))) (kf : A ≤ B → Go p l e R s m args below meth c n0 Q cells slots h (mkF m n Ls (st))) : Go p l e R s m args below meth c n0 Q cells slots h (mkF m pc Ls (.long x2 :: .long x1 :: st)) := by
  subst hn hA hB
  refine Go.via (fun T locs X _ t q => XS.lcmp X.here C.x rfl (hb C.by hc) rfl q) ?_
  exact G.if_gt C (A := (lcmpW x1 x2).toInt) rfl (pc := pc + 1) hd ho hp (n := pc + 4) rfl (fun q => kt ((lch_gt x1 x2).1 q)) (fun q => kf ((lch_gt x1 x2).2 q))
theorem ich_le {x1 x2 : Int32} : (x1.toInt ≤ x2.toInt ∧ if_icmp.holds .le x1 x2 = true) ∨ (x2.toInt < x1.toInt ∧ if_icmp.holds .le x1 x2 = false) := by
  by_cases q : x1.toInt ≤ x2.toInt
  · exact Or.inl ⟨q, by simp [if_icmp.holds, lt_i, le_i, Int32.lt_iff_toInt_lt, Int32.le_iff_toInt_le, q]⟩
  · exact Or.inr ⟨by omega, by first | (simp [if_icmp.holds, lt_i, le_i, Int32.lt_iff_toInt_lt, Int32.le_iff_toInt_le, q]; done) | (simp [if_icmp.holds, lt_i, le_i, Int32.lt_iff_toInt_lt, Int32.le_iff_toInt_le]; omega)⟩
theorem G.icmp_le (C : Cx p s m meth c Z y bytes maxL ret) {x1 x2 : Int32} {o : Int} {A B : Int} (hA : x1.toInt = A) (hB : x2.toInt = B) (hd : decode bytes pc = .ok (.if_icmp .le o, 3)) (ho : 0 ≤ (pc : Int) + o) (hp : ((pc : Int) + o).toNat = n') (hn : pc + 3 = n) (kt : A ≤ B → Go p l e R s m args below meth c n0 Q cells slots h (mkF m n' Ls (st))) (kf : B < A → Go p l e R s m args below meth c n0 Q cells slots h (mkF m n Ls (st))) : Go p l e R s m args below meth c n0 Q cells slots h (mkF m pc Ls (.int x2 :: .int x1 :: st)) := by
  subst hn hA hB
  rcases ich_le (x1 := x1) (x2 := x2) with ⟨q, r⟩ | ⟨q, r⟩
  · exact Go.via (fun T locs X _ t q => XS.icmpYes X.here C.x rfl rfl (hb C.by hd) rfl r ho hp q) (kt q)
  · exact Go.via (fun T locs X _ t q => XS.icmpNo X.here C.x rfl (hb C.by hd) rfl r q) (kf q)
theorem G.if_le (C : Cx p s m meth c Z y bytes maxL ret) {x1 : Int32} {o : Int} {A : Int} (hA : x1.toInt = A) (hd : decode bytes pc = .ok (.ifCond .le o, 3)) (ho : 0 ≤ (pc : Int) + o) (hp : ((pc : Int) + o).toNat = n') (hn : pc + 3 = n) (kt : A ≤ 0 → Go p l e R s m args below meth c n0 Q cells slots h (mkF m n' Ls (st))) (kf : 0 < A → Go p l e R s m args below meth c n0 Q cells slots h (mkF m n Ls (st))) : Go p l e R s m args below meth c n0 Q cells slots h (mkF m pc Ls (.int x1 :: st)) := by
  subst hn hA
  rcases ich_le (x1 := x1) (x2 := 0) with ⟨q, r⟩ | ⟨q, r⟩
  · exact Go.via (fun T locs X _ t q => XS.ifYes X.here C.x rfl rfl (hb C.by hd) rfl ((if0 _ _).trans r) ho hp q) (kt q)
  · exact Go.via (fun T locs X _ t q => XS.ifNo X.here C.x rfl (hb C.by hd) rfl ((if0 _ _).trans r) q) (kf q)
theorem lch_le (x1 x2 : Int64) : ((lcmpW x1 x2).toInt ≤ 0 → x1.toInt ≤ x2.toInt) ∧ (0 < (lcmpW x1 x2).toInt → x2.toInt < x1.toInt) := by
  have q := c_lcmp x1 x2
  have z : ∀ x : Int32, x = 0 ↔ x.toInt = 0 := fun x => ⟨fun q => by rw [q]; rfl, fun q => Int32.toInt_inj.mp q⟩
  have w : x1 = x2 ↔ x1.toInt = x2.toInt := Int64.toInt_inj.symm
  
  constructor <;> intro r <;> omega
theorem G.lcmp_le (C : Cx p s m meth c Z y bytes maxL ret) {x1 x2 : Int64} {o : Int} {A B : Int} (hA : x1.toInt = A) (hB : x2.toInt = B) (hc : decode bytes pc = .ok (.lcmp, 1)) (hd : decode bytes (pc + 1) = .ok (.ifCond .le o, 3)) (ho : 0 ≤ ((pc + 1 : Nat) : Int) + o) (hp : (((pc + 1 : Nat) : Int) + o).toNat = n') (hn : pc + 4 = n) (kt : A ≤ B → Go p l e R s m args below meth c n0 Q cells slots h (mkF m n' Ls (st))) (kf : B < A → Go p l e R s m args below meth c n0 Q cells slots h (mkF m n Ls (st))) : Go p l e R s m args below meth c n0 Q cells slots h (mkF m pc Ls (.long x2 :: .long x1 :: st)) := by
  subst hn hA hB
  refine Go.via (fun T locs X _ t q => XS.lcmp X.here C.x rfl (hb C.by hc) rfl q) ?_
  exact G.if_le C (A := (lcmpW x1 x2).toInt) rfl (pc := pc + 1) hd ho hp (n := pc + 4) rfl (fun q => kt ((lch_le x1 x2).1 q)) (fun q => kf ((lch_le x1 x2).2 q))
theorem ich_eq {x1 x2 : Int32} : (x1 = x2 ∧ if_icmp.holds .eq x1 x2 = true) ∨ (x1 ≠ x2 ∧ if_icmp.holds .eq x1 x2 = false) := by
  by_cases q : x1 = x2 <;> simp [if_icmp.holds, q]
theorem G.icmp_eq (C : Cx p s m meth c Z y bytes maxL ret) {x1 x2 : Int32} {o : Int} {A B : Int} (hA : x1.toInt = A) (hB : x2.toInt = B) (hd : decode bytes pc = .ok (.if_icmp .eq o, 3)) (ho : 0 ≤ (pc : Int) + o) (hp : ((pc : Int) + o).toNat = n') (hn : pc + 3 = n) (kt : x1 = x2 → A = B → Go p l e R s m args below meth c n0 Q cells slots h (mkF m n' Ls (st))) (kf : x1 ≠ x2 → A ≠ B → Go p l e R s m args below meth c n0 Q cells slots h (mkF m n Ls (st))) : Go p l e R s m args below meth c n0 Q cells slots h (mkF m pc Ls (.int x2 :: .int x1 :: st)) := by
  subst hn hA hB
  rcases ich_eq (x1 := x1) (x2 := x2) with ⟨q, r⟩ | ⟨q, r⟩
  · exact Go.via (fun T locs X _ t q => XS.icmpYes X.here C.x rfl rfl (hb C.by hd) rfl r ho hp q) (kt q (congrArg _ q))
  · exact Go.via (fun T locs X _ t q => XS.icmpNo X.here C.x rfl (hb C.by hd) rfl r q) (kf q (fun r => q (Int32.toInt_inj.mp r)))
theorem G.if_eq (C : Cx p s m meth c Z y bytes maxL ret) {x1 : Int32} {o : Int} {A : Int} (hA : x1.toInt = A) (hd : decode bytes pc = .ok (.ifCond .eq o, 3)) (ho : 0 ≤ (pc : Int) + o) (hp : ((pc : Int) + o).toNat = n') (hn : pc + 3 = n) (kt : x1 = 0 → A = 0 → Go p l e R s m args below meth c n0 Q cells slots h (mkF m n' Ls (st))) (kf : x1 ≠ 0 → A ≠ 0 → Go p l e R s m args below meth c n0 Q cells slots h (mkF m n Ls (st))) : Go p l e R s m args below meth c n0 Q cells slots h (mkF m pc Ls (.int x1 :: st)) := by
  subst hn hA
  rcases ich_eq (x1 := x1) (x2 := 0) with ⟨q, r⟩ | ⟨q, r⟩
  · exact Go.via (fun T locs X _ t q => XS.ifYes X.here C.x rfl rfl (hb C.by hd) rfl ((if0 _ _).trans r) ho hp q) (kt q (congrArg Int32.toInt q))
  · exact Go.via (fun T locs X _ t q => XS.ifNo X.here C.x rfl (hb C.by hd) rfl ((if0 _ _).trans r) q) (kf q (fun r => q (Int32.toInt_inj.mp r)))
theorem lch_eq (x1 x2 : Int64) : ((lcmpW x1 x2) = 0 → x1 = x2) ∧ ((lcmpW x1 x2) ≠ 0 → x1 ≠ x2) := by
  have q := c_lcmp x1 x2
  have z : ∀ x : Int32, x = 0 ↔ x.toInt = 0 := fun x => ⟨fun q => by rw [q]; rfl, fun q => Int32.toInt_inj.mp q⟩
  have w : x1 = x2 ↔ x1.toInt = x2.toInt := Int64.toInt_inj.symm
  simp only [ne_eq, z, w]
  constructor <;> intro r <;> omega
theorem G.lcmp_eq (C : Cx p s m meth c Z y bytes maxL ret) {x1 x2 : Int64} {o : Int} {A B : Int} (hA : x1.toInt = A) (hB : x2.toInt = B) (hc : decode bytes pc = .ok (.lcmp, 1)) (hd : decode bytes (pc + 1) = .ok (.ifCond .eq o, 3)) (ho : 0 ≤ ((pc + 1 : Nat) : Int) + o) (hp : (((pc + 1 : Nat) : Int) + o).toNat = n') (hn : pc + 4 = n) (kt : x1 = x2 → A = B → Go p l e R s m args below meth c n0 Q cells slots h (mkF m n' Ls (st))) (kf : x1 ≠ x2 → A ≠ B → Go p l e R s m args below meth c n0 Q cells slots h (mkF m n Ls (st))) : Go p l e R s m args below meth c n0 Q cells slots h (mkF m pc Ls (.long x2 :: .long x1 :: st)) := by
  subst hn hA hB
  refine Go.via (fun T locs X _ t q => XS.lcmp X.here C.x rfl (hb C.by hc) rfl q) ?_
  exact G.if_eq C (A := (lcmpW x1 x2).toInt) rfl (pc := pc + 1) hd ho hp (n := pc + 4) rfl (fun q _ => kt ((lch_eq x1 x2).1 q) (congrArg _ ((lch_eq x1 x2).1 q))) (fun q _ => kf ((lch_eq x1 x2).2 q) (fun r => (lch_eq x1 x2).2 q (Int64.toInt_inj.mp r)))
theorem ich_ne {x1 x2 : Int32} : (x1 ≠ x2 ∧ if_icmp.holds .ne x1 x2 = true) ∨ (x1 = x2 ∧ if_icmp.holds .ne x1 x2 = false) := by
  by_cases q : x1 = x2 <;> simp [if_icmp.holds, q]
theorem G.icmp_ne (C : Cx p s m meth c Z y bytes maxL ret) {x1 x2 : Int32} {o : Int} {A B : Int} (hA : x1.toInt = A) (hB : x2.toInt = B) (hd : decode bytes pc = .ok (.if_icmp .ne o, 3)) (ho : 0 ≤ (pc : Int) + o) (hp : ((pc : Int) + o).toNat = n') (hn : pc + 3 = n) (kt : x1 ≠ x2 → A ≠ B → Go p l e R s m args below meth c n0 Q cells slots h (mkF m n' Ls (st))) (kf : x1 = x2 → A = B → Go p l e R s m args below meth c n0 Q cells slots h (mkF m n Ls (st))) : Go p l e R s m args below meth c n0 Q cells slots h (mkF m pc Ls (.int x2 :: .int x1 :: st)) := by
  subst hn hA hB
  rcases ich_ne (x1 := x1) (x2 := x2) with ⟨q, r⟩ | ⟨q, r⟩
  · exact Go.via (fun T locs X _ t q => XS.icmpYes X.here C.x rfl rfl (hb C.by hd) rfl r ho hp q) (kt q (fun r => q (Int32.toInt_inj.mp r)))
  · exact Go.via (fun T locs X _ t q => XS.icmpNo X.here C.x rfl (hb C.by hd) rfl r q) (kf q (congrArg _ q))
theorem G.if_ne (C : Cx p s m meth c Z y bytes maxL ret) {x1 : Int32} {o : Int} {A : Int} (hA : x1.toInt = A) (hd : decode bytes pc = .ok (.ifCond .ne o, 3)) (ho : 0 ≤ (pc : Int) + o) (hp : ((pc : Int) + o).toNat = n') (hn : pc + 3 = n) (kt : x1 ≠ 0 → A ≠ 0 → Go p l e R s m args below meth c n0 Q cells slots h (mkF m n' Ls (st))) (kf : x1 = 0 → A = 0 → Go p l e R s m args below meth c n0 Q cells slots h (mkF m n Ls (st))) : Go p l e R s m args below meth c n0 Q cells slots h (mkF m pc Ls (.int x1 :: st)) := by
  subst hn hA
  rcases ich_ne (x1 := x1) (x2 := 0) with ⟨q, r⟩ | ⟨q, r⟩
  · exact Go.via (fun T locs X _ t q => XS.ifYes X.here C.x rfl rfl (hb C.by hd) rfl ((if0 _ _).trans r) ho hp q) (kt q (fun r => q (Int32.toInt_inj.mp r)))
  · exact Go.via (fun T locs X _ t q => XS.ifNo X.here C.x rfl (hb C.by hd) rfl ((if0 _ _).trans r) q) (kf q (congrArg Int32.toInt q))
theorem lch_ne (x1 x2 : Int64) : ((lcmpW x1 x2) ≠ 0 → x1 ≠ x2) ∧ ((lcmpW x1 x2) = 0 → x1 = x2) := by
  have q := c_lcmp x1 x2
  have z : ∀ x : Int32, x = 0 ↔ x.toInt = 0 := fun x => ⟨fun q => by rw [q]; rfl, fun q => Int32.toInt_inj.mp q⟩
  have w : x1 = x2 ↔ x1.toInt = x2.toInt := Int64.toInt_inj.symm
  simp only [ne_eq, z, w]
  constructor <;> intro r <;> omega
theorem G.lcmp_ne (C : Cx p s m meth c Z y bytes maxL ret) {x1 x2 : Int64} {o : Int} {A B : Int} (hA : x1.toInt = A) (hB : x2.toInt = B) (hc : decode bytes pc = .ok (.lcmp, 1)) (hd : decode bytes (pc + 1) = .ok (.ifCond .ne o, 3)) (ho : 0 ≤ ((pc + 1 : Nat) : Int) + o) (hp : (((pc + 1 : Nat) : Int) + o).toNat = n') (hn : pc + 4 = n) (kt : x1 ≠ x2 → A ≠ B → Go p l e R s m args below meth c n0 Q cells slots h (mkF m n' Ls (st))) (kf : x1 = x2 → A = B → Go p l e R s m args below meth c n0 Q cells slots h (mkF m n Ls (st))) : Go p l e R s m args below meth c n0 Q cells slots h (mkF m pc Ls (.long x2 :: .long x1 :: st)) := by
  subst hn hA hB
  refine Go.via (fun T locs X _ t q => XS.lcmp X.here C.x rfl (hb C.by hc) rfl q) ?_
  exact G.if_ne C (A := (lcmpW x1 x2).toInt) rfl (pc := pc + 1) hd ho hp (n := pc + 4) rfl (fun q _ => kt ((lch_ne x1 x2).1 q) (fun r => (lch_ne x1 x2).1 q (Int64.toInt_inj.mp r))) (fun q _ => kf ((lch_ne x1 x2).2 q) (congrArg _ ((lch_ne x1 x2).2 q)))
theorem G.ifnullN (C : Cx p s m meth c Z y bytes maxL ret) {b : Addr} {o : Int} (hd : decode bytes pc = .ok (.ifnull o, 3)) (hn : pc + 3 = n) (k : Go p l e R s m args below meth c n0 Q cells slots h (mkF m n Ls (st))) : Go p l e R s m args below meth c n0 Q cells slots h (mkF m pc Ls (.ref b :: st)) := by
  subst hn
  exact Go.via (fun T locs X _ t q => XS.ifnullNo X.here C.x rfl (hb C.by hd) rfl q) k
theorem G.ifnullY (C : Cx p s m meth c Z y bytes maxL ret) {o : Int} (hd : decode bytes pc = .ok (.ifnull o, 3)) (ho : 0 ≤ (pc : Int) + o) (hp : ((pc : Int) + o).toNat = n) (k : Go p l e R s m args below meth c n0 Q cells slots h (mkF m n Ls (st))) : Go p l e R s m args below meth c n0 Q cells slots h (mkF m pc Ls (.null :: st)) :=
  Go.via (fun T locs X _ t q => XS.ifnullYes X.here C.x rfl rfl (hb C.by hd) rfl ho hp q) k
theorem G.ifnonnullY (C : Cx p s m meth c Z y bytes maxL ret) {b : Addr} {o : Int} (hd : decode bytes pc = .ok (.ifnonnull o, 3)) (ho : 0 ≤ (pc : Int) + o) (hp : ((pc : Int) + o).toNat = n) (k : Go p l e R s m args below meth c n0 Q cells slots h (mkF m n Ls (st))) : Go p l e R s m args below meth c n0 Q cells slots h (mkF m pc Ls (.ref b :: st)) :=
  Go.via (fun T locs X _ t q => XS.ifnonnullYes X.here C.x rfl rfl (hb C.by hd) rfl ho hp q) k
theorem G.ifnonnullN (C : Cx p s m meth c Z y bytes maxL ret) {o : Int} (hd : decode bytes pc = .ok (.ifnonnull o, 3)) (hn : pc + 3 = n) (k : Go p l e R s m args below meth c n0 Q cells slots h (mkF m n Ls (st))) : Go p l e R s m args below meth c n0 Q cells slots h (mkF m pc Ls (.null :: st)) := by
  subst hn
  exact Go.via (fun T locs X _ t q => XS.ifnonnullNo X.here C.x rfl (hb C.by hd) rfl q) k
theorem G.acmp_eq (C : Cx p s m meth c Z y bytes maxL ret) {x1 x2 : Value} {o : Int} (h1 : x1.isRef = true) (h2 : x2.isRef = true) (hd : decode bytes pc = .ok (.if_acmp .eq o, 3)) (ho : 0 ≤ (pc : Int) + o) (hp : ((pc : Int) + o).toNat = n') (hn : pc + 3 = n) (kt : x1 = x2 → Go p l e R s m args below meth c n0 Q cells slots h (mkF m n' Ls (st))) (kf : x1 ≠ x2 → Go p l e R s m args below meth c n0 Q cells slots h (mkF m n Ls (st))) : Go p l e R s m args below meth c n0 Q cells slots h (mkF m pc Ls (x2 :: x1 :: st)) := by
  subst hn
  by_cases r : x1 = x2
  · exact Go.via (fun T locs X _ t q => Jvm.RoadKit.acmp (g := mkF m pc Ls (x2 :: x1 :: st)) X C.x rfl h1 h2 (same := true) rfl (hb C.by hd) rfl (decide_eq_true r) ho (hp.symm) q) (kt r)
  · exact Go.via (fun T locs X _ t q => Jvm.RoadKit.acmp (g := mkF m pc Ls (x2 :: x1 :: st)) X C.x rfl h1 h2 (same := false) rfl (hb C.by hd) rfl (decide_eq_false r) ho (rfl) q) (kf r)
theorem G.acmp_ne (C : Cx p s m meth c Z y bytes maxL ret) {x1 x2 : Value} {o : Int} (h1 : x1.isRef = true) (h2 : x2.isRef = true) (hd : decode bytes pc = .ok (.if_acmp .ne o, 3)) (ho : 0 ≤ (pc : Int) + o) (hp : ((pc : Int) + o).toNat = n') (hn : pc + 3 = n) (kt : x1 ≠ x2 → Go p l e R s m args below meth c n0 Q cells slots h (mkF m n' Ls (st))) (kf : x1 = x2 → Go p l e R s m args below meth c n0 Q cells slots h (mkF m n Ls (st))) : Go p l e R s m args below meth c n0 Q cells slots h (mkF m pc Ls (x2 :: x1 :: st)) := by
  subst hn
  by_cases r : x1 = x2
  · exact Go.via (fun T locs X _ t q => Jvm.RoadKit.acmp (g := mkF m pc Ls (x2 :: x1 :: st)) X C.x rfl h1 h2 (same := true) rfl (hb C.by hd) rfl (decide_eq_true r) ho (rfl) q) (kf r)
  · exact Go.via (fun T locs X _ t q => Jvm.RoadKit.acmp (g := mkF m pc Ls (x2 :: x1 :: st)) X C.x rfl h1 h2 (same := false) rfl (hb C.by hd) rfl (decide_eq_false r) ho (hp.symm) q) (kt r)
theorem G.ldc (C : Cx p s m meth c Z y bytes maxL ret) {index : Nat} {v : Int32} (w : (Jvm.Cond.constant y.cls index v).before a0 Z = true) (hd : decode bytes pc = .ok (.ldc index, 2)) (hn : pc + 2 = n) (k : Go p l e R s m args below meth c n0 Q cells slots h (mkF m n Ls (.int v :: st))) : Go p l e R s m args below meth c n0 Q cells slots h (mkF m pc Ls (st)) := by
  subst hn
  exact Go.via (fun T locs X _ t q => X.ldcInt C.x C.own (mvT C.z w) (g := mkF m pc Ls st) rfl (hb C.by hd) t q) k
theorem G.ldc_w (C : Cx p s m meth c Z y bytes maxL ret) {index : Nat} {v : Int32} (w : (Jvm.Cond.constant y.cls index v).before a0 Z = true) (hd : decode bytes pc = .ok (.ldc_w index, 3)) (hn : pc + 3 = n) (k : Go p l e R s m args below meth c n0 Q cells slots h (mkF m n Ls (.int v :: st))) : Go p l e R s m args below meth c n0 Q cells slots h (mkF m pc Ls (st)) := by
  subst hn
  exact Go.via (fun T locs X _ t q => X.ldcwInt C.x C.own (mvT C.z w) (g := mkF m pc Ls st) rfl (hb C.by hd) t q) k
theorem G.ldc2 (C : Cx p s m meth c Z y bytes maxL ret) {index : Nat} {v : Int64} (w : (Jvm.Cond.constantLong y.cls index v).before a0 Z = true) (hd : decode bytes pc = .ok (.ldc2_w index, 3)) (hn : pc + 3 = n) (k : Go p l e R s m args below meth c n0 Q cells slots h (mkF m n Ls (.long v :: st))) : Go p l e R s m args below meth c n0 Q cells slots h (mkF m pc Ls (st)) := by
  subst hn
  exact Go.via (fun T locs X _ t q => X.ldc2Long C.x C.own (mvT C.z w) (g := mkF m pc Ls st) rfl (hb C.by hd) t q) k
theorem Go.leave (C : Cx p s m meth c Z y bytes maxL ret) {v : Option Value} {f : JFrame} (hv : ret = none → v = none) (hc : cells ≤ R.cells) (hs : slots ≤ R.slots)
    (hret : ∀ T locs, Stand p l e R s m args below meth c T locs cells slots → ∀ fs, (∀ (f : JFrame) (acts : List Action), f.method = m → f.locked = none → f.entered = [] → (doReturn e (T.setTop f) acts v).1 = T.setFrames fs) → Steps p.tables e below (T.setTop f) (T.setFrames fs))
    (q : Q v h) : Go p l e R s m args below meth c n0 Q cells slots h f := fun T locs X N e0 => by
  obtain ⟨fs, hr, hrun, hended, hW, hsame⟩ := X.leave (v := v) (fun q => hv (C.rt.symm.trans q)) C.locks
  refine ⟨_, _, hret T locs X fs hr, hrun, hended, v, locs, rfl, ⟨N, ?_⟩, ⟨_, rfl⟩, hW, hsame.mono hc hs⟩
  show Q v T.heap
  rw [e0]; exact q
theorem G.return_ (C : Cx p s m meth c Z y bytes maxL none) (hd : decode bytes pc = .ok (.return_, 1)) (hc : cells ≤ R.cells) (hs : slots ≤ R.slots) (q : Q none h) : Go p l e R s m args below meth c n0 Q cells slots h (mkF m pc Ls ([])) :=
  Go.leave C (v := none) (fun _ => rfl) hc hs (fun T locs X fs hr => X.returnOut C.x C.rt (hb C.by hd) hr) q
theorem G.ireturn {t : FieldType} (C : Cx p s m meth c Z y bytes maxL (some t)) {x : Int32} (hd : decode bytes pc = .ok (.ireturn, 1)) (hnn : narrow t (.int x) = .int x) (ht : t = .int ∨ t = .boolean ∨ t = .byte ∨ t = .char ∨ t = .short) (hc : cells ≤ R.cells) (hs : slots ≤ R.slots) (q : Q (some (.int x)) h) : Go p l e R s m args below meth c n0 Q cells slots h (mkF m pc Ls (.int x :: st)) :=
  Go.leave C (v := some (.int x)) (fun q => nomatch q) hc hs (fun T locs X fs hr => retOut X C.x C.rt hnn (Or.inl ⟨rfl, ht, _, rfl⟩) (hb C.by hd) hr) q
theorem G.lreturn (C : Cx p s m meth c Z y bytes maxL (some .long)) {x : Int64} (hd : decode bytes pc = .ok (.lreturn, 1)) (hc : cells ≤ R.cells) (hs : slots ≤ R.slots) (q : Q (some (.long x)) h) : Go p l e R s m args below meth c n0 Q cells slots h (mkF m pc Ls (.long x :: st)) :=
  Go.leave C (v := some (.long x)) (fun q => nomatch q) hc hs (fun T locs X fs hr => retOut X C.x C.rt rfl (Or.inr (Or.inl ⟨rfl, rfl, _, rfl⟩)) (hb C.by hd) hr) q
theorem G.areturn {t : FieldType} (C : Cx p s m meth c Z y bytes maxL (some t)) {x : Value} (hd : decode bytes pc = .ok (.areturn, 1)) (ht : t.isReference = true) (hx : x.isRef = true) (hnn : narrow t x = x) (hc : cells ≤ R.cells) (hs : slots ≤ R.slots) (q : Q (some x) h) : Go p l e R s m args below meth c n0 Q cells slots h (mkF m pc Ls (x :: st)) :=
  Go.leave C (v := some x) (fun q => nomatch q) hc hs (fun T locs X fs hr => retOut X C.x C.rt hnn (Or.inr (Or.inr (Or.inr (Or.inr ⟨rfl, ht, hx⟩)))) (hb C.by hd) hr) q
theorem G.getfield (C : Cx p s m meth c Z y bytes maxL ret) {R0 O nm d host : String} {index : Nat} (w : (Jvm.Cond.fieldLink y.cls index R0 nm d).before a0 Z = true ∨ (Jvm.Cond.fieldLinkNest y.cls index R0 nm d host).before a0 Z = true) (via : Via Z R0 O nm d) {a : Addr} {v : Value} (F : Fld Z h a O nm d v) (hd : decode bytes pc = .ok (.getfield index, 3)) (hn : pc + 3 = n) (k : Go p l e R s m args below meth c n0 Q cells slots h (mkF m n Ls (v :: st))) : Go p l e R s m args below meth c n0 Q cells slots h (mkF m pc Ls (.ref a :: st)) := fun T locs X N q => by
  subst hn
  obtain ⟨T', X', e', st'⟩ := getF X C.x C.z C.own w via q F (g := mkF m pc Ls (.ref a :: st)) rfl rfl (hb C.by hd)
  obtain ⟨t, o, s1, r⟩ := k T' locs X' N e'
  exact ⟨t, o, st' t s1, r⟩
theorem G.getstatic (C : Cx p s m meth c Z y bytes maxL ret) {R0 O nm d host : String} {index : Nat} (w : (Jvm.Cond.fieldLink y.cls index R0 nm d).before a0 Z = true ∨ (Jvm.Cond.fieldLinkNest y.cls index R0 nm d host).before a0 Z = true) (via : Via Z R0 O nm d) {v : Value} (F : Sta Z h O nm d v) (hd : decode bytes pc = .ok (.getstatic index, 3)) (hn : pc + 3 = n) (k : Go p l e R s m args below meth c n0 Q cells slots h (mkF m n Ls (v :: st))) : Go p l e R s m args below meth c n0 Q cells slots h (mkF m pc Ls (st)) := fun T locs X N q => by
  subst hn
  obtain ⟨T', X', e', st'⟩ := getS2 X C.x C.z C.own w via q F (g := mkF m pc Ls st) rfl (hb C.by hd)
  obtain ⟨t, o, s1, r⟩ := k T' locs X' N e'
  exact ⟨t, o, st' t s1, r⟩
theorem G.putfield (C : Cx p s m meth c Z y bytes maxL ret) {R0 O nm d host K : String} {index kk : Nat} {ty : FieldType} (w : (Jvm.Cond.fieldLink y.cls index R0 nm d).before a0 Z = true ∨ (Jvm.Cond.fieldLinkNest y.cls index R0 nm d host).before a0 Z = true) (via : Via Z R0 O nm d) {a : Addr} {v old : Value} (F : Fld Z h a O nm d old) (E : Exa Z h a K)
    (L : (Jvm.Cond.lays K O nm d).before a0 Z = true ∨ ((Jvm.Cond.laysFinal K O nm d).before a0 Z = true ∧ y.cls = O ∧ y.name = "<init>")) (wi : (Jvm.Cond.instantiable K kk).before a0 Z = true) (hty : parseFieldDescriptor d = some ty) (hnn : narrow ty v = v) (hf : fits ty v = true) (g : n0 ≤ a)
    (hd : decode bytes pc = .ok (.putfield index, 3)) (hn : pc + 3 = n) (k : ∀ h', Wr h h' a (RoadKit.slotOf Z O nm d) v → Go p l e R s m args below meth c n0 Q cells slots h' (mkF m n Ls (st))) : Go p l e R s m args below meth c n0 Q cells slots h (mkF m pc Ls (v :: .ref a :: st)) := fun T locs X N q => by
  subst hn
  obtain ⟨T', h', X', e', W, st'⟩ := putF X C.x C.z C.own w via q F E (L.imp id fun r => ⟨r.1, r.2.1, C.nm.trans r.2.2⟩) wi hty hnn hf (g := mkF m pc Ls (v :: .ref a :: st)) rfl rfl (hb C.by hd)
  obtain ⟨t, o, s1, r⟩ := k h' W T' _ X' (Fr.snoc X' N g) e'
  exact ⟨t, o, st' t s1, r⟩
theorem G.putfieldN (C : Cx p s m meth c Z y bytes maxL ret) {R0 O nm d K : String} {index kk : Nat} {ty : FieldType} (w : (Jvm.Cond.fieldLink y.cls index R0 nm d).before a0 Z = true) (via : Via Z R0 O nm d) {a : Addr} {v v' old : Value} (F : Fld Z h a O nm d old) (E : Exa Z h a K)
    (L : (Jvm.Cond.lays K O nm d).before a0 Z = true ∨ ((Jvm.Cond.laysFinal K O nm d).before a0 Z = true ∧ y.cls = O ∧ y.name = "<init>")) (wi : (Jvm.Cond.instantiable K kk).before a0 Z = true) (hty : parseFieldDescriptor d = some ty) (hnn : narrow ty v = v') (hf : fits ty v' = true) (g : n0 ≤ a)
    (hd : decode bytes pc = .ok (.putfield index, 3)) (hn : pc + 3 = n) (k : ∀ h', Wr h h' a (RoadKit.slotOf Z O nm d) v' → Go p l e R s m args below meth c n0 Q cells slots h' (mkF m n Ls (st))) : Go p l e R s m args below meth c n0 Q cells slots h (mkF m pc Ls (v :: .ref a :: st)) := fun T locs X N q => by
  subst hn
  obtain ⟨T', h', X', e', W, st'⟩ := putFN X C.x C.z C.own w via q F E (L.imp id fun r => ⟨r.1, r.2.1, C.nm.trans r.2.2⟩) wi hty hnn hf (g := mkF m pc Ls (v :: .ref a :: st)) rfl rfl (hb C.by hd)
  obtain ⟨t, o, s1, r⟩ := k h' W T' _ X' (Fr.snoc X' N g) e'
  exact ⟨t, o, st' t s1, r⟩
theorem G.new (C : Cx p s m meth c Z y bytes maxL ret) {K : String} {index ns c' s' : Nat} (w : (Jvm.Cond.classLink y.cls index K).before a0 Z = true) (wi : (Jvm.Cond.instantiable K ns).before a0 Z = true) (wz : (Jvm.Cond.initialized K).before a0 Z = true) (hd : decode bytes pc = .ok (.new index, 3)) (hn : pc + 3 = n) (hc' : cells + 1 = c') (hs' : slots + ns = s') (hc : c' ≤ R.cells) (hs : s' ≤ R.slots)
    (k : ∀ h' b, b = h.size → Ext h h' → Exa Z h' b K → (∀ {O nm d : String} {ty : FieldType}, Laid Z a0 K O nm d → parseFieldDescriptor d = some ty → Fld Z h' b O nm d (defaultValue ty)) → Go p l e R s m args below meth c n0 Q c' s' h' (mkF m n Ls (.ref b :: st))) : Go p l e R s m args below meth c n0 Q cells slots h (mkF m pc Ls (st)) := fun T locs X N q => by
  subst hn hc' hs'
  obtain ⟨T', h', X', e', E, A, D, -, st'⟩ := newO X C.x C.z C.own w wi wz q (g := mkF m pc Ls st) rfl (hb C.by hd) hc hs
  obtain ⟨t, o, s1, r⟩ := k h' _ rfl E A D T' _ X' N e'
  exact ⟨t, o, st' t s1, r⟩
theorem G.objinit (C : Cx p s m meth c Z y bytes maxL ret) {index W : Nat} (w1 : (Jvm.Cond.methodLink y.cls index Lib.objectInit).before a0 Z = true) (w2 : (Jvm.Cond.instanceMethod Lib.objectInit).before a0 Z = true) (w3 : (Jvm.Cond.code Lib.objectInit ⟨#[0xb1]⟩ 1 none).before a0 Z = true) {a : Addr} (hd : decode bytes pc = .ok (.invokespecial index, 3)) (hsz : Ls.size = maxL) (hf : 1 ≤ R.frames) (hW : (st.map fun v => v.category).sum = W) (hl : W + 12 ≤ R.locals) (hn : pc + 3 = n) (k : Go p l e R s m args below meth c n0 Q cells slots h (mkF m n Ls (st))) : Go p l e R s m args below meth c n0 Q cells slots h (mkF m pc Ls (.ref a :: st)) := fun T locs X N q => by
  subst hn hW
  obtain ⟨T', X', e', st'⟩ := initO X C.x C.z C.own w1 w2 w3 q (g := mkF m pc Ls (.ref a :: st)) rfl (hsz.trans C.ml.symm) rfl (hb C.by hd) hf (W := (st.map fun v => v.category).sum) (by show 2 * 0 + _ ≤ _; omega) hl
  obtain ⟨t, o, s1, r⟩ := k T' locs X' N e'
  exact ⟨t, o, st' t s1, r⟩
theorem G.callS (C : Cx p s m meth c Z y bytes maxL ret) {index W : Nat} {yc : MethodName} {bc : ByteArray} {mc : Nat} {rc : Option FieldType} {rm : Room} {c' s' : Nat} {Qc : Option Value → Heap → Prop} {ps : List FieldType} {argsL stk : List Value} (w1 : (Jvm.Cond.methodLink y.cls index yc).before a0 Z = true) (w2 : (Jvm.Cond.static yc).before a0 Z = true) (w3 : (Jvm.Cond.initialized yc.cls).before a0 Z = true) (w4 : (Jvm.Cond.code yc bc mc rc).before a0 Z = true) (hy : yc.cls ≠ "java/lang/invoke/MethodHandle" ∧ yc.cls ≠ "java/lang/invoke/VarHandle") (M : Met l Z yc bc mc rc rm argsL.toArray h n0 Qc) (hsz : Ls.size = maxL) (hf : rm.frames + 1 ≤ R.frames) (hW : (st.map fun v => v.category).sum = W) (hl : W + (mc + 11) + rm.locals ≤ R.locals) (hc' : cells + rm.cells = c') (hs' : slots + rm.slots = s') (hc : c' ≤ R.cells) (hs : s' ≤ R.slots) (hd : decode bytes pc = .ok (.invokestatic index, 3)) (hn : pc + 3 = n) (hlen : parseMethodDescriptor yc.desc = some ⟨ps, rc⟩) (hal : argsL.length = ps.length) (hst : stk = argsL.reverse ++ st) (k : ∀ v h', Qc v h' → Go p l e R s m args below meth c n0 Q c' s' h' (mkF m n Ls (v.toList ++ st))) : Go p l e R s m args below meth c n0 Q cells slots h (mkF m pc Ls (stk)) := fun T locs X N q => by
  subst hn hW hc' hs' hst
  obtain ⟨v, _, ⟨T', L', k', n''⟩, -, X', ⟨Lc, hQ, h1, h2, h3⟩, st'⟩ := Jvm.LawKit.callS X C.x (y := yc) C.own (mvT C.z w1) (mvT C.z w2) (mvT C.z w3) (mvT C.z w4) hy (backOf (W := (st.map fun v => v.category).sum) (Q := fun v h L => Fr n0 L ∧ Qc v h) (M []) C.z w4 w3 hf hl) (g := mkF m pc Ls (argsL.reverse ++ st)) rfl (hsz.trans C.ml.symm) (argsL := argsL) (rest := st) (lenOf hlen hal) rfl (by show 2 * 0 + _ ≤ _; omega) (hb C.by hd) (fun _ _ => ⟨rfl, q, hc, hs⟩)
  dsimp only [Pt.U, Pt.locs, Pt.cells, Pt.slots] at X' h1 h2 h3 st' hQ
  subst h1 h2 h3
  obtain ⟨t, o, s1, r⟩ := k v _ hQ.2 T' _ X' (Fr.app N hQ.1) rfl
  exact ⟨t, o, st' t s1, r⟩
theorem G.callC (C : Cx p s m meth c Z y bytes maxL ret) {index W : Nat} {yc : MethodName} {bc : ByteArray} {mc : Nat} {rm : Room} {c' s' : Nat} {Qc : Option Value → Heap → Prop} {ps : List FieldType} {argsL stk : List Value} {a : Addr} (hy1 : yc.name = "<init>") (w1 : (Jvm.Cond.methodLink y.cls index yc).before a0 Z = true) (w2 : (Jvm.Cond.instanceMethod yc).before a0 Z = true) (w3 : (Jvm.Cond.initialized yc.cls).before a0 Z = true) (w4 : (Jvm.Cond.code yc bc mc none).before a0 Z = true) (hy : yc.cls ≠ "java/lang/invoke/MethodHandle" ∧ yc.cls ≠ "java/lang/invoke/VarHandle") (M : Met l Z yc bc mc none rm (.ref a :: argsL).toArray h n0 Qc) (hsz : Ls.size = maxL) (hf : rm.frames + 1 ≤ R.frames) (hW : (st.map fun v => v.category).sum = W) (hl : W + (mc + 11) + rm.locals ≤ R.locals) (hc' : cells + rm.cells = c') (hs' : slots + rm.slots = s') (hc : c' ≤ R.cells) (hs : s' ≤ R.slots) (hd : decode bytes pc = .ok (.invokespecial index, 3)) (hn : pc + 3 = n) (hlen : parseMethodDescriptor yc.desc = some ⟨ps, none⟩) (hal : argsL.length = ps.length) (hst : stk = argsL.reverse ++ .ref a :: st) (k : ∀ v h', Qc v h' → Go p l e R s m args below meth c n0 Q c' s' h' (mkF m n Ls (v.toList ++ st))) : Go p l e R s m args below meth c n0 Q cells slots h (mkF m pc Ls (stk)) := fun T locs X N q => by
  subst hn hW hc' hs' hst
  obtain ⟨v, _, ⟨T', L', k', n''⟩, -, X', ⟨Lc, hQ, h1, h2, h3⟩, st'⟩ := X.specialBack C.x (y := yc) hy1 C.own (mvT C.z w1) (mvT C.z w2) (mvT C.z w4) hy (backOf (W := (st.map fun v => v.category).sum) (Q := fun v h L => Fr n0 L ∧ Qc v h) (M []) C.z w4 w3 hf hl) (g := mkF m pc Ls (argsL.reverse ++ .ref a :: st)) rfl (hsz.trans C.ml.symm) (Steps.refl _) (a := a) (argsL := argsL) (rest := st) (lenOf hlen hal) rfl (by show 2 * 0 + _ ≤ _; omega) (hb C.by hd) (fun _ _ => ⟨rfl, q, hc, hs⟩)
  dsimp only [Pt.U, Pt.locs, Pt.cells, Pt.slots] at X' h1 h2 h3 st' hQ
  subst h1 h2 h3
  obtain ⟨t, o, s1, r⟩ := k v _ hQ.2 T' _ X' (Fr.app N hQ.1) rfl
  exact ⟨t, o, st'.trans s1, r⟩
theorem G.callV (C : Cx p s m meth c Z y bytes maxL ret) {index W : Nat} {yc : MethodName} {bc : ByteArray} {mc : Nat} {rc : Option FieldType} {rm : Room} {c' s' : Nat} {Qc : Option Value → Heap → Prop} {ps : List FieldType} {K : String} {yr : MethodName} {argsL stk : List Value} {a : Addr} (E : Exa Z h a K) (w1 : (Jvm.Cond.methodLink y.cls index yr).before a0 Z = true) (w5 : (Jvm.Cond.declares yr).before a0 Z = true) (hnf : ∀ s : State, Z.Warmed39 s.vm → NotFace s yr) (w6 : (Jvm.Cond.selects K yr yc).before a0 Z = true) (w2 : (Jvm.Cond.instanceMethod yc).before a0 Z = true) (w3 : (Jvm.Cond.initialized yc.cls).before a0 Z = true) (w4 : (Jvm.Cond.code yc bc mc rc).before a0 Z = true) (hy : yr.cls ≠ "java/lang/invoke/MethodHandle" ∧ yr.cls ≠ "java/lang/invoke/VarHandle") (M : Met l Z yc bc mc rc rm (.ref a :: argsL).toArray h n0 Qc) (hsz : Ls.size = maxL) (hf : rm.frames + 1 ≤ R.frames) (hW : (st.map fun v => v.category).sum = W) (hl : W + (mc + 11) + rm.locals ≤ R.locals) (hc' : cells + rm.cells = c') (hs' : slots + rm.slots = s') (hc : c' ≤ R.cells) (hs : s' ≤ R.slots) (hd : decode bytes pc = .ok (.invokevirtual index, 3)) (hn : pc + 3 = n) (hlen : parseMethodDescriptor yr.desc = some ⟨ps, rc⟩) (hal : argsL.length = ps.length) (hst : stk = argsL.reverse ++ .ref a :: st) (k : ∀ v h', Qc v h' → Go p l e R s m args below meth c n0 Q c' s' h' (mkF m n Ls (v.toList ++ st))) : Go p l e R s m args below meth c n0 Q cells slots h (mkF m pc Ls (stk)) := fun T locs X N q => by
  subst hn hW hc' hs' hst
  obtain ⟨cq, kq, qa, qb, qc⟩ := isOf C.z q E
  obtain ⟨v, _, ⟨T', L', k', n''⟩, -, X', ⟨Lc, hQ, h1, h2, h3⟩, st'⟩ := X.virtualBack C.x (y := yr) (z := yc) C.own (mvT C.z w1) (mvT C.z w5) (hnf s C.z) (mvT C.z w6) (mvT C.z w2) hy (backOf (W := (st.map fun v => v.category).sum) (Q := fun v h L => Fr n0 L ∧ Qc v h) (M []) C.z w4 w3 hf hl) qa qc (g := mkF m pc Ls (argsL.reverse ++ .ref a :: st)) rfl (hsz.trans C.ml.symm) (Steps.refl _) (argsL := argsL) (rest := st) (lenOf hlen hal) rfl (by show 2 * 0 + _ ≤ _; omega) (hb C.by hd) (fun _ _ => ⟨rfl, q, hc, hs⟩)
  dsimp only [Pt.U, Pt.locs, Pt.cells, Pt.slots] at X' h1 h2 h3 st' hQ
  subst h1 h2 h3
  obtain ⟨t, o, s1, r⟩ := k v _ hQ.2 T' _ X' (Fr.app N hQ.1) rfl
  exact ⟨t, o, st'.trans s1, r⟩
theorem nfS {yr : MethodName} {K : String} {z : MethodName} (w6 : (Jvm.Cond.selects K yr z).before a0 Z = true) (hz : z = yr) : ∀ s : State, Z.Warmed39 s.vm → NotFace s yr := fun s hZ => by
  subst hz
  exact notFace_of_selects (args := #[]) (mvT hZ w6)
def Ints (Z : State) (h : Heap) (a : Addr) (ty : FieldType) (vs : List Int32) : Prop := ∃ k z, Arv Z h a k ty z (vs.map Value.int) (.int 0) ∧ z.toInt = vs.length
def Longs (Z : State) (h : Heap) (a : Addr) (vs : List Int64) : Prop := ∃ k z, Arv Z h a k .long z (vs.map Value.long) (.long 0) ∧ z.toInt = vs.length
theorem nat_clamp {j : Int32} : j.toNatClampNeg = j.toInt.toNat := rfl
theorem not_neg {j : Int32} (hj : 0 ≤ j.toInt) : ¬ j < 0 := by rw [lt_i]; exact Int.not_lt.mpr hj
theorem of_not_neg {j : Int32} (hj : ¬ j < 0) : 0 ≤ j.toInt := by rw [lt_i] at hj; exact Int.not_lt.mp hj
theorem inb {j z : Int32} {cl : Cell} {len : Nat} (hj : 0 ≤ j.toInt) (S : cl.slots.size = z.toNatClampNeg) (hz : z.toInt = len) (hl : j.toInt.toNat < len) : ¬ (j < 0 ∨ cl.slots.size ≤ j.toNatClampNeg) := by
  rintro (q | q)
  · exact not_neg hj q
  · rw [S, nat_clamp, nat_clamp, hz] at q; omega
theorem getD_map {α : Type} (f : α → Value) (vs : List α) (i : Nat) (d : Value) {x : α} (hx : vs[i]? = some x) : (vs.map f).getD i d = f x := by
  rw [List.getD_eq_getElem?_getD, List.getElem?_map, hx]; rfl
theorem lt_of_some {α : Type} {vs : List α} {i : Nat} {x : α} (hx : vs[i]? = some x) : i < vs.length := (List.getElem?_eq_some_iff.mp hx).1
theorem Ints.lt {a : Addr} {ty : FieldType} {vs : List Int32} (F : Ints Z h a ty vs) : a < h.size := by obtain ⟨k, z, A, -⟩ := F; exact A.lt
theorem Ints.ext {h' : Heap} {a : Addr} {ty : FieldType} {vs : List Int32} (F : Ints Z h a ty vs) (E : Ext h h') : Ints Z h' a ty vs := by obtain ⟨k, z, A, q⟩ := F; exact ⟨k, z, A.ext E, q⟩
theorem Ints.keep {h' : Heap} {ws : List Addr} {a : Addr} {ty : FieldType} {vs : List Int32} (F : Ints Z h a ty vs) (K : Keep h h' ws) (r : a ∉ ws) : Ints Z h' a ty vs := by obtain ⟨k, z, A, q⟩ := F; exact ⟨k, z, A.keep K r, q⟩
theorem Ints.other {h' : Heap} {sl : Nat} {v : Value} {a b : Addr} {ty : FieldType} {vs : List Int32} (F : Ints Z h a ty vs) (W : Wr h h' b sl v) (r : a ≠ b) : Ints Z h' a ty vs := by obtain ⟨k, z, A, q⟩ := F; exact ⟨k, z, A.other W r, q⟩
theorem Ints.len {a : Addr} {ty : FieldType} {vs : List Int32} (F : Ints Z h a ty vs) : (vs.length : Int) < 2147483648 := by obtain ⟨k, z, A, q⟩ := F; rw [← q]; exact (rng32 z).2
theorem Ints.at {a : Addr} {ty : FieldType} {vs : List Int32} (F : Ints Z h a ty vs) {j : Int32} {x : Int32} (hj : 0 ≤ j.toInt) (hx : vs[j.toInt.toNat]? = some x) : ∃ cl, Arr Z h a cl ty ∧ ¬ (j < 0 ∨ cl.slots.size ≤ j.toNatClampNeg) ∧ cl.slots[j.toNatClampNeg]? = some (.int x) ∧ fits ty (.int x) = true := by
  obtain ⟨k, z, ⟨cl, A, q1, S, N, H, G⟩, hz⟩ := F
  have hi := inb hj S hz (lt_of_some hx)
  have hi2 : j.toNatClampNeg < cl.slots.size := Nat.lt_of_not_le fun y => hi (Or.inr y)
  have e1 := H _ hi2
  have e2 := G _ hi2
  rw [nat_clamp, getD_map _ _ _ _ hx] at e1 e2
  exact ⟨cl, A, hi, e1, e2⟩
theorem Ints.put {h' : Heap} {a : Addr} {ty : FieldType} {vs : List Int32} (F : Ints Z h a ty vs) {j : Int32} {x : Int32} (hj : 0 ≤ j.toInt) (hl : j.toInt < vs.length) (hf : fits ty (.int x) = true) : ∃ cl, Arr Z h a cl ty ∧ ¬ (j < 0 ∨ cl.slots.size ≤ j.toNatClampNeg) ∧ (Wr h h' a j.toNatClampNeg (.int x) → Ints Z h' a ty (vs.set j.toInt.toNat x)) := by
  obtain ⟨k, z, ⟨cl, A, q1, S, N, H, G⟩, hz⟩ := F
  have hl2 : j.toInt.toNat < vs.length := by omega
  refine ⟨cl, A, inb hj S hz hl2, fun W => ⟨k, z, ?_, ?_⟩⟩
  · have r := Arv.set A q1 S N H G hf W j.toInt.toNat rfl (by rw [List.length_map]; exact hl2)
    rw [List.map_set]; exact r
  · rw [List.length_set]; exact hz
theorem Longs.lt {a : Addr} {vs : List Int64} (F : Longs Z h a vs) : a < h.size := by obtain ⟨k, z, A, -⟩ := F; exact A.lt
theorem Longs.ext {h' : Heap} {a : Addr} {vs : List Int64} (F : Longs Z h a vs) (E : Ext h h') : Longs Z h' a vs := by obtain ⟨k, z, A, q⟩ := F; exact ⟨k, z, A.ext E, q⟩
theorem Longs.keep {h' : Heap} {ws : List Addr} {a : Addr} {vs : List Int64} (F : Longs Z h a vs) (K : Keep h h' ws) (r : a ∉ ws) : Longs Z h' a vs := by obtain ⟨k, z, A, q⟩ := F; exact ⟨k, z, A.keep K r, q⟩
theorem Longs.other {h' : Heap} {sl : Nat} {v : Value} {a b : Addr} {vs : List Int64} (F : Longs Z h a vs) (W : Wr h h' b sl v) (r : a ≠ b) : Longs Z h' a vs := by obtain ⟨k, z, A, q⟩ := F; exact ⟨k, z, A.other W r, q⟩
theorem Longs.len {a : Addr} {vs : List Int64} (F : Longs Z h a vs) : (vs.length : Int) < 2147483648 := by obtain ⟨k, z, A, q⟩ := F; rw [← q]; exact (rng32 z).2
theorem Longs.at {a : Addr} {vs : List Int64} (F : Longs Z h a vs) {j : Int32} {x : Int64} (hj : 0 ≤ j.toInt) (hx : vs[j.toInt.toNat]? = some x) : ∃ cl, Arr Z h a cl .long ∧ ¬ (j < 0 ∨ cl.slots.size ≤ j.toNatClampNeg) ∧ cl.slots[j.toNatClampNeg]? = some (.long x) ∧ fits .long (.long x) = true := by
  obtain ⟨k, z, ⟨cl, A, q1, S, N, H, G⟩, hz⟩ := F
  have hi := inb hj S hz (lt_of_some hx)
  have hi2 : j.toNatClampNeg < cl.slots.size := Nat.lt_of_not_le fun y => hi (Or.inr y)
  have e1 := H _ hi2
  have e2 := G _ hi2
  rw [nat_clamp, getD_map _ _ _ _ hx] at e1 e2
  exact ⟨cl, A, hi, e1, e2⟩
theorem Longs.put {h' : Heap} {a : Addr} {vs : List Int64} (F : Longs Z h a vs) {j : Int32} {x : Int64} (hj : 0 ≤ j.toInt) (hl : j.toInt < vs.length) (hf : fits .long (.long x) = true) : ∃ cl, Arr Z h a cl .long ∧ ¬ (j < 0 ∨ cl.slots.size ≤ j.toNatClampNeg) ∧ (Wr h h' a j.toNatClampNeg (.long x) → Longs Z h' a (vs.set j.toInt.toNat x)) := by
  obtain ⟨k, z, ⟨cl, A, q1, S, N, H, G⟩, hz⟩ := F
  have hl2 : j.toInt.toNat < vs.length := by omega
  refine ⟨cl, A, inb hj S hz hl2, fun W => ⟨k, z, ?_, ?_⟩⟩
  · have r := Arv.set A q1 S N H G hf W j.toInt.toNat rfl (by rw [List.length_map]; exact hl2)
    rw [List.map_set]; exact r
  · rw [List.length_set]; exact hz
theorem G.iaload (C : Cx p s m meth c Z y bytes maxL ret) {a : Addr} {j : Int32} {x : Int32} {vs : List Int32} (F : Ints Z h a .int vs) (hj : 0 ≤ j.toInt) (hx : vs[j.toInt.toNat]? = some x) (hd : decode bytes pc = .ok (.iaload, 1)) (hn : pc + 1 = n) (k : Go p l e R s m args below meth c n0 Q cells slots h (mkF m n Ls (.int x :: st))) : Go p l e R s m args below meth c n0 Q cells slots h (mkF m pc Ls (.int j :: .ref a :: st)) := by
  subst hn
  obtain ⟨cl, A, h1, h2, -⟩ := F.at hj hx
  exact Go.via (fun T locs X q t r => X.iaload C.x (j := j) (v := .int x) (by rw [q]; exact A.1) (State.isArrayOf_alike C.z.alike A.2.1) A.2.2 h1 h2 (g := mkF m pc Ls (.int j :: .ref a :: st)) rfl rfl (hb C.by hd) t r) k
theorem G.laload (C : Cx p s m meth c Z y bytes maxL ret) {a : Addr} {j : Int32} {x : Int64} {vs : List Int64} (F : Longs Z h a vs) (hj : 0 ≤ j.toInt) (hx : vs[j.toInt.toNat]? = some x) (hd : decode bytes pc = .ok (.laload, 1)) (hn : pc + 1 = n) (k : Go p l e R s m args below meth c n0 Q cells slots h (mkF m n Ls (.long x :: st))) : Go p l e R s m args below meth c n0 Q cells slots h (mkF m pc Ls (.int j :: .ref a :: st)) := by
  subst hn
  obtain ⟨cl, A, h1, h2, -⟩ := F.at hj hx
  exact Go.via (fun T locs X q t r => X.laload C.x (j := j) (v := .long x) (by rw [q]; exact A.1) (State.isArrayOf_alike C.z.alike A.2.1) A.2.2 h1 h2 (g := mkF m pc Ls (.int j :: .ref a :: st)) rfl rfl (hb C.by hd) t r) k
theorem G.caload (C : Cx p s m meth c Z y bytes maxL ret) {a : Addr} {j : Int32} {x : Int32} {vs : List Int32} (F : Ints Z h a .char vs) (hj : 0 ≤ j.toInt) (hx : vs[j.toInt.toNat]? = some x) (hd : decode bytes pc = .ok (.caload, 1)) (hn : pc + 1 = n) (k : Go p l e R s m args below meth c n0 Q cells slots h (mkF m n Ls (.int x :: st))) : Go p l e R s m args below meth c n0 Q cells slots h (mkF m pc Ls (.int j :: .ref a :: st)) := by
  subst hn
  obtain ⟨cl, A, h1, h2, -⟩ := F.at hj hx
  exact Go.via (fun T locs X q t r => X.caload C.x (j := j) (v := .int x) (by rw [q]; exact A.1) (State.isArrayOf_alike C.z.alike A.2.1) A.2.2 h1 h2 (g := mkF m pc Ls (.int j :: .ref a :: st)) rfl rfl (hb C.by hd) t r) k
theorem G.baload (C : Cx p s m meth c Z y bytes maxL ret) {a : Addr} {j : Int32} {x : Int32} {vs : List Int32} (F : Ints Z h a .byte vs) (hj : 0 ≤ j.toInt) (hx : vs[j.toInt.toNat]? = some x) (hd : decode bytes pc = .ok (.baload, 1)) (hn : pc + 1 = n) (k : Go p l e R s m args below meth c n0 Q cells slots h (mkF m n Ls (.int x :: st))) : Go p l e R s m args below meth c n0 Q cells slots h (mkF m pc Ls (.int j :: .ref a :: st)) := by
  subst hn
  obtain ⟨cl, A, h1, h2, -⟩ := F.at hj hx
  exact Go.via (fun T locs X q t r => X.baloadBytes C.x (j := j) (v := .int x) (by rw [q]; exact A.1) (State.isArrayOf_alike C.z.alike A.2.1) A.2.2 h1 h2 (g := mkF m pc Ls (.int j :: .ref a :: st)) rfl rfl (hb C.by hd) t r) k
theorem G.baloadZ (C : Cx p s m meth c Z y bytes maxL ret) {a : Addr} {j : Int32} {x : Int32} {vs : List Int32} (F : Ints Z h a .boolean vs) (hj : 0 ≤ j.toInt) (hx : vs[j.toInt.toNat]? = some x) (hd : decode bytes pc = .ok (.baload, 1)) (hn : pc + 1 = n) (k : Go p l e R s m args below meth c n0 Q cells slots h (mkF m n Ls (.int x :: st))) : Go p l e R s m args below meth c n0 Q cells slots h (mkF m pc Ls (.int j :: .ref a :: st)) := by
  subst hn
  obtain ⟨cl, A, h1, h2, -⟩ := F.at hj hx
  exact Go.via (fun T locs X q t r => X.baloadBooleans C.x (j := j) (v := .int x) (by rw [q]; exact A.1) (State.isArrayOf_alike C.z.alike A.2.1) A.2.2 h1 h2 (g := mkF m pc Ls (.int j :: .ref a :: st)) rfl rfl (hb C.by hd) t r) k
theorem G.iastore (C : Cx p s m meth c Z y bytes maxL ret) {a : Addr} {j : Int32} {x : Int32} {vs : List Int32} (F : Ints Z h a .int vs) (hj : 0 ≤ j.toInt) (hl : j.toInt < vs.length) (g : n0 ≤ a) (hd : decode bytes pc = .ok (.iastore, 1)) (hn : pc + 1 = n) (k : ∀ h', Keep h h' [a] → (∃ w, Wr h h' a j.toNatClampNeg w) → Ints Z h' a .int (vs.set j.toInt.toNat x) → Go p l e R s m args below meth c n0 Q cells slots h' (mkF m n Ls (st))) : Go p l e R s m args below meth c n0 Q cells slots h (mkF m pc Ls (.int x :: .int j :: .ref a :: st)) := fun T locs X N q => by
  subst hn
  obtain ⟨cl, A, h1, -⟩ := F.put (h' := h) hj hl (x := x) rfl
  obtain ⟨T', h', X', e', W, st'⟩ := stI X C.x C.z q A (j := j) h1 (g := mkF m pc Ls (.int x :: .int j :: .ref a :: st)) rfl rfl (hb C.by hd)
  obtain ⟨cl2, A2, -, h3⟩ := F.put (h' := h') hj hl (x := x) rfl
  obtain ⟨t, o, s1, r⟩ := k h' (Keep.of_wr W) ⟨_, W⟩ (h3 W) T' _ X' (Fr.snoc X' N g) e'
  exact ⟨t, o, st' t s1, r⟩
theorem G.lastore (C : Cx p s m meth c Z y bytes maxL ret) {a : Addr} {j : Int32} {x : Int64} {vs : List Int64} (F : Longs Z h a vs) (hj : 0 ≤ j.toInt) (hl : j.toInt < vs.length) (g : n0 ≤ a) (hd : decode bytes pc = .ok (.lastore, 1)) (hn : pc + 1 = n) (k : ∀ h', Keep h h' [a] → (∃ w, Wr h h' a j.toNatClampNeg w) → Longs Z h' a (vs.set j.toInt.toNat x) → Go p l e R s m args below meth c n0 Q cells slots h' (mkF m n Ls (st))) : Go p l e R s m args below meth c n0 Q cells slots h (mkF m pc Ls (.long x :: .int j :: .ref a :: st)) := fun T locs X N q => by
  subst hn
  obtain ⟨cl, A, h1, -⟩ := F.put (h' := h) hj hl (x := x) rfl
  obtain ⟨T', h', X', e', W, st'⟩ := stJ X C.x C.z q A (j := j) h1 (g := mkF m pc Ls (.long x :: .int j :: .ref a :: st)) rfl rfl (hb C.by hd)
  obtain ⟨cl2, A2, -, h3⟩ := F.put (h' := h') hj hl (x := x) rfl
  obtain ⟨t, o, s1, r⟩ := k h' (Keep.of_wr W) ⟨_, W⟩ (h3 W) T' _ X' (Fr.snoc X' N g) e'
  exact ⟨t, o, st' t s1, r⟩
theorem G.castore (C : Cx p s m meth c Z y bytes maxL ret) {a : Addr} {j : Int32} {x : Int32} {vs : List Int32} (F : Ints Z h a .char vs) (hj : 0 ≤ j.toInt) (hl : j.toInt < vs.length) (g : n0 ≤ a) (hd : decode bytes pc = .ok (.castore, 1)) (hn : pc + 1 = n) (k : ∀ h', Keep h h' [a] → (∃ w, Wr h h' a j.toNatClampNeg w) → Ints Z h' a .char (vs.set j.toInt.toNat (nar .char x)) → Go p l e R s m args below meth c n0 Q cells slots h' (mkF m n Ls (st))) : Go p l e R s m args below meth c n0 Q cells slots h (mkF m pc Ls (.int x :: .int j :: .ref a :: st)) := fun T locs X N q => by
  subst hn
  obtain ⟨cl, A, h1, -⟩ := F.put (h' := h) hj hl (x := (nar .char x)) (fits_nar_char x)
  obtain ⟨T', h', X', e', W, st'⟩ := stC X C.x C.z q A (j := j) h1 (g := mkF m pc Ls (.int x :: .int j :: .ref a :: st)) rfl rfl (hb C.by hd)
  obtain ⟨cl2, A2, -, h3⟩ := F.put (h' := h') hj hl (x := (nar .char x)) (fits_nar_char x)
  obtain ⟨t, o, s1, r⟩ := k h' (Keep.of_wr W) ⟨_, W⟩ (h3 W) T' _ X' (Fr.snoc X' N g) e'
  exact ⟨t, o, st' t s1, r⟩
theorem G.bastore (C : Cx p s m meth c Z y bytes maxL ret) {a : Addr} {j : Int32} {x : Int32} {vs : List Int32} (F : Ints Z h a .byte vs) (hj : 0 ≤ j.toInt) (hl : j.toInt < vs.length) (g : n0 ≤ a) (hd : decode bytes pc = .ok (.bastore, 1)) (hn : pc + 1 = n) (k : ∀ h', Keep h h' [a] → (∃ w, Wr h h' a j.toNatClampNeg w) → Ints Z h' a .byte (vs.set j.toInt.toNat (nar .byte x)) → Go p l e R s m args below meth c n0 Q cells slots h' (mkF m n Ls (st))) : Go p l e R s m args below meth c n0 Q cells slots h (mkF m pc Ls (.int x :: .int j :: .ref a :: st)) := fun T locs X N q => by
  subst hn
  obtain ⟨cl, A, h1, -⟩ := F.put (h' := h) hj hl (x := (nar .byte x)) (fits_nar_byte x)
  obtain ⟨T', h', X', e', W, st'⟩ := stB X C.x C.z q A (j := j) h1 (g := mkF m pc Ls (.int x :: .int j :: .ref a :: st)) rfl rfl (hb C.by hd)
  obtain ⟨cl2, A2, -, h3⟩ := F.put (h' := h') hj hl (x := (nar .byte x)) (fits_nar_byte x)
  obtain ⟨t, o, s1, r⟩ := k h' (Keep.of_wr W) ⟨_, W⟩ (h3 W) T' _ X' (Fr.snoc X' N g) e'
  exact ⟨t, o, st' t s1, r⟩
theorem G.bastoreZ (C : Cx p s m meth c Z y bytes maxL ret) {a : Addr} {j : Int32} {x : Int32} {vs : List Int32} (F : Ints Z h a .boolean vs) (hj : 0 ≤ j.toInt) (hl : j.toInt < vs.length) (g : n0 ≤ a) (hd : decode bytes pc = .ok (.bastore, 1)) (hn : pc + 1 = n) (k : ∀ h', Keep h h' [a] → (∃ w, Wr h h' a j.toNatClampNeg w) → Ints Z h' a .boolean (vs.set j.toInt.toNat (nar .boolean x)) → Go p l e R s m args below meth c n0 Q cells slots h' (mkF m n Ls (st))) : Go p l e R s m args below meth c n0 Q cells slots h (mkF m pc Ls (.int x :: .int j :: .ref a :: st)) := fun T locs X N q => by
  subst hn
  obtain ⟨cl, A, h1, -⟩ := F.put (h' := h) hj hl (x := (nar .boolean x)) (fits_nar_bool x)
  obtain ⟨T', h', X', e', W, st'⟩ := stZ X C.x C.z q A (j := j) h1 (g := mkF m pc Ls (.int x :: .int j :: .ref a :: st)) rfl rfl (hb C.by hd)
  obtain ⟨cl2, A2, -, h3⟩ := F.put (h' := h') hj hl (x := (nar .boolean x)) (fits_nar_bool x)
  obtain ⟨t, o, s1, r⟩ := k h' (Keep.of_wr W) ⟨_, W⟩ (h3 W) T' _ X' (Fr.snoc X' N g) e'
  exact ⟨t, o, st' t s1, r⟩
theorem len32 {z : Int32} {k : Nat} (hz : z.toInt = k) : z = Int32.ofNat k := by
  have h2 := (rng32 z).2
  exact Int32.toInt_inj.mp (by rw [Int32.toInt_ofNat_of_lt (by omega)]; exact hz)
theorem G.arraylengthI (C : Cx p s m meth c Z y bytes maxL ret) {a : Addr} {ty : FieldType} {vs : List Int32} {len : Int32} (F : Ints Z h a ty vs) (hlen : len.toInt = vs.length) (hd : decode bytes pc = .ok (.arraylength, 1)) (hn : pc + 1 = n) (k : Go p l e R s m args below meth c n0 Q cells slots h (mkF m n Ls (.int len :: st))) : Go p l e R s m args below meth c n0 Q cells slots h (mkF m pc Ls (.ref a :: st)) := by
  subst hn
  obtain ⟨k', z, ⟨cl, A, q1, S, N, H, G⟩, hz⟩ := F
  have e1 : cl.slots.size.toInt32 = len := (len_of S N).trans (Int32.toInt_inj.mp (hz.trans hlen.symm))
  exact Go.via (fun T locs X q t r => X.arraylength C.x (by rw [q]; exact A.1) (State.isArrayOf_alike C.z.alike A.2.1) (g := mkF m pc Ls (.ref a :: st)) rfl rfl (hb C.by hd) t (by rw [e1]; exact r)) k
theorem G.arraylengthL (C : Cx p s m meth c Z y bytes maxL ret) {a : Addr} {vs : List Int64} {len : Int32} (F : Longs Z h a vs) (hlen : len.toInt = vs.length) (hd : decode bytes pc = .ok (.arraylength, 1)) (hn : pc + 1 = n) (k : Go p l e R s m args below meth c n0 Q cells slots h (mkF m n Ls (.int len :: st))) : Go p l e R s m args below meth c n0 Q cells slots h (mkF m pc Ls (.ref a :: st)) := by
  subst hn
  obtain ⟨k', z, ⟨cl, A, q1, S, N, H, G⟩, hz⟩ := F
  have e1 : cl.slots.size.toInt32 = len := (len_of S N).trans (Int32.toInt_inj.mp (hz.trans hlen.symm))
  exact Go.via (fun T locs X q t r => X.arraylength C.x (by rw [q]; exact A.1) (State.isArrayOf_alike C.z.alike A.2.1) (g := mkF m pc Ls (.ref a :: st)) rfl rfl (hb C.by hd) t (by rw [e1]; exact r)) k
theorem G.newarray (C : Cx p s m meth c Z y bytes maxL ret) {aty : ArrayType} {ty : FieldType} {len : Int32} {cap c' s' : Nat} (w : (Jvm.Cond.arrayClass ty).before a0 Z = true) (hty : newarray.typeOf aty = ty) (hdv : defaultValue ty = .int 0) (hlen : 0 ≤ len.toInt) (hcap : len.toInt ≤ cap) (hbig : cap * 8 ≤ 536870912) (hd : decode bytes pc = .ok (.newarray aty, 2)) (hn : pc + 2 = n) (hc' : cells + 1 = c') (hs' : slots + cap = s') (hc : c' ≤ R.cells) (hs : s' ≤ R.slots)
    (k : ∀ h' b, b = h.size → Ext h h' → Ints Z h' b ty (List.replicate len.toInt.toNat 0) → Go p l e R s m args below meth c n0 Q c' s' h' (mkF m n Ls (.ref b :: st))) : Go p l e R s m args below meth c n0 Q cells slots h (mkF m pc Ls (.int len :: st)) := fun T locs X N q => by
  subst hn hc' hs' hty
  obtain ⟨T', h', cA, X', e', E, A, st'⟩ := newP X C.x C.z w q (g := mkF m pc Ls (.int len :: st)) rfl (hb C.by hd) rfl (not_neg hlen) (cap := cap) (by rw [nat_clamp]; omega) hbig hc hs
  have V := (Arv.new A (not_neg hlen))
  rw [hdv] at V
  have V2 := V.pad (pad_rep [] _ len.toInt.toNat)
  rw [List.nil_append, ← List.map_replicate (f := Value.int)] at V2
  obtain ⟨t, o, s1, r⟩ := k h' _ rfl E ⟨cA, len, V2, by rw [List.length_replicate]; omega⟩ T' _ X' N e'
  exact ⟨t, o, st' t s1, r⟩
theorem G.newarrayJ (C : Cx p s m meth c Z y bytes maxL ret) {aty : ArrayType} {ty : FieldType} {len : Int32} {cap c' s' : Nat} (w : (Jvm.Cond.arrayClass ty).before a0 Z = true) (hty : newarray.typeOf aty = ty) (hdv : defaultValue ty = .long 0) (hJ : ty = .long) (hlen : 0 ≤ len.toInt) (hcap : len.toInt ≤ cap) (hbig : cap * 8 ≤ 536870912) (hd : decode bytes pc = .ok (.newarray aty, 2)) (hn : pc + 2 = n) (hc' : cells + 1 = c') (hs' : slots + cap = s') (hc : c' ≤ R.cells) (hs : s' ≤ R.slots)
    (k : ∀ h' b, b = h.size → Ext h h' → Longs Z h' b (List.replicate len.toInt.toNat 0) → Go p l e R s m args below meth c n0 Q c' s' h' (mkF m n Ls (.ref b :: st))) : Go p l e R s m args below meth c n0 Q cells slots h (mkF m pc Ls (.int len :: st)) := fun T locs X N q => by
  subst hn hc' hs' hty
  obtain ⟨T', h', cA, X', e', E, A, st'⟩ := newP X C.x C.z w q (g := mkF m pc Ls (.int len :: st)) rfl (hb C.by hd) rfl (not_neg hlen) (cap := cap) (by rw [nat_clamp]; omega) hbig hc hs
  have V := (Arv.new A (not_neg hlen))
  rw [hdv] at V
  have V2 := V.pad (pad_rep [] _ len.toInt.toNat)
  rw [List.nil_append, ← List.map_replicate (f := Value.long), hJ] at V2
  obtain ⟨t, o, s1, r⟩ := k h' _ rfl E ⟨cA, len, V2, by rw [List.length_replicate]; omega⟩ T' _ X' N e'
  exact ⟨t, o, st' t s1, r⟩
theorem getD_at {α : Type} {vs : List α} {i : Nat} {d : α} (h : i < vs.length) : vs[i]? = some (vs.getD i d) := by
  rw [List.getD_eq_getElem?_getD, List.getElem?_eq_getElem h]; rfl
theorem kext {h' : Heap} (E : Ext h h') : Keep h h' [] := (Keep.refl h []).ext E
theorem Keep.tr {h' h'' : Heap} {ws ws' : List Addr} (K : Keep h h' ws) (K' : Keep h' h'' ws') (q : ∀ x ∈ ws', x ∈ ws ∨ h.size ≤ x) : Keep h h'' ws := K.trans K' q
end
end Jvm.Own
namespace Jvm.Pilot.@@N@@
open Jvm Jvm.ClassFile Sem Op Lib Jvm.Free Jvm.Stand Jvm.LawKit Jvm.RoadKit Jvm.Own Bundle Jvm.Pilot.@@N@@.Jvm.D
abbrev shu (x : Int64) (c : Int32) : Int64 := (x.toUInt64 >>> (c &&& 0x3f).toInt64.toUInt64).toInt64
abbrev byt (y : Int64) : Int32 := nar .byte (y.toInt32.toInt8.toInt32)
theorem byt_i (y : Int64) : ((byt y &&& (255 : Int32)).toInt64).toInt = y.toInt % 256 := by
  have q1 := c_i2b (y.toInt32.toInt8.toInt32)
  have q2 := c_i2b (y.toInt32)
  have q3 := c_l2i y
  have q4 := c_mask (byt y) 255 8 (by decide) (by decide)
  rw [c_i2l, q4]
  show (y.toInt32.toInt8.toInt32.toInt8.toInt32).toInt % _ = _
  omega
theorem rdA_0 (p : Int64) : (((shu p 8) <<< ((8 : Int32) &&& 0x3f).toInt64) ||| ((byt p &&& (255 : Int32)).toInt64)) = p := by
  apply Int64.toInt_inj.mp
  have q2 : (shu p 8).toInt = p.toInt % 18446744073709551616 / ((2 ^ 8 : Nat) : Int) := c_lushr p 8 8 (by decide) (by decide)
  have q3 := byt_i p
  have q4 := c_lshl (shu p 8) 8 8 (by decide)
  have q5 := rng64 p
  have q6 := rng64 ((shu p 8) <<< ((8 : Int32) &&& 0x3f).toInt64)
  have q7 := c_orL ((shu p 8) <<< ((8 : Int32) &&& 0x3f).toInt64) ((byt p &&& (255 : Int32)).toInt64) 8 (by decide) 256 rfl (by omega) (by omega) (by omega)
  have q8 := rng64 (((shu p 8) <<< ((8 : Int32) &&& 0x3f).toInt64) ||| ((byt p &&& (255 : Int32)).toInt64))
  have q9 := rng64 p
  omega
theorem rdA_1 (p : Int64) : (((shu p 16) <<< ((8 : Int32) &&& 0x3f).toInt64) ||| ((byt (shu p 8) &&& (255 : Int32)).toInt64)) = (shu p 8) := by
  apply Int64.toInt_inj.mp
  have q1 : (shu p 8).toInt = p.toInt % 18446744073709551616 / ((2 ^ 8 : Nat) : Int) := c_lushr p 8 8 (by decide) (by decide)
  have q2 : (shu p 16).toInt = p.toInt % 18446744073709551616 / ((2 ^ 16 : Nat) : Int) := c_lushr p 16 16 (by decide) (by decide)
  have q3 := byt_i (shu p 8)
  have q4 := c_lshl (shu p 16) 8 8 (by decide)
  have q5 := rng64 p
  have q6 := rng64 ((shu p 16) <<< ((8 : Int32) &&& 0x3f).toInt64)
  have q7 := c_orL ((shu p 16) <<< ((8 : Int32) &&& 0x3f).toInt64) ((byt (shu p 8) &&& (255 : Int32)).toInt64) 8 (by decide) 256 rfl (by omega) (by omega) (by omega)
  have q8 := rng64 (((shu p 16) <<< ((8 : Int32) &&& 0x3f).toInt64) ||| ((byt (shu p 8) &&& (255 : Int32)).toInt64))
  have q9 := rng64 p
  omega
theorem rdA_2 (p : Int64) : (((shu p 24) <<< ((8 : Int32) &&& 0x3f).toInt64) ||| ((byt (shu p 16) &&& (255 : Int32)).toInt64)) = (shu p 16) := by
  apply Int64.toInt_inj.mp
  have q1 : (shu p 16).toInt = p.toInt % 18446744073709551616 / ((2 ^ 16 : Nat) : Int) := c_lushr p 16 16 (by decide) (by decide)
  have q2 : (shu p 24).toInt = p.toInt % 18446744073709551616 / ((2 ^ 24 : Nat) : Int) := c_lushr p 24 24 (by decide) (by decide)
  have q3 := byt_i (shu p 16)
  have q4 := c_lshl (shu p 24) 8 8 (by decide)
  have q5 := rng64 p
  have q6 := rng64 ((shu p 24) <<< ((8 : Int32) &&& 0x3f).toInt64)
  have q7 := c_orL ((shu p 24) <<< ((8 : Int32) &&& 0x3f).toInt64) ((byt (shu p 16) &&& (255 : Int32)).toInt64) 8 (by decide) 256 rfl (by omega) (by omega) (by omega)
  have q8 := rng64 (((shu p 24) <<< ((8 : Int32) &&& 0x3f).toInt64) ||| ((byt (shu p 16) &&& (255 : Int32)).toInt64))
  have q9 := rng64 p
  omega
theorem rdA_3 (p : Int64) : (((shu p 32) <<< ((8 : Int32) &&& 0x3f).toInt64) ||| ((byt (shu p 24) &&& (255 : Int32)).toInt64)) = (shu p 24) := by
  apply Int64.toInt_inj.mp
  have q1 : (shu p 24).toInt = p.toInt % 18446744073709551616 / ((2 ^ 24 : Nat) : Int) := c_lushr p 24 24 (by decide) (by decide)
  have q2 : (shu p 32).toInt = p.toInt % 18446744073709551616 / ((2 ^ 32 : Nat) : Int) := c_lushr p 32 32 (by decide) (by decide)
  have q3 := byt_i (shu p 24)
  have q4 := c_lshl (shu p 32) 8 8 (by decide)
  have q5 := rng64 p
  have q6 := rng64 ((shu p 32) <<< ((8 : Int32) &&& 0x3f).toInt64)
  have q7 := c_orL ((shu p 32) <<< ((8 : Int32) &&& 0x3f).toInt64) ((byt (shu p 24) &&& (255 : Int32)).toInt64) 8 (by decide) 256 rfl (by omega) (by omega) (by omega)
  have q8 := rng64 (((shu p 32) <<< ((8 : Int32) &&& 0x3f).toInt64) ||| ((byt (shu p 24) &&& (255 : Int32)).toInt64))
  have q9 := rng64 p
  omega
theorem rdA_4 (p : Int64) : (((shu p 40) <<< ((8 : Int32) &&& 0x3f).toInt64) ||| ((byt (shu p 32) &&& (255 : Int32)).toInt64)) = (shu p 32) := by
  apply Int64.toInt_inj.mp
  have q1 : (shu p 32).toInt = p.toInt % 18446744073709551616 / ((2 ^ 32 : Nat) : Int) := c_lushr p 32 32 (by decide) (by decide)
  have q2 : (shu p 40).toInt = p.toInt % 18446744073709551616 / ((2 ^ 40 : Nat) : Int) := c_lushr p 40 40 (by decide) (by decide)
  have q3 := byt_i (shu p 32)
  have q4 := c_lshl (shu p 40) 8 8 (by decide)
  have q5 := rng64 p
  have q6 := rng64 ((shu p 40) <<< ((8 : Int32) &&& 0x3f).toInt64)
  have q7 := c_orL ((shu p 40) <<< ((8 : Int32) &&& 0x3f).toInt64) ((byt (shu p 32) &&& (255 : Int32)).toInt64) 8 (by decide) 256 rfl (by omega) (by omega) (by omega)
  have q8 := rng64 (((shu p 40) <<< ((8 : Int32) &&& 0x3f).toInt64) ||| ((byt (shu p 32) &&& (255 : Int32)).toInt64))
  have q9 := rng64 p
  omega
theorem rdA_5 (p : Int64) : (((shu p 48) <<< ((8 : Int32) &&& 0x3f).toInt64) ||| ((byt (shu p 40) &&& (255 : Int32)).toInt64)) = (shu p 40) := by
  apply Int64.toInt_inj.mp
  have q1 : (shu p 40).toInt = p.toInt % 18446744073709551616 / ((2 ^ 40 : Nat) : Int) := c_lushr p 40 40 (by decide) (by decide)
  have q2 : (shu p 48).toInt = p.toInt % 18446744073709551616 / ((2 ^ 48 : Nat) : Int) := c_lushr p 48 48 (by decide) (by decide)
  have q3 := byt_i (shu p 40)
  have q4 := c_lshl (shu p 48) 8 8 (by decide)
  have q5 := rng64 p
  have q6 := rng64 ((shu p 48) <<< ((8 : Int32) &&& 0x3f).toInt64)
  have q7 := c_orL ((shu p 48) <<< ((8 : Int32) &&& 0x3f).toInt64) ((byt (shu p 40) &&& (255 : Int32)).toInt64) 8 (by decide) 256 rfl (by omega) (by omega) (by omega)
  have q8 := rng64 (((shu p 48) <<< ((8 : Int32) &&& 0x3f).toInt64) ||| ((byt (shu p 40) &&& (255 : Int32)).toInt64))
  have q9 := rng64 p
  omega
theorem rdA_6 (p : Int64) : (((shu p 56) <<< ((8 : Int32) &&& 0x3f).toInt64) ||| ((byt (shu p 48) &&& (255 : Int32)).toInt64)) = (shu p 48) := by
  apply Int64.toInt_inj.mp
  have q1 : (shu p 48).toInt = p.toInt % 18446744073709551616 / ((2 ^ 48 : Nat) : Int) := c_lushr p 48 48 (by decide) (by decide)
  have q2 : (shu p 56).toInt = p.toInt % 18446744073709551616 / ((2 ^ 56 : Nat) : Int) := c_lushr p 56 56 (by decide) (by decide)
  have q3 := byt_i (shu p 48)
  have q4 := c_lshl (shu p 56) 8 8 (by decide)
  have q5 := rng64 p
  have q6 := rng64 ((shu p 56) <<< ((8 : Int32) &&& 0x3f).toInt64)
  have q7 := c_orL ((shu p 56) <<< ((8 : Int32) &&& 0x3f).toInt64) ((byt (shu p 48) &&& (255 : Int32)).toInt64) 8 (by decide) 256 rfl (by omega) (by omega) (by omega)
  have q8 := rng64 (((shu p 56) <<< ((8 : Int32) &&& 0x3f).toInt64) ||| ((byt (shu p 48) &&& (255 : Int32)).toInt64))
  have q9 := rng64 p
  omega
theorem rdA_7 (p : Int64) : (((0 : Int64) <<< ((8 : Int32) &&& 0x3f).toInt64) ||| ((byt (shu p 56) &&& (255 : Int32)).toInt64)) = (shu p 56) := by
  apply Int64.toInt_inj.mp
  have q1 : (shu p 56).toInt = p.toInt % 18446744073709551616 / ((2 ^ 56 : Nat) : Int) := c_lushr p 56 56 (by decide) (by decide)
  have q2 : (0 : Int64).toInt = 0 := rfl
  have q3 := byt_i (shu p 56)
  have q4 := c_lshl (0 : Int64) 8 8 (by decide)
  have q5 := rng64 p
  have q6 := rng64 ((0 : Int64) <<< ((8 : Int32) &&& 0x3f).toInt64)
  have q7 := c_orL ((0 : Int64) <<< ((8 : Int32) &&& 0x3f).toInt64) ((byt (shu p 56) &&& (255 : Int32)).toInt64) 8 (by decide) 256 rfl (by omega) (by omega) (by omega)
  have q8 := rng64 (((0 : Int64) <<< ((8 : Int32) &&& 0x3f).toInt64) ||| ((byt (shu p 56) &&& (255 : Int32)).toInt64))
  have q9 := rng64 p
  omega
theorem rdB_0 (p : Int64) : (((shu (p &&& (4294967295 : Int64)) 8) <<< ((8 : Int32) &&& 0x3f).toInt64) ||| ((byt p &&& (255 : Int32)).toInt64)) = (p &&& (4294967295 : Int64)) := by
  apply Int64.toInt_inj.mp
  have w0 : (p &&& (4294967295 : Int64)).toInt = p.toInt % ((2 ^ 32 : Nat) : Int) := c_maskL p 4294967295 32 (by decide) (by decide)
  have q2 : (shu (p &&& (4294967295 : Int64)) 8).toInt = (p &&& (4294967295 : Int64)).toInt % 18446744073709551616 / ((2 ^ 8 : Nat) : Int) := c_lushr (p &&& (4294967295 : Int64)) 8 8 (by decide) (by decide)
  have q3 := byt_i p
  have q4 := c_lshl (shu (p &&& (4294967295 : Int64)) 8) 8 8 (by decide)
  have q5 := rng64 p
  have q6 := rng64 ((shu (p &&& (4294967295 : Int64)) 8) <<< ((8 : Int32) &&& 0x3f).toInt64)
  have q7 := c_orL ((shu (p &&& (4294967295 : Int64)) 8) <<< ((8 : Int32) &&& 0x3f).toInt64) ((byt p &&& (255 : Int32)).toInt64) 8 (by decide) 256 rfl (by omega) (by omega) (by omega)
  have q8 := rng64 (((shu (p &&& (4294967295 : Int64)) 8) <<< ((8 : Int32) &&& 0x3f).toInt64) ||| ((byt p &&& (255 : Int32)).toInt64))
  have q9 := rng64 (p &&& (4294967295 : Int64))
  omega
theorem rdB_1 (p : Int64) : (((shu (p &&& (4294967295 : Int64)) 16) <<< ((8 : Int32) &&& 0x3f).toInt64) ||| ((byt (shu p 8) &&& (255 : Int32)).toInt64)) = (shu (p &&& (4294967295 : Int64)) 8) := by
  apply Int64.toInt_inj.mp
  have w0 : (p &&& (4294967295 : Int64)).toInt = p.toInt % ((2 ^ 32 : Nat) : Int) := c_maskL p 4294967295 32 (by decide) (by decide)
  have s8 : (shu p 8).toInt = p.toInt % 18446744073709551616 / ((2 ^ 8 : Nat) : Int) := c_lushr p 8 8 (by decide) (by decide)
  have q1 : (shu (p &&& (4294967295 : Int64)) 8).toInt = (p &&& (4294967295 : Int64)).toInt % 18446744073709551616 / ((2 ^ 8 : Nat) : Int) := c_lushr (p &&& (4294967295 : Int64)) 8 8 (by decide) (by decide)
  have q2 : (shu (p &&& (4294967295 : Int64)) 16).toInt = (p &&& (4294967295 : Int64)).toInt % 18446744073709551616 / ((2 ^ 16 : Nat) : Int) := c_lushr (p &&& (4294967295 : Int64)) 16 16 (by decide) (by decide)
  have q3 := byt_i (shu p 8)
  have q4 := c_lshl (shu (p &&& (4294967295 : Int64)) 16) 8 8 (by decide)
  have q5 := rng64 p
  have q6 := rng64 ((shu (p &&& (4294967295 : Int64)) 16) <<< ((8 : Int32) &&& 0x3f).toInt64)
  have q7 := c_orL ((shu (p &&& (4294967295 : Int64)) 16) <<< ((8 : Int32) &&& 0x3f).toInt64) ((byt (shu p 8) &&& (255 : Int32)).toInt64) 8 (by decide) 256 rfl (by omega) (by omega) (by omega)
  have q8 := rng64 (((shu (p &&& (4294967295 : Int64)) 16) <<< ((8 : Int32) &&& 0x3f).toInt64) ||| ((byt (shu p 8) &&& (255 : Int32)).toInt64))
  have q9 := rng64 (p &&& (4294967295 : Int64))
  omega
theorem rdB_2 (p : Int64) : (((shu (p &&& (4294967295 : Int64)) 24) <<< ((8 : Int32) &&& 0x3f).toInt64) ||| ((byt (shu p 16) &&& (255 : Int32)).toInt64)) = (shu (p &&& (4294967295 : Int64)) 16) := by
  apply Int64.toInt_inj.mp
  have w0 : (p &&& (4294967295 : Int64)).toInt = p.toInt % ((2 ^ 32 : Nat) : Int) := c_maskL p 4294967295 32 (by decide) (by decide)
  have s16 : (shu p 16).toInt = p.toInt % 18446744073709551616 / ((2 ^ 16 : Nat) : Int) := c_lushr p 16 16 (by decide) (by decide)
  have q1 : (shu (p &&& (4294967295 : Int64)) 16).toInt = (p &&& (4294967295 : Int64)).toInt % 18446744073709551616 / ((2 ^ 16 : Nat) : Int) := c_lushr (p &&& (4294967295 : Int64)) 16 16 (by decide) (by decide)
  have q2 : (shu (p &&& (4294967295 : Int64)) 24).toInt = (p &&& (4294967295 : Int64)).toInt % 18446744073709551616 / ((2 ^ 24 : Nat) : Int) := c_lushr (p &&& (4294967295 : Int64)) 24 24 (by decide) (by decide)
  have q3 := byt_i (shu p 16)
  have q4 := c_lshl (shu (p &&& (4294967295 : Int64)) 24) 8 8 (by decide)
  have q5 := rng64 p
  have q6 := rng64 ((shu (p &&& (4294967295 : Int64)) 24) <<< ((8 : Int32) &&& 0x3f).toInt64)
  have q7 := c_orL ((shu (p &&& (4294967295 : Int64)) 24) <<< ((8 : Int32) &&& 0x3f).toInt64) ((byt (shu p 16) &&& (255 : Int32)).toInt64) 8 (by decide) 256 rfl (by omega) (by omega) (by omega)
  have q8 := rng64 (((shu (p &&& (4294967295 : Int64)) 24) <<< ((8 : Int32) &&& 0x3f).toInt64) ||| ((byt (shu p 16) &&& (255 : Int32)).toInt64))
  have q9 := rng64 (p &&& (4294967295 : Int64))
  omega
theorem rdB_3 (p : Int64) : (((0 : Int64) <<< ((8 : Int32) &&& 0x3f).toInt64) ||| ((byt (shu p 24) &&& (255 : Int32)).toInt64)) = (shu (p &&& (4294967295 : Int64)) 24) := by
  apply Int64.toInt_inj.mp
  have w0 : (p &&& (4294967295 : Int64)).toInt = p.toInt % ((2 ^ 32 : Nat) : Int) := c_maskL p 4294967295 32 (by decide) (by decide)
  have s24 : (shu p 24).toInt = p.toInt % 18446744073709551616 / ((2 ^ 24 : Nat) : Int) := c_lushr p 24 24 (by decide) (by decide)
  have q1 : (shu (p &&& (4294967295 : Int64)) 24).toInt = (p &&& (4294967295 : Int64)).toInt % 18446744073709551616 / ((2 ^ 24 : Nat) : Int) := c_lushr (p &&& (4294967295 : Int64)) 24 24 (by decide) (by decide)
  have q2 : (0 : Int64).toInt = 0 := rfl
  have q3 := byt_i (shu p 24)
  have q4 := c_lshl (0 : Int64) 8 8 (by decide)
  have q5 := rng64 p
  have q6 := rng64 ((0 : Int64) <<< ((8 : Int32) &&& 0x3f).toInt64)
  have q7 := c_orL ((0 : Int64) <<< ((8 : Int32) &&& 0x3f).toInt64) ((byt (shu p 24) &&& (255 : Int32)).toInt64) 8 (by decide) 256 rfl (by omega) (by omega) (by omega)
  have q8 := rng64 (((0 : Int64) <<< ((8 : Int32) &&& 0x3f).toInt64) ||| ((byt (shu p 24) &&& (255 : Int32)).toInt64))
  have q9 := rng64 (p &&& (4294967295 : Int64))
  omega
theorem rdC_0 (p : Int64) : (((shu (shu p 32) 8) <<< ((8 : Int32) &&& 0x3f).toInt64) ||| ((byt (shu p 32) &&& (255 : Int32)).toInt64)) = (shu p 32) := by
  apply Int64.toInt_inj.mp
  have s32 : (shu p 32).toInt = p.toInt % 18446744073709551616 / ((2 ^ 32 : Nat) : Int) := c_lushr p 32 32 (by decide) (by decide)
  have q2 : (shu (shu p 32) 8).toInt = (shu p 32).toInt % 18446744073709551616 / ((2 ^ 8 : Nat) : Int) := c_lushr (shu p 32) 8 8 (by decide) (by decide)
  have q3 := byt_i (shu p 32)
  have q4 := c_lshl (shu (shu p 32) 8) 8 8 (by decide)
  have q5 := rng64 p
  have q6 := rng64 ((shu (shu p 32) 8) <<< ((8 : Int32) &&& 0x3f).toInt64)
  have q7 := c_orL ((shu (shu p 32) 8) <<< ((8 : Int32) &&& 0x3f).toInt64) ((byt (shu p 32) &&& (255 : Int32)).toInt64) 8 (by decide) 256 rfl (by omega) (by omega) (by omega)
  have q8 := rng64 (((shu (shu p 32) 8) <<< ((8 : Int32) &&& 0x3f).toInt64) ||| ((byt (shu p 32) &&& (255 : Int32)).toInt64))
  have q9 := rng64 (shu p 32)
  omega
theorem rdC_1 (p : Int64) : (((shu (shu p 32) 16) <<< ((8 : Int32) &&& 0x3f).toInt64) ||| ((byt (shu p 40) &&& (255 : Int32)).toInt64)) = (shu (shu p 32) 8) := by
  apply Int64.toInt_inj.mp
  have s32 : (shu p 32).toInt = p.toInt % 18446744073709551616 / ((2 ^ 32 : Nat) : Int) := c_lushr p 32 32 (by decide) (by decide)
  have s40 : (shu p 40).toInt = p.toInt % 18446744073709551616 / ((2 ^ 40 : Nat) : Int) := c_lushr p 40 40 (by decide) (by decide)
  have q1 : (shu (shu p 32) 8).toInt = (shu p 32).toInt % 18446744073709551616 / ((2 ^ 8 : Nat) : Int) := c_lushr (shu p 32) 8 8 (by decide) (by decide)
  have q2 : (shu (shu p 32) 16).toInt = (shu p 32).toInt % 18446744073709551616 / ((2 ^ 16 : Nat) : Int) := c_lushr (shu p 32) 16 16 (by decide) (by decide)
  have q3 := byt_i (shu p 40)
  have q4 := c_lshl (shu (shu p 32) 16) 8 8 (by decide)
  have q5 := rng64 p
  have q6 := rng64 ((shu (shu p 32) 16) <<< ((8 : Int32) &&& 0x3f).toInt64)
  have q7 := c_orL ((shu (shu p 32) 16) <<< ((8 : Int32) &&& 0x3f).toInt64) ((byt (shu p 40) &&& (255 : Int32)).toInt64) 8 (by decide) 256 rfl (by omega) (by omega) (by omega)
  have q8 := rng64 (((shu (shu p 32) 16) <<< ((8 : Int32) &&& 0x3f).toInt64) ||| ((byt (shu p 40) &&& (255 : Int32)).toInt64))
  have q9 := rng64 (shu p 32)
  omega
theorem rdC_2 (p : Int64) : (((shu (shu p 32) 24) <<< ((8 : Int32) &&& 0x3f).toInt64) ||| ((byt (shu p 48) &&& (255 : Int32)).toInt64)) = (shu (shu p 32) 16) := by
  apply Int64.toInt_inj.mp
  have s32 : (shu p 32).toInt = p.toInt % 18446744073709551616 / ((2 ^ 32 : Nat) : Int) := c_lushr p 32 32 (by decide) (by decide)
  have s48 : (shu p 48).toInt = p.toInt % 18446744073709551616 / ((2 ^ 48 : Nat) : Int) := c_lushr p 48 48 (by decide) (by decide)
  have q1 : (shu (shu p 32) 16).toInt = (shu p 32).toInt % 18446744073709551616 / ((2 ^ 16 : Nat) : Int) := c_lushr (shu p 32) 16 16 (by decide) (by decide)
  have q2 : (shu (shu p 32) 24).toInt = (shu p 32).toInt % 18446744073709551616 / ((2 ^ 24 : Nat) : Int) := c_lushr (shu p 32) 24 24 (by decide) (by decide)
  have q3 := byt_i (shu p 48)
  have q4 := c_lshl (shu (shu p 32) 24) 8 8 (by decide)
  have q5 := rng64 p
  have q6 := rng64 ((shu (shu p 32) 24) <<< ((8 : Int32) &&& 0x3f).toInt64)
  have q7 := c_orL ((shu (shu p 32) 24) <<< ((8 : Int32) &&& 0x3f).toInt64) ((byt (shu p 48) &&& (255 : Int32)).toInt64) 8 (by decide) 256 rfl (by omega) (by omega) (by omega)
  have q8 := rng64 (((shu (shu p 32) 24) <<< ((8 : Int32) &&& 0x3f).toInt64) ||| ((byt (shu p 48) &&& (255 : Int32)).toInt64))
  have q9 := rng64 (shu p 32)
  omega
theorem rdC_3 (p : Int64) : (((0 : Int64) <<< ((8 : Int32) &&& 0x3f).toInt64) ||| ((byt (shu p 56) &&& (255 : Int32)).toInt64)) = (shu (shu p 32) 24) := by
  apply Int64.toInt_inj.mp
  have s32 : (shu p 32).toInt = p.toInt % 18446744073709551616 / ((2 ^ 32 : Nat) : Int) := c_lushr p 32 32 (by decide) (by decide)
  have s56 : (shu p 56).toInt = p.toInt % 18446744073709551616 / ((2 ^ 56 : Nat) : Int) := c_lushr p 56 56 (by decide) (by decide)
  have q1 : (shu (shu p 32) 24).toInt = (shu p 32).toInt % 18446744073709551616 / ((2 ^ 24 : Nat) : Int) := c_lushr (shu p 32) 24 24 (by decide) (by decide)
  have q2 : (0 : Int64).toInt = 0 := rfl
  have q3 := byt_i (shu p 56)
  have q4 := c_lshl (0 : Int64) 8 8 (by decide)
  have q5 := rng64 p
  have q6 := rng64 ((0 : Int64) <<< ((8 : Int32) &&& 0x3f).toInt64)
  have q7 := c_orL ((0 : Int64) <<< ((8 : Int32) &&& 0x3f).toInt64) ((byt (shu p 56) &&& (255 : Int32)).toInt64) 8 (by decide) 256 rfl (by omega) (by omega) (by omega)
  have q8 := rng64 (((0 : Int64) <<< ((8 : Int32) &&& 0x3f).toInt64) ||| ((byt (shu p 56) &&& (255 : Int32)).toInt64))
  have q9 := rng64 (shu p 32)
  omega
theorem put_spec {bs : List Int32} {n : Nat} (h : n + 8 ≤ bs.length) (b0 b1 b2 b3 b4 b5 b6 b7 : Int32) {bs' : List Int32} (e : ((((((((bs.set n b0).set (n + 1) b1).set (n + 2) b2).set (n + 3) b3).set (n + 4) b4).set (n + 5) b5).set (n + 6) b6).set (n + 7) b7) = bs') :
    bs'.length = bs.length ∧ bs'[n]? = some b0 ∧ bs'[n + 1]? = some b1 ∧ bs'[n + 2]? = some b2 ∧ bs'[n + 3]? = some b3 ∧ bs'[n + 4]? = some b4 ∧ bs'[n + 5]? = some b5 ∧ bs'[n + 6]? = some b6 ∧ bs'[n + 7]? = some b7 ∧ ∀ i, i < n ∨ n + 8 ≤ i → bs'[i]? = bs[i]? := by
  subst e
  refine ⟨by simp, ?_, ?_, ?_, ?_, ?_, ?_, ?_, ?_, ?_⟩
  · simp [List.getElem?_set]; omega
  · simp [List.getElem?_set]; omega
  · simp [List.getElem?_set]; omega
  · simp [List.getElem?_set]; omega
  · simp [List.getElem?_set]; omega
  · simp [List.getElem?_set]; omega
  · simp [List.getElem?_set]; omega
  · simp [List.getElem?_set]; omega
  · intro i hi
    rw [List.getElem?_set_ne (by omega), List.getElem?_set_ne (by omega), List.getElem?_set_ne (by omega), List.getElem?_set_ne (by omega), List.getElem?_set_ne (by omega), List.getElem?_set_ne (by omega), List.getElem?_set_ne (by omega), List.getElem?_set_ne (by omega)]
theorem ixa {o k : Int32} {K : Int} (hk : k.toInt = K) (h0 : 0 ≤ o.toInt) (hk0 : 0 ≤ K) (h1 : o.toInt + K < 2147483648) : (o + k).toInt = o.toInt + K := by
  have q1 := c_iadd o k
  have q2 := rng32 (o + k)
  omega
theorem ixb {o a b : Int32} {A B k : Int} (ha : a.toInt = A) (hb : b.toInt = B) (hA : 0 ≤ A) (hB : 0 ≤ B) (hk : A + B = k) (h0 : 0 ≤ o.toInt) (h1 : o.toInt + k < 2147483648) : (o + a + b).toInt = o.toInt + k := by
  have q1 := ixa ha h0 hA (by omega)
  rw [ixa hb (by omega) hB (by omega), q1]
  omega
theorem at_of {bs : List Int32} {o ix e : Int32} {k : Nat} (hx : ix.toInt = o.toInt + k) (h0 : 0 ≤ o.toInt) (p : bs[o.toInt.toNat + k]? = some e) : bs[ix.toInt.toNat]? = some e := by
  rw [show ix.toInt.toNat = o.toInt.toNat + k by omega]; exact p
theorem nn_of {o ix : Int32} {k : Nat} (hx : ix.toInt = o.toInt + k) (h0 : 0 ≤ o.toInt) : 0 ≤ ix.toInt := by omega
theorem bnd {L m k : Int} {n : Nat} (h : L + m ≤ n) (hn : (n : Int) < 2147483648) (hk : k ≤ m) : L + k < 2147483648 := by omega
theorem d1_0 : decode method_3_code 0 = .ok (.aload_n 0, 1) := by decide +kernel
theorem d1_1 : decode method_3_code 1 = .ok (.iload_n 1, 1) := by decide +kernel
theorem d1_2 : decode method_3_code 2 = .ok (.lload_n 2, 1) := by decide +kernel
theorem d1_3 : decode method_3_code 3 = .ok (.l2i, 1) := by decide +kernel
theorem d1_4 : decode method_3_code 4 = .ok (.i2b, 1) := by decide +kernel
theorem d1_5 : decode method_3_code 5 = .ok (.bastore, 1) := by decide +kernel
theorem d1_6 : decode method_3_code 6 = .ok (.aload_n 0, 1) := by decide +kernel
theorem d1_7 : decode method_3_code 7 = .ok (.iload_n 1, 1) := by decide +kernel
theorem d1_8 : decode method_3_code 8 = .ok (.iconst 1, 1) := by decide +kernel
theorem d1_9 : decode method_3_code 9 = .ok (.iadd, 1) := by decide +kernel
theorem d1_10 : decode method_3_code 10 = .ok (.lload_n 2, 1) := by decide +kernel
theorem d1_11 : decode method_3_code 11 = .ok (.bipush 8, 2) := by decide +kernel
theorem d1_13 : decode method_3_code 13 = .ok (.lushr, 1) := by decide +kernel
theorem d1_14 : decode method_3_code 14 = .ok (.l2i, 1) := by decide +kernel
theorem d1_15 : decode method_3_code 15 = .ok (.i2b, 1) := by decide +kernel
theorem d1_16 : decode method_3_code 16 = .ok (.bastore, 1) := by decide +kernel
theorem d1_17 : decode method_3_code 17 = .ok (.aload_n 0, 1) := by decide +kernel
theorem d1_18 : decode method_3_code 18 = .ok (.iload_n 1, 1) := by decide +kernel
theorem d1_19 : decode method_3_code 19 = .ok (.iconst 2, 1) := by decide +kernel
theorem d1_20 : decode method_3_code 20 = .ok (.iadd, 1) := by decide +kernel
theorem d1_21 : decode method_3_code 21 = .ok (.lload_n 2, 1) := by decide +kernel
theorem d1_22 : decode method_3_code 22 = .ok (.bipush 16, 2) := by decide +kernel
theorem d1_24 : decode method_3_code 24 = .ok (.lushr, 1) := by decide +kernel
theorem d1_25 : decode method_3_code 25 = .ok (.l2i, 1) := by decide +kernel
theorem d1_26 : decode method_3_code 26 = .ok (.i2b, 1) := by decide +kernel
theorem d1_27 : decode method_3_code 27 = .ok (.bastore, 1) := by decide +kernel
theorem d1_28 : decode method_3_code 28 = .ok (.aload_n 0, 1) := by decide +kernel
theorem d1_29 : decode method_3_code 29 = .ok (.iload_n 1, 1) := by decide +kernel
theorem d1_30 : decode method_3_code 30 = .ok (.iconst 3, 1) := by decide +kernel
theorem d1_31 : decode method_3_code 31 = .ok (.iadd, 1) := by decide +kernel
theorem d1_32 : decode method_3_code 32 = .ok (.lload_n 2, 1) := by decide +kernel
theorem d1_33 : decode method_3_code 33 = .ok (.bipush 24, 2) := by decide +kernel
theorem d1_35 : decode method_3_code 35 = .ok (.lushr, 1) := by decide +kernel
theorem d1_36 : decode method_3_code 36 = .ok (.l2i, 1) := by decide +kernel
theorem d1_37 : decode method_3_code 37 = .ok (.i2b, 1) := by decide +kernel
theorem d1_38 : decode method_3_code 38 = .ok (.bastore, 1) := by decide +kernel
theorem d1_39 : decode method_3_code 39 = .ok (.aload_n 0, 1) := by decide +kernel
theorem d1_40 : decode method_3_code 40 = .ok (.iload_n 1, 1) := by decide +kernel
theorem d1_41 : decode method_3_code 41 = .ok (.iconst 4, 1) := by decide +kernel
theorem d1_42 : decode method_3_code 42 = .ok (.iadd, 1) := by decide +kernel
theorem d1_43 : decode method_3_code 43 = .ok (.lload_n 2, 1) := by decide +kernel
theorem d1_44 : decode method_3_code 44 = .ok (.bipush 32, 2) := by decide +kernel
theorem d1_46 : decode method_3_code 46 = .ok (.lushr, 1) := by decide +kernel
theorem d1_47 : decode method_3_code 47 = .ok (.l2i, 1) := by decide +kernel
theorem d1_48 : decode method_3_code 48 = .ok (.i2b, 1) := by decide +kernel
theorem d1_49 : decode method_3_code 49 = .ok (.bastore, 1) := by decide +kernel
theorem d1_50 : decode method_3_code 50 = .ok (.aload_n 0, 1) := by decide +kernel
theorem d1_51 : decode method_3_code 51 = .ok (.iload_n 1, 1) := by decide +kernel
theorem d1_52 : decode method_3_code 52 = .ok (.iconst 5, 1) := by decide +kernel
theorem d1_53 : decode method_3_code 53 = .ok (.iadd, 1) := by decide +kernel
theorem d1_54 : decode method_3_code 54 = .ok (.lload_n 2, 1) := by decide +kernel
theorem d1_55 : decode method_3_code 55 = .ok (.bipush 40, 2) := by decide +kernel
theorem d1_57 : decode method_3_code 57 = .ok (.lushr, 1) := by decide +kernel
theorem d1_58 : decode method_3_code 58 = .ok (.l2i, 1) := by decide +kernel
theorem d1_59 : decode method_3_code 59 = .ok (.i2b, 1) := by decide +kernel
theorem d1_60 : decode method_3_code 60 = .ok (.bastore, 1) := by decide +kernel
theorem d1_61 : decode method_3_code 61 = .ok (.aload_n 0, 1) := by decide +kernel
theorem d1_62 : decode method_3_code 62 = .ok (.iload_n 1, 1) := by decide +kernel
theorem d1_63 : decode method_3_code 63 = .ok (.bipush 6, 2) := by decide +kernel
theorem d1_65 : decode method_3_code 65 = .ok (.iadd, 1) := by decide +kernel
theorem d1_66 : decode method_3_code 66 = .ok (.lload_n 2, 1) := by decide +kernel
theorem d1_67 : decode method_3_code 67 = .ok (.bipush 48, 2) := by decide +kernel
theorem d1_69 : decode method_3_code 69 = .ok (.lushr, 1) := by decide +kernel
theorem d1_70 : decode method_3_code 70 = .ok (.l2i, 1) := by decide +kernel
theorem d1_71 : decode method_3_code 71 = .ok (.i2b, 1) := by decide +kernel
theorem d1_72 : decode method_3_code 72 = .ok (.bastore, 1) := by decide +kernel
theorem d1_73 : decode method_3_code 73 = .ok (.aload_n 0, 1) := by decide +kernel
theorem d1_74 : decode method_3_code 74 = .ok (.iload_n 1, 1) := by decide +kernel
theorem d1_75 : decode method_3_code 75 = .ok (.bipush 7, 2) := by decide +kernel
theorem d1_77 : decode method_3_code 77 = .ok (.iadd, 1) := by decide +kernel
theorem d1_78 : decode method_3_code 78 = .ok (.lload_n 2, 1) := by decide +kernel
theorem d1_79 : decode method_3_code 79 = .ok (.bipush 56, 2) := by decide +kernel
theorem d1_81 : decode method_3_code 81 = .ok (.lushr, 1) := by decide +kernel
theorem d1_82 : decode method_3_code 82 = .ok (.l2i, 1) := by decide +kernel
theorem d1_83 : decode method_3_code 83 = .ok (.i2b, 1) := by decide +kernel
theorem d1_84 : decode method_3_code 84 = .ok (.bastore, 1) := by decide +kernel
theorem d1_85 : decode method_3_code 85 = .ok (.return_, 1) := by decide +kernel
theorem pn0 : plainName "com/example/parley/parley/KeySketchReadPinLaw" = true := by first | (simp [plainName, overriddenIn]; done) | decide +kernel
theorem ef1 (m : MethodId) (a : Addr) (o : Int32) (x : Int64) : entryFrame m #[(.ref a), (.int o), (.long x)] 4 = mkF m 0 #[.val (.ref a), .val (.int o), .val (.long x), .second] [] := by first | (simp [entryFrame, mkF, argsToLocals, Value.category]; done) | rfl
abbrev Q_put (Z : State) (h0 : Heap) (a : Addr) (o : Int32) (x : Int64) (bs : List Int32) : Option Value → Heap → Prop := fun v h' => v = none ∧ Keep h0 h' [a] ∧ ∃ bs', Ints Z h' a .byte bs' ∧ bs'.length = bs.length ∧ bs'[o.toInt.toNat]? = some (byt x) ∧ bs'[o.toInt.toNat + 1]? = some (byt (shu x 8)) ∧ bs'[o.toInt.toNat + 2]? = some (byt (shu x 16)) ∧ bs'[o.toInt.toNat + 3]? = some (byt (shu x 24)) ∧ bs'[o.toInt.toNat + 4]? = some (byt (shu x 32)) ∧ bs'[o.toInt.toNat + 5]? = some (byt (shu x 40)) ∧ bs'[o.toInt.toNat + 6]? = some (byt (shu x 48)) ∧ bs'[o.toInt.toNat + 7]? = some (byt (shu x 56)) ∧ ∀ i, i < o.toInt.toNat ∨ o.toInt.toNat + 8 ≤ i → bs'[i]? = bs[i]?
abbrev R_put : Room := { frames := 0, cells := 0, slots := 0, locals := 0 }
set_option maxRecDepth 65536 in
set_option maxHeartbeats 40000000 in
theorem m_put (l : Launch) (Z : State) (a0 : Array Value) (hw : ∀ d ∈ tables_1, d.before a0 Z = true) (a : Addr) (o : Int32) (x : Int64) (bs : List Int32) (h0 : Heap) (n0 : Nat) (Z0 : n0 ≤ h0.size) (O_a : Ints Z h0 a .byte bs) (g_a : n0 ≤ a) (q_0 : 0 ≤ o.toInt) (q_1 : o.toInt + 8 ≤ bs.length) : Met l Z (⟨"com/example/parley/parley/KeySketchReadPinLaw", "put", "([BIJ)V"⟩ : MethodName) method_3_code 4 none R_put #[(.ref a), (.int o), (.long x)] h0 n0 (Q_put Z h0 a o x bs) := by
  refine Met.of (plainFor_of_name pn0) (fun m => ef1 m a o x) ?_
  intro p e s m args below meth c C
  have ql := O_a.len
  have e1 : (o + (1 : Int32)).toInt = o.toInt + 1 := ixa (by decide) q_0 (by decide) (by omega)
  have n1 : (o + (1 : Int32)).toInt.toNat = o.toInt.toNat + 1 := by omega
  have e2 : (o + (2 : Int32)).toInt = o.toInt + 2 := ixa (by decide) q_0 (by decide) (by omega)
  have n2 : (o + (2 : Int32)).toInt.toNat = o.toInt.toNat + 2 := by omega
  have e3 : (o + (3 : Int32)).toInt = o.toInt + 3 := ixa (by decide) q_0 (by decide) (by omega)
  have n3 : (o + (3 : Int32)).toInt.toNat = o.toInt.toNat + 3 := by omega
  have e4 : (o + (4 : Int32)).toInt = o.toInt + 4 := ixa (by decide) q_0 (by decide) (by omega)
  have n4 : (o + (4 : Int32)).toInt.toNat = o.toInt.toNat + 4 := by omega
  have e5 : (o + (5 : Int32)).toInt = o.toInt + 5 := ixa (by decide) q_0 (by decide) (by omega)
  have n5 : (o + (5 : Int32)).toInt.toNat = o.toInt.toNat + 5 := by omega
  have e6 : (o + (6 : Int32)).toInt = o.toInt + 6 := ixa (by decide) q_0 (by decide) (by omega)
  have n6 : (o + (6 : Int32)).toInt.toNat = o.toInt.toNat + 6 := by omega
  have e7 : (o + (7 : Int32)).toInt = o.toInt + 7 := ixa (by decide) q_0 (by decide) (by omega)
  have n7 : (o + (7 : Int32)).toInt.toNat = o.toInt.toNat + 7 := by omega
  refine G.aloadN C d1_0 rfl rfl (n := 1) rfl ?_
  refine G.iloadN C d1_1 rfl (n := 2) rfl ?_
  refine G.lloadN C d1_2 rfl (n := 3) rfl ?_
  refine G.l2i C d1_3 (n := 4) rfl ?_
  refine G.i2b C d1_4 (n := 5) rfl ?_
  refine G.bastore C O_a (by omega) (by first | omega | (simp only [List.length_set]; omega)) g_a d1_5 (n := 6) rfl ?_
  intro h1 K2 W3 O4
  have O5 : Ints Z h1 a .byte (bs.set (o.toInt.toNat) (byt x)) := by have A := O4; exact A
  have Z6 : n0 ≤ h1.size := Nat.le_trans Z0 K2.1
  have K7 : Keep h0 h1 [a] := Keep.tr (Keep.refl h0 _) K2 (allS (Or.inl (List.mem_of_getElem? (i := 0) rfl)) all0)
  refine G.aloadN C d1_6 rfl rfl (n := 7) rfl ?_
  refine G.iloadN C d1_7 rfl (n := 8) rfl ?_
  refine G.iconst C (v := (1 : Int32)) d1_8 (by decide) (n := 9) rfl ?_
  refine G.iadd C d1_9 (n := 10) rfl ?_
  refine G.lloadN C d1_10 rfl (n := 11) rfl ?_
  refine G.bipush C (v := (8 : Int32)) d1_11 (by decide) (n := 13) rfl ?_
  refine G.lushr C d1_13 (n := 14) rfl ?_
  refine G.l2i C d1_14 (n := 15) rfl ?_
  refine G.i2b C d1_15 (n := 16) rfl ?_
  refine G.bastore C O5 (by omega) (by first | omega | (simp only [List.length_set]; omega)) g_a d1_16 (n := 17) rfl ?_
  intro h8 K9 W10 O11
  have O12 : Ints Z h8 a .byte ((bs.set (o.toInt.toNat) (byt x)).set (o.toInt.toNat + 1) (byt (shu x 8))) := by have A := O11; rw [n1] at A; exact A
  have Z13 : n0 ≤ h8.size := Nat.le_trans Z6 K9.1
  have K14 : Keep h0 h8 [a] := Keep.tr K7 K9 (allS (Or.inl (List.mem_of_getElem? (i := 0) rfl)) all0)
  refine G.aloadN C d1_17 rfl rfl (n := 18) rfl ?_
  refine G.iloadN C d1_18 rfl (n := 19) rfl ?_
  refine G.iconst C (v := (2 : Int32)) d1_19 (by decide) (n := 20) rfl ?_
  refine G.iadd C d1_20 (n := 21) rfl ?_
  refine G.lloadN C d1_21 rfl (n := 22) rfl ?_
  refine G.bipush C (v := (16 : Int32)) d1_22 (by decide) (n := 24) rfl ?_
  refine G.lushr C d1_24 (n := 25) rfl ?_
  refine G.l2i C d1_25 (n := 26) rfl ?_
  refine G.i2b C d1_26 (n := 27) rfl ?_
  refine G.bastore C O12 (by omega) (by first | omega | (simp only [List.length_set]; omega)) g_a d1_27 (n := 28) rfl ?_
  intro h15 K16 W17 O18
  have O19 : Ints Z h15 a .byte (((bs.set (o.toInt.toNat) (byt x)).set (o.toInt.toNat + 1) (byt (shu x 8))).set (o.toInt.toNat + 2) (byt (shu x 16))) := by have A := O18; rw [n2] at A; exact A
  have Z20 : n0 ≤ h15.size := Nat.le_trans Z13 K16.1
  have K21 : Keep h0 h15 [a] := Keep.tr K14 K16 (allS (Or.inl (List.mem_of_getElem? (i := 0) rfl)) all0)
  refine G.aloadN C d1_28 rfl rfl (n := 29) rfl ?_
  refine G.iloadN C d1_29 rfl (n := 30) rfl ?_
  refine G.iconst C (v := (3 : Int32)) d1_30 (by decide) (n := 31) rfl ?_
  refine G.iadd C d1_31 (n := 32) rfl ?_
  refine G.lloadN C d1_32 rfl (n := 33) rfl ?_
  refine G.bipush C (v := (24 : Int32)) d1_33 (by decide) (n := 35) rfl ?_
  refine G.lushr C d1_35 (n := 36) rfl ?_
  refine G.l2i C d1_36 (n := 37) rfl ?_
  refine G.i2b C d1_37 (n := 38) rfl ?_
  refine G.bastore C O19 (by omega) (by first | omega | (simp only [List.length_set]; omega)) g_a d1_38 (n := 39) rfl ?_
  intro h22 K23 W24 O25
  have O26 : Ints Z h22 a .byte ((((bs.set (o.toInt.toNat) (byt x)).set (o.toInt.toNat + 1) (byt (shu x 8))).set (o.toInt.toNat + 2) (byt (shu x 16))).set (o.toInt.toNat + 3) (byt (shu x 24))) := by have A := O25; rw [n3] at A; exact A
  have Z27 : n0 ≤ h22.size := Nat.le_trans Z20 K23.1
  have K28 : Keep h0 h22 [a] := Keep.tr K21 K23 (allS (Or.inl (List.mem_of_getElem? (i := 0) rfl)) all0)
  refine G.aloadN C d1_39 rfl rfl (n := 40) rfl ?_
  refine G.iloadN C d1_40 rfl (n := 41) rfl ?_
  refine G.iconst C (v := (4 : Int32)) d1_41 (by decide) (n := 42) rfl ?_
  refine G.iadd C d1_42 (n := 43) rfl ?_
  refine G.lloadN C d1_43 rfl (n := 44) rfl ?_
  refine G.bipush C (v := (32 : Int32)) d1_44 (by decide) (n := 46) rfl ?_
  refine G.lushr C d1_46 (n := 47) rfl ?_
  refine G.l2i C d1_47 (n := 48) rfl ?_
  refine G.i2b C d1_48 (n := 49) rfl ?_
  refine G.bastore C O26 (by omega) (by first | omega | (simp only [List.length_set]; omega)) g_a d1_49 (n := 50) rfl ?_
  intro h29 K30 W31 O32
  have O33 : Ints Z h29 a .byte (((((bs.set (o.toInt.toNat) (byt x)).set (o.toInt.toNat + 1) (byt (shu x 8))).set (o.toInt.toNat + 2) (byt (shu x 16))).set (o.toInt.toNat + 3) (byt (shu x 24))).set (o.toInt.toNat + 4) (byt (shu x 32))) := by have A := O32; rw [n4] at A; exact A
  have Z34 : n0 ≤ h29.size := Nat.le_trans Z27 K30.1
  have K35 : Keep h0 h29 [a] := Keep.tr K28 K30 (allS (Or.inl (List.mem_of_getElem? (i := 0) rfl)) all0)
  refine G.aloadN C d1_50 rfl rfl (n := 51) rfl ?_
  refine G.iloadN C d1_51 rfl (n := 52) rfl ?_
  refine G.iconst C (v := (5 : Int32)) d1_52 (by decide) (n := 53) rfl ?_
  refine G.iadd C d1_53 (n := 54) rfl ?_
  refine G.lloadN C d1_54 rfl (n := 55) rfl ?_
  refine G.bipush C (v := (40 : Int32)) d1_55 (by decide) (n := 57) rfl ?_
  refine G.lushr C d1_57 (n := 58) rfl ?_
  refine G.l2i C d1_58 (n := 59) rfl ?_
  refine G.i2b C d1_59 (n := 60) rfl ?_
  refine G.bastore C O33 (by omega) (by first | omega | (simp only [List.length_set]; omega)) g_a d1_60 (n := 61) rfl ?_
  intro h36 K37 W38 O39
  have O40 : Ints Z h36 a .byte ((((((bs.set (o.toInt.toNat) (byt x)).set (o.toInt.toNat + 1) (byt (shu x 8))).set (o.toInt.toNat + 2) (byt (shu x 16))).set (o.toInt.toNat + 3) (byt (shu x 24))).set (o.toInt.toNat + 4) (byt (shu x 32))).set (o.toInt.toNat + 5) (byt (shu x 40))) := by have A := O39; rw [n5] at A; exact A
  have Z41 : n0 ≤ h36.size := Nat.le_trans Z34 K37.1
  have K42 : Keep h0 h36 [a] := Keep.tr K35 K37 (allS (Or.inl (List.mem_of_getElem? (i := 0) rfl)) all0)
  refine G.aloadN C d1_61 rfl rfl (n := 62) rfl ?_
  refine G.iloadN C d1_62 rfl (n := 63) rfl ?_
  refine G.bipush C (v := (6 : Int32)) d1_63 (by decide) (n := 65) rfl ?_
  refine G.iadd C d1_65 (n := 66) rfl ?_
  refine G.lloadN C d1_66 rfl (n := 67) rfl ?_
  refine G.bipush C (v := (48 : Int32)) d1_67 (by decide) (n := 69) rfl ?_
  refine G.lushr C d1_69 (n := 70) rfl ?_
  refine G.l2i C d1_70 (n := 71) rfl ?_
  refine G.i2b C d1_71 (n := 72) rfl ?_
  refine G.bastore C O40 (by omega) (by first | omega | (simp only [List.length_set]; omega)) g_a d1_72 (n := 73) rfl ?_
  intro h43 K44 W45 O46
  have O47 : Ints Z h43 a .byte (((((((bs.set (o.toInt.toNat) (byt x)).set (o.toInt.toNat + 1) (byt (shu x 8))).set (o.toInt.toNat + 2) (byt (shu x 16))).set (o.toInt.toNat + 3) (byt (shu x 24))).set (o.toInt.toNat + 4) (byt (shu x 32))).set (o.toInt.toNat + 5) (byt (shu x 40))).set (o.toInt.toNat + 6) (byt (shu x 48))) := by have A := O46; rw [n6] at A; exact A
  have Z48 : n0 ≤ h43.size := Nat.le_trans Z41 K44.1
  have K49 : Keep h0 h43 [a] := Keep.tr K42 K44 (allS (Or.inl (List.mem_of_getElem? (i := 0) rfl)) all0)
  refine G.aloadN C d1_73 rfl rfl (n := 74) rfl ?_
  refine G.iloadN C d1_74 rfl (n := 75) rfl ?_
  refine G.bipush C (v := (7 : Int32)) d1_75 (by decide) (n := 77) rfl ?_
  refine G.iadd C d1_77 (n := 78) rfl ?_
  refine G.lloadN C d1_78 rfl (n := 79) rfl ?_
  refine G.bipush C (v := (56 : Int32)) d1_79 (by decide) (n := 81) rfl ?_
  refine G.lushr C d1_81 (n := 82) rfl ?_
  refine G.l2i C d1_82 (n := 83) rfl ?_
  refine G.i2b C d1_83 (n := 84) rfl ?_
  refine G.bastore C O47 (by omega) (by first | omega | (simp only [List.length_set]; omega)) g_a d1_84 (n := 85) rfl ?_
  intro h50 K51 W52 O53
  have O54 : Ints Z h50 a .byte ((((((((bs.set (o.toInt.toNat) (byt x)).set (o.toInt.toNat + 1) (byt (shu x 8))).set (o.toInt.toNat + 2) (byt (shu x 16))).set (o.toInt.toNat + 3) (byt (shu x 24))).set (o.toInt.toNat + 4) (byt (shu x 32))).set (o.toInt.toNat + 5) (byt (shu x 40))).set (o.toInt.toNat + 6) (byt (shu x 48))).set (o.toInt.toNat + 7) (byt (shu x 56))) := by have A := O53; rw [n7] at A; exact A
  have Z55 : n0 ≤ h50.size := Nat.le_trans Z48 K51.1
  have K56 : Keep h0 h50 [a] := Keep.tr K49 K51 (allS (Or.inl (List.mem_of_getElem? (i := 0) rfl)) all0)
  refine G.return_ C d1_85 (by decide) (by decide) ?_
  exact ⟨rfl, K56, _, O54, put_spec (by omega) _ _ _ _ _ _ _ _ rfl⟩
theorem d2_0 : decode prog_15_method_11_code 0 = .ok (.iload_n 2, 1) := by decide +kernel
theorem d2_1 : decode prog_15_method_11_code 1 = .ok (.newarray .long, 2) := by decide +kernel
theorem d2_3 : decode prog_15_method_11_code 3 = .ok (.astore 4, 2) := by decide +kernel
theorem d2_5 : decode prog_15_method_11_code 5 = .ok (.iconst 0, 1) := by decide +kernel
theorem d2_6 : decode prog_15_method_11_code 6 = .ok (.istore 5, 2) := by decide +kernel
theorem d2_8 : decode prog_15_method_11_code 8 = .ok (.iload 5, 2) := by decide +kernel
theorem d2_10 : decode prog_15_method_11_code 10 = .ok (.iload_n 2, 1) := by decide +kernel
theorem d2_11 : decode prog_15_method_11_code 11 = .ok (.if_icmp .ge 55, 3) := by decide +kernel
theorem d2_14 : decode prog_15_method_11_code 14 = .ok (.iload_n 3, 1) := by decide +kernel
theorem d2_15 : decode prog_15_method_11_code 15 = .ok (.iconst 1, 1) := by decide +kernel
theorem d2_16 : decode prog_15_method_11_code 16 = .ok (.isub, 1) := by decide +kernel
theorem d2_17 : decode prog_15_method_11_code 17 = .ok (.istore 6, 2) := by decide +kernel
theorem d2_19 : decode prog_15_method_11_code 19 = .ok (.iload 6, 2) := by decide +kernel
theorem d2_21 : decode prog_15_method_11_code 21 = .ok (.ifCond .lt 39, 3) := by decide +kernel
theorem d2_24 : decode prog_15_method_11_code 24 = .ok (.aload 4, 2) := by decide +kernel
theorem d2_26 : decode prog_15_method_11_code 26 = .ok (.iload 5, 2) := by decide +kernel
theorem d2_28 : decode prog_15_method_11_code 28 = .ok (.aload 4, 2) := by decide +kernel
theorem d2_30 : decode prog_15_method_11_code 30 = .ok (.iload 5, 2) := by decide +kernel
theorem d2_32 : decode prog_15_method_11_code 32 = .ok (.laload, 1) := by decide +kernel
theorem d2_33 : decode prog_15_method_11_code 33 = .ok (.bipush 8, 2) := by decide +kernel
theorem d2_35 : decode prog_15_method_11_code 35 = .ok (.lshl, 1) := by decide +kernel
theorem d2_36 : decode prog_15_method_11_code 36 = .ok (.aload_n 0, 1) := by decide +kernel
theorem d2_37 : decode prog_15_method_11_code 37 = .ok (.iload_n 1, 1) := by decide +kernel
theorem d2_38 : decode prog_15_method_11_code 38 = .ok (.iload 5, 2) := by decide +kernel
theorem d2_40 : decode prog_15_method_11_code 40 = .ok (.iload_n 3, 1) := by decide +kernel
theorem d2_41 : decode prog_15_method_11_code 41 = .ok (.imul, 1) := by decide +kernel
theorem d2_42 : decode prog_15_method_11_code 42 = .ok (.iadd, 1) := by decide +kernel
theorem d2_43 : decode prog_15_method_11_code 43 = .ok (.iload 6, 2) := by decide +kernel
theorem d2_45 : decode prog_15_method_11_code 45 = .ok (.iadd, 1) := by decide +kernel
theorem d2_46 : decode prog_15_method_11_code 46 = .ok (.baload, 1) := by decide +kernel
theorem d2_47 : decode prog_15_method_11_code 47 = .ok (.sipush 255, 3) := by decide +kernel
theorem d2_50 : decode prog_15_method_11_code 50 = .ok (.iand, 1) := by decide +kernel
theorem d2_51 : decode prog_15_method_11_code 51 = .ok (.i2l, 1) := by decide +kernel
theorem d2_52 : decode prog_15_method_11_code 52 = .ok (.lor, 1) := by decide +kernel
theorem d2_53 : decode prog_15_method_11_code 53 = .ok (.lastore, 1) := by decide +kernel
theorem d2_54 : decode prog_15_method_11_code 54 = .ok (.iinc 6 (-1), 3) := by decide +kernel
theorem d2_57 : decode prog_15_method_11_code 57 = .ok (.goto (-38), 3) := by decide +kernel
theorem d2_60 : decode prog_15_method_11_code 60 = .ok (.iinc 5 1, 3) := by decide +kernel
theorem d2_63 : decode prog_15_method_11_code 63 = .ok (.goto (-55), 3) := by decide +kernel
theorem d2_66 : decode prog_15_method_11_code 66 = .ok (.aload 4, 2) := by decide +kernel
theorem d2_68 : decode prog_15_method_11_code 68 = .ok (.areturn, 1) := by decide +kernel
theorem pn1 : plainName "com/example/parley/parley/KeySketch" = true := by first | (simp [plainName, overriddenIn]; done) | decide +kernel
theorem ef2 (m : MethodId) (a : Addr) (o : Int32) : entryFrame m #[(.ref a), (.int o), (.int (0 : Int32)), (.int (8 : Int32))] 7 = mkF m 0 #[.val (.ref a), .val (.int o), .val (.int (0 : Int32)), .val (.int (8 : Int32)), .unset, .unset, .unset] [] := by first | (simp [entryFrame, mkF, argsToLocals, Value.category]; done) | rfl
abbrev Q_read_8_0 (Z : State) (h0 : Heap) (a : Addr) (o : Int32) (bs : List Int32) : Option Value → Heap → Prop := fun v h' => ∃ b, v = some (.ref b) ∧ h0.size ≤ b ∧ Keep h0 h' [] ∧ Longs Z h' b []
abbrev R_read_8_0 : Room := { frames := 0, cells := 1, slots := 0, locals := 0 }
set_option maxRecDepth 65536 in
set_option maxHeartbeats 40000000 in
theorem m_read_8_0 (l : Launch) (Z : State) (a0 : Array Value) (hw : ∀ d ∈ tables_1, d.before a0 Z = true) (a : Addr) (o : Int32) (bs : List Int32) (h0 : Heap) (n0 : Nat) (Z0 : n0 ≤ h0.size) (O_a : Ints Z h0 a .byte bs) (q_0 : 0 ≤ o.toInt) (q_1 : o.toInt + 0 ≤ bs.length) : Met l Z (⟨"com/example/parley/parley/KeySketch", "read", "([BIII)[J"⟩ : MethodName) prog_15_method_11_code 7 (some (.array .long)) R_read_8_0 #[(.ref a), (.int o), (.int (0 : Int32)), (.int (8 : Int32))] h0 n0 (Q_read_8_0 Z h0 a o bs) := by
  refine Met.of (plainFor_of_name pn1) (fun m => ef2 m a o) ?_
  intro p e s m args below meth c C
  have ql := O_a.len
  refine G.iloadN C d2_0 rfl (n := 1) rfl ?_
  refine G.newarrayJ C (ty := .long) (cap := 0) (wd hw 10 rfl) rfl rfl rfl (by decide) (by decide) (by decide) d2_1 (n := 3) rfl (c' := 1) (s' := 0) rfl rfl (by decide) (by decide) ?_
  intro h1 b2 q3 E4 O5
  have O6 : Longs Z h1 b2 [] := O5
  have ne7 : a ≠ b2 := Nat.ne_of_lt (Nat.lt_of_lt_of_le O_a.lt (Nat.le_of_eq q3.symm))
  have g8 : n0 ≤ b2 := Nat.le_trans Z0 (Nat.le_of_eq q3.symm)
  have f9 : h0.size ≤ b2 := Nat.le_trans (Keep.refl h0 []).1 (Nat.le_of_eq q3.symm)
  have K10 := kext E4
  have O11 := O_a.keep K10 nin0
  have Z12 : n0 ≤ h1.size := Nat.le_trans Z0 K10.1
  have K13 : Keep h0 h1 [] := Keep.tr (Keep.refl h0 _) K10 all0
  refine G.astore C d2_3 rfl (l' := #[.val (.ref a), .val (.int o), .val (.int (0 : Int32)), .val (.int (8 : Int32)), .val (.ref b2), .unset, .unset]) rfl (n := 5) rfl ?_
  refine G.iconst C (v := (0 : Int32)) d2_5 (by decide) (n := 6) rfl ?_
  refine G.istore C d2_6 (l' := #[.val (.ref a), .val (.int o), .val (.int (0 : Int32)), .val (.int (8 : Int32)), .val (.ref b2), .val (.int (0 : Int32)), .unset]) rfl (n := 8) rfl ?_
  refine G.iload C d2_8 rfl (n := 10) rfl ?_
  refine G.iloadN C d2_10 rfl (n := 11) rfl ?_
  refine G.icmp_ge C (A := 0) (B := 0) (by decide) (by decide) d2_11 (by decide) (by decide) (n := 14) (n' := 66) rfl (fun c11_14 => ?_) (fun c11_14 => ?_)
  rotate_left
  · exact absurd c11_14 (by decide)
  refine G.aload C d2_66 rfl rfl (n := 68) rfl ?_
  refine G.areturn C d2_68 rfl rfl rfl (by decide) (by decide) ?_
  exact ⟨b2, rfl, f9, K13, O6⟩
theorem ef3 (m : MethodId) (a : Addr) (o : Int32) : entryFrame m #[(.ref a), (.int o), (.int (1 : Int32)), (.int (8 : Int32))] 7 = mkF m 0 #[.val (.ref a), .val (.int o), .val (.int (1 : Int32)), .val (.int (8 : Int32)), .unset, .unset, .unset] [] := by first | (simp [entryFrame, mkF, argsToLocals, Value.category]; done) | rfl
abbrev Q_read_8_1 (Z : State) (h0 : Heap) (a : Addr) (o : Int32) (bs : List Int32) (e0 : Int32) (e1 : Int32) (e2 : Int32) (e3 : Int32) (e4 : Int32) (e5 : Int32) (e6 : Int32) (e7 : Int32) (S0_0 : Int64) (S0_1 : Int64) (S0_2 : Int64) (S0_3 : Int64) (S0_4 : Int64) (S0_5 : Int64) (S0_6 : Int64) (S0_7 : Int64) : Option Value → Heap → Prop := fun v h' => ∃ b, v = some (.ref b) ∧ h0.size ≤ b ∧ Keep h0 h' [] ∧ Longs Z h' b [S0_0]
abbrev R_read_8_1 : Room := { frames := 0, cells := 1, slots := 1, locals := 0 }
set_option maxRecDepth 65536 in
set_option maxHeartbeats 40000000 in
theorem m_read_8_1 (l : Launch) (Z : State) (a0 : Array Value) (hw : ∀ d ∈ tables_1, d.before a0 Z = true) (a : Addr) (o : Int32) (bs : List Int32) (e0 : Int32) (e1 : Int32) (e2 : Int32) (e3 : Int32) (e4 : Int32) (e5 : Int32) (e6 : Int32) (e7 : Int32) (S0_0 : Int64) (S0_1 : Int64) (S0_2 : Int64) (S0_3 : Int64) (S0_4 : Int64) (S0_5 : Int64) (S0_6 : Int64) (S0_7 : Int64) (h0 : Heap) (n0 : Nat) (Z0 : n0 ≤ h0.size) (O_a : Ints Z h0 a .byte bs) (q_0 : 0 ≤ o.toInt) (q_1 : o.toInt + 8 ≤ bs.length) (p0 : bs[o.toInt.toNat + 0]? = some e0) (p1 : bs[o.toInt.toNat + 1]? = some e1) (p2 : bs[o.toInt.toNat + 2]? = some e2) (p3 : bs[o.toInt.toNat + 3]? = some e3) (p4 : bs[o.toInt.toNat + 4]? = some e4) (p5 : bs[o.toInt.toNat + 5]? = some e5) (p6 : bs[o.toInt.toNat + 6]? = some e6) (p7 : bs[o.toInt.toNat + 7]? = some e7) (s0_7 : (((0 : Int64) <<< ((8 : Int32) &&& 0x3f).toInt64) ||| ((e7 &&& (255 : Int32)).toInt64)) = S0_7) (s0_6 : ((S0_7 <<< ((8 : Int32) &&& 0x3f).toInt64) ||| ((e6 &&& (255 : Int32)).toInt64)) = S0_6) (s0_5 : ((S0_6 <<< ((8 : Int32) &&& 0x3f).toInt64) ||| ((e5 &&& (255 : Int32)).toInt64)) = S0_5) (s0_4 : ((S0_5 <<< ((8 : Int32) &&& 0x3f).toInt64) ||| ((e4 &&& (255 : Int32)).toInt64)) = S0_4) (s0_3 : ((S0_4 <<< ((8 : Int32) &&& 0x3f).toInt64) ||| ((e3 &&& (255 : Int32)).toInt64)) = S0_3) (s0_2 : ((S0_3 <<< ((8 : Int32) &&& 0x3f).toInt64) ||| ((e2 &&& (255 : Int32)).toInt64)) = S0_2) (s0_1 : ((S0_2 <<< ((8 : Int32) &&& 0x3f).toInt64) ||| ((e1 &&& (255 : Int32)).toInt64)) = S0_1) (s0_0 : ((S0_1 <<< ((8 : Int32) &&& 0x3f).toInt64) ||| ((e0 &&& (255 : Int32)).toInt64)) = S0_0) : Met l Z (⟨"com/example/parley/parley/KeySketch", "read", "([BIII)[J"⟩ : MethodName) prog_15_method_11_code 7 (some (.array .long)) R_read_8_1 #[(.ref a), (.int o), (.int (1 : Int32)), (.int (8 : Int32))] h0 n0 (Q_read_8_1 Z h0 a o bs e0 e1 e2 e3 e4 e5 e6 e7 S0_0 S0_1 S0_2 S0_3 S0_4 S0_5 S0_6 S0_7) := by
  refine Met.of (plainFor_of_name pn1) (fun m => ef3 m a o) ?_
  intro p e s m args below meth c C
  have ql := O_a.len
  refine G.iloadN C d2_0 rfl (n := 1) rfl ?_
  refine G.newarrayJ C (ty := .long) (cap := 1) (wd hw 10 rfl) rfl rfl rfl (by decide) (by decide) (by decide) d2_1 (n := 3) rfl (c' := 1) (s' := 1) rfl rfl (by decide) (by decide) ?_
  intro h1 b2 q3 E4 O5
  have O6 : Longs Z h1 b2 [0] := O5
  have ne7 : a ≠ b2 := Nat.ne_of_lt (Nat.lt_of_lt_of_le O_a.lt (Nat.le_of_eq q3.symm))
  have g8 : n0 ≤ b2 := Nat.le_trans Z0 (Nat.le_of_eq q3.symm)
  have f9 : h0.size ≤ b2 := Nat.le_trans (Keep.refl h0 []).1 (Nat.le_of_eq q3.symm)
  have K10 := kext E4
  have O11 := O_a.keep K10 nin0
  have Z12 : n0 ≤ h1.size := Nat.le_trans Z0 K10.1
  have K13 : Keep h0 h1 [] := Keep.tr (Keep.refl h0 _) K10 all0
  refine G.astore C d2_3 rfl (l' := #[.val (.ref a), .val (.int o), .val (.int (1 : Int32)), .val (.int (8 : Int32)), .val (.ref b2), .unset, .unset]) rfl (n := 5) rfl ?_
  refine G.iconst C (v := (0 : Int32)) d2_5 (by decide) (n := 6) rfl ?_
  refine G.istore C d2_6 (l' := #[.val (.ref a), .val (.int o), .val (.int (1 : Int32)), .val (.int (8 : Int32)), .val (.ref b2), .val (.int (0 : Int32)), .unset]) rfl (n := 8) rfl ?_
  refine G.iload C d2_8 rfl (n := 10) rfl ?_
  refine G.iloadN C d2_10 rfl (n := 11) rfl ?_
  refine G.icmp_ge C (A := 0) (B := 1) (by decide) (by decide) d2_11 (by decide) (by decide) (n := 14) (n' := 66) rfl (fun c11_14 => ?_) (fun c11_14 => ?_)
  · exact absurd c11_14 (by decide)
  refine G.iloadN C d2_14 rfl (n := 15) rfl ?_
  refine G.iconst C (v := (1 : Int32)) d2_15 (by decide) (n := 16) rfl ?_
  refine G.isub C d2_16 (n := 17) rfl ?_
  refine G.fold_int (z := (7 : Int32)) (by decide) ?_
  refine G.istore C d2_17 (l' := #[.val (.ref a), .val (.int o), .val (.int (1 : Int32)), .val (.int (8 : Int32)), .val (.ref b2), .val (.int (0 : Int32)), .val (.int (7 : Int32))]) rfl (n := 19) rfl ?_
  refine G.iload C d2_19 rfl (n := 21) rfl ?_
  refine G.if_lt C (A := 7) (by decide) d2_21 (by decide) (by decide) (n := 24) (n' := 60) rfl (fun c21_15 => ?_) (fun c21_15 => ?_)
  · exact absurd c21_15 (by decide)
  refine G.aload C d2_24 rfl rfl (n := 26) rfl ?_
  refine G.iload C d2_26 rfl (n := 28) rfl ?_
  refine G.aload C d2_28 rfl rfl (n := 30) rfl ?_
  refine G.iload C d2_30 rfl (n := 32) rfl ?_
  refine G.laload C (x := 0) O6 (by decide) rfl d2_32 (n := 33) rfl ?_
  refine G.bipush C (v := (8 : Int32)) d2_33 (by decide) (n := 35) rfl ?_
  refine G.lshl C d2_35 (n := 36) rfl ?_
  refine G.aloadN C d2_36 rfl rfl (n := 37) rfl ?_
  refine G.iloadN C d2_37 rfl (n := 38) rfl ?_
  refine G.iload C d2_38 rfl (n := 40) rfl ?_
  refine G.iloadN C d2_40 rfl (n := 41) rfl ?_
  refine G.imul C d2_41 (n := 42) rfl ?_
  refine G.fold_int (z := (0 : Int32)) (by decide) ?_
  refine G.iadd C d2_42 (n := 43) rfl ?_
  refine G.iload C d2_43 rfl (n := 45) rfl ?_
  refine G.iadd C d2_45 (n := 46) rfl ?_
  have x16 : (((o + (0 : Int32)) + (7 : Int32))).toInt = o.toInt + ((7 : Nat) : Int) := ixb (A := 0) (B := 7) (by decide) (by decide) (by decide) (by decide) (by decide) q_0 (bnd q_1 ql (by decide))
  refine G.baload C (x := e7) O11 (nn_of x16 q_0) (at_of x16 q_0 p7) d2_46 (n := 47) rfl ?_
  refine G.sipush C (v := (255 : Int32)) d2_47 (by decide) (n := 50) rfl ?_
  refine G.iand C d2_50 (n := 51) rfl ?_
  refine G.i2l C d2_51 (n := 52) rfl ?_
  refine G.lor C d2_52 (n := 53) rfl ?_
  refine G.fold_long (z := S0_7) s0_7 ?_
  refine G.lastore C O6 (by decide) (show (0 : Int32).toInt < ((1 : Nat) : Int) by decide) g8 d2_53 (n := 54) rfl ?_
  intro h17 K18 W19 O20
  have O21 : Longs Z h17 b2 [S0_7] := O20
  have O22 := O11.keep K18 (ninS ne7 nin0)
  have Z23 : n0 ≤ h17.size := Nat.le_trans Z12 K18.1
  have K24 : Keep h0 h17 [] := Keep.tr K13 K18 (allS (Or.inr f9) all0)
  refine G.iincK C (v := (-1 : Int32)) (z := (6 : Int32)) d2_54 (by decide) rfl (by decide) (l' := #[.val (.ref a), .val (.int o), .val (.int (1 : Int32)), .val (.int (8 : Int32)), .val (.ref b2), .val (.int (0 : Int32)), .val (.int (6 : Int32))]) rfl (n := 57) rfl ?_
  refine G.goto C d2_57 (by decide) (n := 19) (by decide) ?_
  refine G.iload C d2_19 rfl (n := 21) rfl ?_
  refine G.if_lt C (A := 6) (by decide) d2_21 (by decide) (by decide) (n := 24) (n' := 60) rfl (fun c21_25 => ?_) (fun c21_25 => ?_)
  · exact absurd c21_25 (by decide)
  refine G.aload C d2_24 rfl rfl (n := 26) rfl ?_
  refine G.iload C d2_26 rfl (n := 28) rfl ?_
  refine G.aload C d2_28 rfl rfl (n := 30) rfl ?_
  refine G.iload C d2_30 rfl (n := 32) rfl ?_
  refine G.laload C (x := S0_7) O21 (by decide) rfl d2_32 (n := 33) rfl ?_
  refine G.bipush C (v := (8 : Int32)) d2_33 (by decide) (n := 35) rfl ?_
  refine G.lshl C d2_35 (n := 36) rfl ?_
  refine G.aloadN C d2_36 rfl rfl (n := 37) rfl ?_
  refine G.iloadN C d2_37 rfl (n := 38) rfl ?_
  refine G.iload C d2_38 rfl (n := 40) rfl ?_
  refine G.iloadN C d2_40 rfl (n := 41) rfl ?_
  refine G.imul C d2_41 (n := 42) rfl ?_
  refine G.fold_int (z := (0 : Int32)) (by decide) ?_
  refine G.iadd C d2_42 (n := 43) rfl ?_
  refine G.iload C d2_43 rfl (n := 45) rfl ?_
  refine G.iadd C d2_45 (n := 46) rfl ?_
  have x26 : (((o + (0 : Int32)) + (6 : Int32))).toInt = o.toInt + ((6 : Nat) : Int) := ixb (A := 0) (B := 6) (by decide) (by decide) (by decide) (by decide) (by decide) q_0 (bnd q_1 ql (by decide))
  refine G.baload C (x := e6) O22 (nn_of x26 q_0) (at_of x26 q_0 p6) d2_46 (n := 47) rfl ?_
  refine G.sipush C (v := (255 : Int32)) d2_47 (by decide) (n := 50) rfl ?_
  refine G.iand C d2_50 (n := 51) rfl ?_
  refine G.i2l C d2_51 (n := 52) rfl ?_
  refine G.lor C d2_52 (n := 53) rfl ?_
  refine G.fold_long (z := S0_6) s0_6 ?_
  refine G.lastore C O21 (by decide) (show (0 : Int32).toInt < ((1 : Nat) : Int) by decide) g8 d2_53 (n := 54) rfl ?_
  intro h27 K28 W29 O30
  have O31 : Longs Z h27 b2 [S0_6] := O30
  have O32 := O22.keep K28 (ninS ne7 nin0)
  have Z33 : n0 ≤ h27.size := Nat.le_trans Z23 K28.1
  have K34 : Keep h0 h27 [] := Keep.tr K24 K28 (allS (Or.inr f9) all0)
  refine G.iincK C (v := (-1 : Int32)) (z := (5 : Int32)) d2_54 (by decide) rfl (by decide) (l' := #[.val (.ref a), .val (.int o), .val (.int (1 : Int32)), .val (.int (8 : Int32)), .val (.ref b2), .val (.int (0 : Int32)), .val (.int (5 : Int32))]) rfl (n := 57) rfl ?_
  refine G.goto C d2_57 (by decide) (n := 19) (by decide) ?_
  refine G.iload C d2_19 rfl (n := 21) rfl ?_
  refine G.if_lt C (A := 5) (by decide) d2_21 (by decide) (by decide) (n := 24) (n' := 60) rfl (fun c21_35 => ?_) (fun c21_35 => ?_)
  · exact absurd c21_35 (by decide)
  refine G.aload C d2_24 rfl rfl (n := 26) rfl ?_
  refine G.iload C d2_26 rfl (n := 28) rfl ?_
  refine G.aload C d2_28 rfl rfl (n := 30) rfl ?_
  refine G.iload C d2_30 rfl (n := 32) rfl ?_
  refine G.laload C (x := S0_6) O31 (by decide) rfl d2_32 (n := 33) rfl ?_
  refine G.bipush C (v := (8 : Int32)) d2_33 (by decide) (n := 35) rfl ?_
  refine G.lshl C d2_35 (n := 36) rfl ?_
  refine G.aloadN C d2_36 rfl rfl (n := 37) rfl ?_
  refine G.iloadN C d2_37 rfl (n := 38) rfl ?_
  refine G.iload C d2_38 rfl (n := 40) rfl ?_
  refine G.iloadN C d2_40 rfl (n := 41) rfl ?_
  refine G.imul C d2_41 (n := 42) rfl ?_
  refine G.fold_int (z := (0 : Int32)) (by decide) ?_
  refine G.iadd C d2_42 (n := 43) rfl ?_
  refine G.iload C d2_43 rfl (n := 45) rfl ?_
  refine G.iadd C d2_45 (n := 46) rfl ?_
  have x36 : (((o + (0 : Int32)) + (5 : Int32))).toInt = o.toInt + ((5 : Nat) : Int) := ixb (A := 0) (B := 5) (by decide) (by decide) (by decide) (by decide) (by decide) q_0 (bnd q_1 ql (by decide))
  refine G.baload C (x := e5) O32 (nn_of x36 q_0) (at_of x36 q_0 p5) d2_46 (n := 47) rfl ?_
  refine G.sipush C (v := (255 : Int32)) d2_47 (by decide) (n := 50) rfl ?_
  refine G.iand C d2_50 (n := 51) rfl ?_
  refine G.i2l C d2_51 (n := 52) rfl ?_
  refine G.lor C d2_52 (n := 53) rfl ?_
  refine G.fold_long (z := S0_5) s0_5 ?_
  refine G.lastore C O31 (by decide) (show (0 : Int32).toInt < ((1 : Nat) : Int) by decide) g8 d2_53 (n := 54) rfl ?_
  intro h37 K38 W39 O40
  have O41 : Longs Z h37 b2 [S0_5] := O40
  have O42 := O32.keep K38 (ninS ne7 nin0)
  have Z43 : n0 ≤ h37.size := Nat.le_trans Z33 K38.1
  have K44 : Keep h0 h37 [] := Keep.tr K34 K38 (allS (Or.inr f9) all0)
  refine G.iincK C (v := (-1 : Int32)) (z := (4 : Int32)) d2_54 (by decide) rfl (by decide) (l' := #[.val (.ref a), .val (.int o), .val (.int (1 : Int32)), .val (.int (8 : Int32)), .val (.ref b2), .val (.int (0 : Int32)), .val (.int (4 : Int32))]) rfl (n := 57) rfl ?_
  refine G.goto C d2_57 (by decide) (n := 19) (by decide) ?_
  refine G.iload C d2_19 rfl (n := 21) rfl ?_
  refine G.if_lt C (A := 4) (by decide) d2_21 (by decide) (by decide) (n := 24) (n' := 60) rfl (fun c21_45 => ?_) (fun c21_45 => ?_)
  · exact absurd c21_45 (by decide)
  refine G.aload C d2_24 rfl rfl (n := 26) rfl ?_
  refine G.iload C d2_26 rfl (n := 28) rfl ?_
  refine G.aload C d2_28 rfl rfl (n := 30) rfl ?_
  refine G.iload C d2_30 rfl (n := 32) rfl ?_
  refine G.laload C (x := S0_5) O41 (by decide) rfl d2_32 (n := 33) rfl ?_
  refine G.bipush C (v := (8 : Int32)) d2_33 (by decide) (n := 35) rfl ?_
  refine G.lshl C d2_35 (n := 36) rfl ?_
  refine G.aloadN C d2_36 rfl rfl (n := 37) rfl ?_
  refine G.iloadN C d2_37 rfl (n := 38) rfl ?_
  refine G.iload C d2_38 rfl (n := 40) rfl ?_
  refine G.iloadN C d2_40 rfl (n := 41) rfl ?_
  refine G.imul C d2_41 (n := 42) rfl ?_
  refine G.fold_int (z := (0 : Int32)) (by decide) ?_
  refine G.iadd C d2_42 (n := 43) rfl ?_
  refine G.iload C d2_43 rfl (n := 45) rfl ?_
  refine G.iadd C d2_45 (n := 46) rfl ?_
  have x46 : (((o + (0 : Int32)) + (4 : Int32))).toInt = o.toInt + ((4 : Nat) : Int) := ixb (A := 0) (B := 4) (by decide) (by decide) (by decide) (by decide) (by decide) q_0 (bnd q_1 ql (by decide))
  refine G.baload C (x := e4) O42 (nn_of x46 q_0) (at_of x46 q_0 p4) d2_46 (n := 47) rfl ?_
  refine G.sipush C (v := (255 : Int32)) d2_47 (by decide) (n := 50) rfl ?_
  refine G.iand C d2_50 (n := 51) rfl ?_
  refine G.i2l C d2_51 (n := 52) rfl ?_
  refine G.lor C d2_52 (n := 53) rfl ?_
  refine G.fold_long (z := S0_4) s0_4 ?_
  refine G.lastore C O41 (by decide) (show (0 : Int32).toInt < ((1 : Nat) : Int) by decide) g8 d2_53 (n := 54) rfl ?_
  intro h47 K48 W49 O50
  have O51 : Longs Z h47 b2 [S0_4] := O50
  have O52 := O42.keep K48 (ninS ne7 nin0)
  have Z53 : n0 ≤ h47.size := Nat.le_trans Z43 K48.1
  have K54 : Keep h0 h47 [] := Keep.tr K44 K48 (allS (Or.inr f9) all0)
  refine G.iincK C (v := (-1 : Int32)) (z := (3 : Int32)) d2_54 (by decide) rfl (by decide) (l' := #[.val (.ref a), .val (.int o), .val (.int (1 : Int32)), .val (.int (8 : Int32)), .val (.ref b2), .val (.int (0 : Int32)), .val (.int (3 : Int32))]) rfl (n := 57) rfl ?_
  refine G.goto C d2_57 (by decide) (n := 19) (by decide) ?_
  refine G.iload C d2_19 rfl (n := 21) rfl ?_
  refine G.if_lt C (A := 3) (by decide) d2_21 (by decide) (by decide) (n := 24) (n' := 60) rfl (fun c21_55 => ?_) (fun c21_55 => ?_)
  · exact absurd c21_55 (by decide)
  refine G.aload C d2_24 rfl rfl (n := 26) rfl ?_
  refine G.iload C d2_26 rfl (n := 28) rfl ?_
  refine G.aload C d2_28 rfl rfl (n := 30) rfl ?_
  refine G.iload C d2_30 rfl (n := 32) rfl ?_
  refine G.laload C (x := S0_4) O51 (by decide) rfl d2_32 (n := 33) rfl ?_
  refine G.bipush C (v := (8 : Int32)) d2_33 (by decide) (n := 35) rfl ?_
  refine G.lshl C d2_35 (n := 36) rfl ?_
  refine G.aloadN C d2_36 rfl rfl (n := 37) rfl ?_
  refine G.iloadN C d2_37 rfl (n := 38) rfl ?_
  refine G.iload C d2_38 rfl (n := 40) rfl ?_
  refine G.iloadN C d2_40 rfl (n := 41) rfl ?_
  refine G.imul C d2_41 (n := 42) rfl ?_
  refine G.fold_int (z := (0 : Int32)) (by decide) ?_
  refine G.iadd C d2_42 (n := 43) rfl ?_
  refine G.iload C d2_43 rfl (n := 45) rfl ?_
  refine G.iadd C d2_45 (n := 46) rfl ?_
  have x56 : (((o + (0 : Int32)) + (3 : Int32))).toInt = o.toInt + ((3 : Nat) : Int) := ixb (A := 0) (B := 3) (by decide) (by decide) (by decide) (by decide) (by decide) q_0 (bnd q_1 ql (by decide))
  refine G.baload C (x := e3) O52 (nn_of x56 q_0) (at_of x56 q_0 p3) d2_46 (n := 47) rfl ?_
  refine G.sipush C (v := (255 : Int32)) d2_47 (by decide) (n := 50) rfl ?_
  refine G.iand C d2_50 (n := 51) rfl ?_
  refine G.i2l C d2_51 (n := 52) rfl ?_
  refine G.lor C d2_52 (n := 53) rfl ?_
  refine G.fold_long (z := S0_3) s0_3 ?_
  refine G.lastore C O51 (by decide) (show (0 : Int32).toInt < ((1 : Nat) : Int) by decide) g8 d2_53 (n := 54) rfl ?_
  intro h57 K58 W59 O60
  have O61 : Longs Z h57 b2 [S0_3] := O60
  have O62 := O52.keep K58 (ninS ne7 nin0)
  have Z63 : n0 ≤ h57.size := Nat.le_trans Z53 K58.1
  have K64 : Keep h0 h57 [] := Keep.tr K54 K58 (allS (Or.inr f9) all0)
  refine G.iincK C (v := (-1 : Int32)) (z := (2 : Int32)) d2_54 (by decide) rfl (by decide) (l' := #[.val (.ref a), .val (.int o), .val (.int (1 : Int32)), .val (.int (8 : Int32)), .val (.ref b2), .val (.int (0 : Int32)), .val (.int (2 : Int32))]) rfl (n := 57) rfl ?_
  refine G.goto C d2_57 (by decide) (n := 19) (by decide) ?_
  refine G.iload C d2_19 rfl (n := 21) rfl ?_
  refine G.if_lt C (A := 2) (by decide) d2_21 (by decide) (by decide) (n := 24) (n' := 60) rfl (fun c21_65 => ?_) (fun c21_65 => ?_)
  · exact absurd c21_65 (by decide)
  refine G.aload C d2_24 rfl rfl (n := 26) rfl ?_
  refine G.iload C d2_26 rfl (n := 28) rfl ?_
  refine G.aload C d2_28 rfl rfl (n := 30) rfl ?_
  refine G.iload C d2_30 rfl (n := 32) rfl ?_
  refine G.laload C (x := S0_3) O61 (by decide) rfl d2_32 (n := 33) rfl ?_
  refine G.bipush C (v := (8 : Int32)) d2_33 (by decide) (n := 35) rfl ?_
  refine G.lshl C d2_35 (n := 36) rfl ?_
  refine G.aloadN C d2_36 rfl rfl (n := 37) rfl ?_
  refine G.iloadN C d2_37 rfl (n := 38) rfl ?_
  refine G.iload C d2_38 rfl (n := 40) rfl ?_
  refine G.iloadN C d2_40 rfl (n := 41) rfl ?_
  refine G.imul C d2_41 (n := 42) rfl ?_
  refine G.fold_int (z := (0 : Int32)) (by decide) ?_
  refine G.iadd C d2_42 (n := 43) rfl ?_
  refine G.iload C d2_43 rfl (n := 45) rfl ?_
  refine G.iadd C d2_45 (n := 46) rfl ?_
  have x66 : (((o + (0 : Int32)) + (2 : Int32))).toInt = o.toInt + ((2 : Nat) : Int) := ixb (A := 0) (B := 2) (by decide) (by decide) (by decide) (by decide) (by decide) q_0 (bnd q_1 ql (by decide))
  refine G.baload C (x := e2) O62 (nn_of x66 q_0) (at_of x66 q_0 p2) d2_46 (n := 47) rfl ?_
  refine G.sipush C (v := (255 : Int32)) d2_47 (by decide) (n := 50) rfl ?_
  refine G.iand C d2_50 (n := 51) rfl ?_
  refine G.i2l C d2_51 (n := 52) rfl ?_
  refine G.lor C d2_52 (n := 53) rfl ?_
  refine G.fold_long (z := S0_2) s0_2 ?_
  refine G.lastore C O61 (by decide) (show (0 : Int32).toInt < ((1 : Nat) : Int) by decide) g8 d2_53 (n := 54) rfl ?_
  intro h67 K68 W69 O70
  have O71 : Longs Z h67 b2 [S0_2] := O70
  have O72 := O62.keep K68 (ninS ne7 nin0)
  have Z73 : n0 ≤ h67.size := Nat.le_trans Z63 K68.1
  have K74 : Keep h0 h67 [] := Keep.tr K64 K68 (allS (Or.inr f9) all0)
  refine G.iincK C (v := (-1 : Int32)) (z := (1 : Int32)) d2_54 (by decide) rfl (by decide) (l' := #[.val (.ref a), .val (.int o), .val (.int (1 : Int32)), .val (.int (8 : Int32)), .val (.ref b2), .val (.int (0 : Int32)), .val (.int (1 : Int32))]) rfl (n := 57) rfl ?_
  refine G.goto C d2_57 (by decide) (n := 19) (by decide) ?_
  refine G.iload C d2_19 rfl (n := 21) rfl ?_
  refine G.if_lt C (A := 1) (by decide) d2_21 (by decide) (by decide) (n := 24) (n' := 60) rfl (fun c21_75 => ?_) (fun c21_75 => ?_)
  · exact absurd c21_75 (by decide)
  refine G.aload C d2_24 rfl rfl (n := 26) rfl ?_
  refine G.iload C d2_26 rfl (n := 28) rfl ?_
  refine G.aload C d2_28 rfl rfl (n := 30) rfl ?_
  refine G.iload C d2_30 rfl (n := 32) rfl ?_
  refine G.laload C (x := S0_2) O71 (by decide) rfl d2_32 (n := 33) rfl ?_
  refine G.bipush C (v := (8 : Int32)) d2_33 (by decide) (n := 35) rfl ?_
  refine G.lshl C d2_35 (n := 36) rfl ?_
  refine G.aloadN C d2_36 rfl rfl (n := 37) rfl ?_
  refine G.iloadN C d2_37 rfl (n := 38) rfl ?_
  refine G.iload C d2_38 rfl (n := 40) rfl ?_
  refine G.iloadN C d2_40 rfl (n := 41) rfl ?_
  refine G.imul C d2_41 (n := 42) rfl ?_
  refine G.fold_int (z := (0 : Int32)) (by decide) ?_
  refine G.iadd C d2_42 (n := 43) rfl ?_
  refine G.iload C d2_43 rfl (n := 45) rfl ?_
  refine G.iadd C d2_45 (n := 46) rfl ?_
  have x76 : (((o + (0 : Int32)) + (1 : Int32))).toInt = o.toInt + ((1 : Nat) : Int) := ixb (A := 0) (B := 1) (by decide) (by decide) (by decide) (by decide) (by decide) q_0 (bnd q_1 ql (by decide))
  refine G.baload C (x := e1) O72 (nn_of x76 q_0) (at_of x76 q_0 p1) d2_46 (n := 47) rfl ?_
  refine G.sipush C (v := (255 : Int32)) d2_47 (by decide) (n := 50) rfl ?_
  refine G.iand C d2_50 (n := 51) rfl ?_
  refine G.i2l C d2_51 (n := 52) rfl ?_
  refine G.lor C d2_52 (n := 53) rfl ?_
  refine G.fold_long (z := S0_1) s0_1 ?_
  refine G.lastore C O71 (by decide) (show (0 : Int32).toInt < ((1 : Nat) : Int) by decide) g8 d2_53 (n := 54) rfl ?_
  intro h77 K78 W79 O80
  have O81 : Longs Z h77 b2 [S0_1] := O80
  have O82 := O72.keep K78 (ninS ne7 nin0)
  have Z83 : n0 ≤ h77.size := Nat.le_trans Z73 K78.1
  have K84 : Keep h0 h77 [] := Keep.tr K74 K78 (allS (Or.inr f9) all0)
  refine G.iincK C (v := (-1 : Int32)) (z := (0 : Int32)) d2_54 (by decide) rfl (by decide) (l' := #[.val (.ref a), .val (.int o), .val (.int (1 : Int32)), .val (.int (8 : Int32)), .val (.ref b2), .val (.int (0 : Int32)), .val (.int (0 : Int32))]) rfl (n := 57) rfl ?_
  refine G.goto C d2_57 (by decide) (n := 19) (by decide) ?_
  refine G.iload C d2_19 rfl (n := 21) rfl ?_
  refine G.if_lt C (A := 0) (by decide) d2_21 (by decide) (by decide) (n := 24) (n' := 60) rfl (fun c21_85 => ?_) (fun c21_85 => ?_)
  · exact absurd c21_85 (by decide)
  refine G.aload C d2_24 rfl rfl (n := 26) rfl ?_
  refine G.iload C d2_26 rfl (n := 28) rfl ?_
  refine G.aload C d2_28 rfl rfl (n := 30) rfl ?_
  refine G.iload C d2_30 rfl (n := 32) rfl ?_
  refine G.laload C (x := S0_1) O81 (by decide) rfl d2_32 (n := 33) rfl ?_
  refine G.bipush C (v := (8 : Int32)) d2_33 (by decide) (n := 35) rfl ?_
  refine G.lshl C d2_35 (n := 36) rfl ?_
  refine G.aloadN C d2_36 rfl rfl (n := 37) rfl ?_
  refine G.iloadN C d2_37 rfl (n := 38) rfl ?_
  refine G.iload C d2_38 rfl (n := 40) rfl ?_
  refine G.iloadN C d2_40 rfl (n := 41) rfl ?_
  refine G.imul C d2_41 (n := 42) rfl ?_
  refine G.fold_int (z := (0 : Int32)) (by decide) ?_
  refine G.iadd C d2_42 (n := 43) rfl ?_
  refine G.iload C d2_43 rfl (n := 45) rfl ?_
  refine G.iadd C d2_45 (n := 46) rfl ?_
  have x86 : (((o + (0 : Int32)) + (0 : Int32))).toInt = o.toInt + ((0 : Nat) : Int) := ixb (A := 0) (B := 0) (by decide) (by decide) (by decide) (by decide) (by decide) q_0 (bnd q_1 ql (by decide))
  refine G.baload C (x := e0) O82 (nn_of x86 q_0) (at_of x86 q_0 p0) d2_46 (n := 47) rfl ?_
  refine G.sipush C (v := (255 : Int32)) d2_47 (by decide) (n := 50) rfl ?_
  refine G.iand C d2_50 (n := 51) rfl ?_
  refine G.i2l C d2_51 (n := 52) rfl ?_
  refine G.lor C d2_52 (n := 53) rfl ?_
  refine G.fold_long (z := S0_0) s0_0 ?_
  refine G.lastore C O81 (by decide) (show (0 : Int32).toInt < ((1 : Nat) : Int) by decide) g8 d2_53 (n := 54) rfl ?_
  intro h87 K88 W89 O90
  have O91 : Longs Z h87 b2 [S0_0] := O90
  have O92 := O82.keep K88 (ninS ne7 nin0)
  have Z93 : n0 ≤ h87.size := Nat.le_trans Z83 K88.1
  have K94 : Keep h0 h87 [] := Keep.tr K84 K88 (allS (Or.inr f9) all0)
  refine G.iincK C (v := (-1 : Int32)) (z := (-1 : Int32)) d2_54 (by decide) rfl (by decide) (l' := #[.val (.ref a), .val (.int o), .val (.int (1 : Int32)), .val (.int (8 : Int32)), .val (.ref b2), .val (.int (0 : Int32)), .val (.int (-1 : Int32))]) rfl (n := 57) rfl ?_
  refine G.goto C d2_57 (by decide) (n := 19) (by decide) ?_
  refine G.iload C d2_19 rfl (n := 21) rfl ?_
  refine G.if_lt C (A := (-1)) (by decide) d2_21 (by decide) (by decide) (n := 24) (n' := 60) rfl (fun c21_95 => ?_) (fun c21_95 => ?_)
  rotate_left
  · exact absurd c21_95 (by decide)
  refine G.iincK C (v := (1 : Int32)) (z := (1 : Int32)) d2_60 (by decide) rfl (by decide) (l' := #[.val (.ref a), .val (.int o), .val (.int (1 : Int32)), .val (.int (8 : Int32)), .val (.ref b2), .val (.int (1 : Int32)), .val (.int (-1 : Int32))]) rfl (n := 63) rfl ?_
  refine G.goto C d2_63 (by decide) (n := 8) (by decide) ?_
  refine G.iload C d2_8 rfl (n := 10) rfl ?_
  refine G.iloadN C d2_10 rfl (n := 11) rfl ?_
  refine G.icmp_ge C (A := 1) (B := 1) (by decide) (by decide) d2_11 (by decide) (by decide) (n := 14) (n' := 66) rfl (fun c11_96 => ?_) (fun c11_96 => ?_)
  rotate_left
  · exact absurd c11_96 (by decide)
  refine G.aload C d2_66 rfl rfl (n := 68) rfl ?_
  refine G.areturn C d2_68 rfl rfl rfl (by decide) (by decide) ?_
  exact ⟨b2, rfl, f9, K94, O91⟩
theorem ef4 (m : MethodId) (a : Addr) (o : Int32) : entryFrame m #[(.ref a), (.int o), (.int (2 : Int32)), (.int (8 : Int32))] 7 = mkF m 0 #[.val (.ref a), .val (.int o), .val (.int (2 : Int32)), .val (.int (8 : Int32)), .unset, .unset, .unset] [] := by first | (simp [entryFrame, mkF, argsToLocals, Value.category]; done) | rfl
abbrev Q_read_8_2 (Z : State) (h0 : Heap) (a : Addr) (o : Int32) (bs : List Int32) (e0 : Int32) (e1 : Int32) (e2 : Int32) (e3 : Int32) (e4 : Int32) (e5 : Int32) (e6 : Int32) (e7 : Int32) (e8 : Int32) (e9 : Int32) (e10 : Int32) (e11 : Int32) (e12 : Int32) (e13 : Int32) (e14 : Int32) (e15 : Int32) (S0_0 : Int64) (S0_1 : Int64) (S0_2 : Int64) (S0_3 : Int64) (S0_4 : Int64) (S0_5 : Int64) (S0_6 : Int64) (S0_7 : Int64) (S1_0 : Int64) (S1_1 : Int64) (S1_2 : Int64) (S1_3 : Int64) (S1_4 : Int64) (S1_5 : Int64) (S1_6 : Int64) (S1_7 : Int64) : Option Value → Heap → Prop := fun v h' => ∃ b, v = some (.ref b) ∧ h0.size ≤ b ∧ Keep h0 h' [] ∧ Longs Z h' b [S0_0, S1_0]
abbrev R_read_8_2 : Room := { frames := 0, cells := 1, slots := 2, locals := 0 }
set_option maxRecDepth 65536 in
set_option maxHeartbeats 40000000 in
theorem m_read_8_2 (l : Launch) (Z : State) (a0 : Array Value) (hw : ∀ d ∈ tables_1, d.before a0 Z = true) (a : Addr) (o : Int32) (bs : List Int32) (e0 : Int32) (e1 : Int32) (e2 : Int32) (e3 : Int32) (e4 : Int32) (e5 : Int32) (e6 : Int32) (e7 : Int32) (e8 : Int32) (e9 : Int32) (e10 : Int32) (e11 : Int32) (e12 : Int32) (e13 : Int32) (e14 : Int32) (e15 : Int32) (S0_0 : Int64) (S0_1 : Int64) (S0_2 : Int64) (S0_3 : Int64) (S0_4 : Int64) (S0_5 : Int64) (S0_6 : Int64) (S0_7 : Int64) (S1_0 : Int64) (S1_1 : Int64) (S1_2 : Int64) (S1_3 : Int64) (S1_4 : Int64) (S1_5 : Int64) (S1_6 : Int64) (S1_7 : Int64) (h0 : Heap) (n0 : Nat) (Z0 : n0 ≤ h0.size) (O_a : Ints Z h0 a .byte bs) (q_0 : 0 ≤ o.toInt) (q_1 : o.toInt + 16 ≤ bs.length) (p0 : bs[o.toInt.toNat + 0]? = some e0) (p1 : bs[o.toInt.toNat + 1]? = some e1) (p2 : bs[o.toInt.toNat + 2]? = some e2) (p3 : bs[o.toInt.toNat + 3]? = some e3) (p4 : bs[o.toInt.toNat + 4]? = some e4) (p5 : bs[o.toInt.toNat + 5]? = some e5) (p6 : bs[o.toInt.toNat + 6]? = some e6) (p7 : bs[o.toInt.toNat + 7]? = some e7) (p8 : bs[o.toInt.toNat + 8]? = some e8) (p9 : bs[o.toInt.toNat + 9]? = some e9) (p10 : bs[o.toInt.toNat + 10]? = some e10) (p11 : bs[o.toInt.toNat + 11]? = some e11) (p12 : bs[o.toInt.toNat + 12]? = some e12) (p13 : bs[o.toInt.toNat + 13]? = some e13) (p14 : bs[o.toInt.toNat + 14]? = some e14) (p15 : bs[o.toInt.toNat + 15]? = some e15) (s0_7 : (((0 : Int64) <<< ((8 : Int32) &&& 0x3f).toInt64) ||| ((e7 &&& (255 : Int32)).toInt64)) = S0_7) (s0_6 : ((S0_7 <<< ((8 : Int32) &&& 0x3f).toInt64) ||| ((e6 &&& (255 : Int32)).toInt64)) = S0_6) (s0_5 : ((S0_6 <<< ((8 : Int32) &&& 0x3f).toInt64) ||| ((e5 &&& (255 : Int32)).toInt64)) = S0_5) (s0_4 : ((S0_5 <<< ((8 : Int32) &&& 0x3f).toInt64) ||| ((e4 &&& (255 : Int32)).toInt64)) = S0_4) (s0_3 : ((S0_4 <<< ((8 : Int32) &&& 0x3f).toInt64) ||| ((e3 &&& (255 : Int32)).toInt64)) = S0_3) (s0_2 : ((S0_3 <<< ((8 : Int32) &&& 0x3f).toInt64) ||| ((e2 &&& (255 : Int32)).toInt64)) = S0_2) (s0_1 : ((S0_2 <<< ((8 : Int32) &&& 0x3f).toInt64) ||| ((e1 &&& (255 : Int32)).toInt64)) = S0_1) (s0_0 : ((S0_1 <<< ((8 : Int32) &&& 0x3f).toInt64) ||| ((e0 &&& (255 : Int32)).toInt64)) = S0_0) (s1_7 : (((0 : Int64) <<< ((8 : Int32) &&& 0x3f).toInt64) ||| ((e15 &&& (255 : Int32)).toInt64)) = S1_7) (s1_6 : ((S1_7 <<< ((8 : Int32) &&& 0x3f).toInt64) ||| ((e14 &&& (255 : Int32)).toInt64)) = S1_6) (s1_5 : ((S1_6 <<< ((8 : Int32) &&& 0x3f).toInt64) ||| ((e13 &&& (255 : Int32)).toInt64)) = S1_5) (s1_4 : ((S1_5 <<< ((8 : Int32) &&& 0x3f).toInt64) ||| ((e12 &&& (255 : Int32)).toInt64)) = S1_4) (s1_3 : ((S1_4 <<< ((8 : Int32) &&& 0x3f).toInt64) ||| ((e11 &&& (255 : Int32)).toInt64)) = S1_3) (s1_2 : ((S1_3 <<< ((8 : Int32) &&& 0x3f).toInt64) ||| ((e10 &&& (255 : Int32)).toInt64)) = S1_2) (s1_1 : ((S1_2 <<< ((8 : Int32) &&& 0x3f).toInt64) ||| ((e9 &&& (255 : Int32)).toInt64)) = S1_1) (s1_0 : ((S1_1 <<< ((8 : Int32) &&& 0x3f).toInt64) ||| ((e8 &&& (255 : Int32)).toInt64)) = S1_0) : Met l Z (⟨"com/example/parley/parley/KeySketch", "read", "([BIII)[J"⟩ : MethodName) prog_15_method_11_code 7 (some (.array .long)) R_read_8_2 #[(.ref a), (.int o), (.int (2 : Int32)), (.int (8 : Int32))] h0 n0 (Q_read_8_2 Z h0 a o bs e0 e1 e2 e3 e4 e5 e6 e7 e8 e9 e10 e11 e12 e13 e14 e15 S0_0 S0_1 S0_2 S0_3 S0_4 S0_5 S0_6 S0_7 S1_0 S1_1 S1_2 S1_3 S1_4 S1_5 S1_6 S1_7) := by
  refine Met.of (plainFor_of_name pn1) (fun m => ef4 m a o) ?_
  intro p e s m args below meth c C
  have ql := O_a.len
  refine G.iloadN C d2_0 rfl (n := 1) rfl ?_
  refine G.newarrayJ C (ty := .long) (cap := 2) (wd hw 10 rfl) rfl rfl rfl (by decide) (by decide) (by decide) d2_1 (n := 3) rfl (c' := 1) (s' := 2) rfl rfl (by decide) (by decide) ?_
  intro h1 b2 q3 E4 O5
  have O6 : Longs Z h1 b2 [0, 0] := O5
  have ne7 : a ≠ b2 := Nat.ne_of_lt (Nat.lt_of_lt_of_le O_a.lt (Nat.le_of_eq q3.symm))
  have g8 : n0 ≤ b2 := Nat.le_trans Z0 (Nat.le_of_eq q3.symm)
  have f9 : h0.size ≤ b2 := Nat.le_trans (Keep.refl h0 []).1 (Nat.le_of_eq q3.symm)
  have K10 := kext E4
  have O11 := O_a.keep K10 nin0
  have Z12 : n0 ≤ h1.size := Nat.le_trans Z0 K10.1
  have K13 : Keep h0 h1 [] := Keep.tr (Keep.refl h0 _) K10 all0
  refine G.astore C d2_3 rfl (l' := #[.val (.ref a), .val (.int o), .val (.int (2 : Int32)), .val (.int (8 : Int32)), .val (.ref b2), .unset, .unset]) rfl (n := 5) rfl ?_
  refine G.iconst C (v := (0 : Int32)) d2_5 (by decide) (n := 6) rfl ?_
  refine G.istore C d2_6 (l' := #[.val (.ref a), .val (.int o), .val (.int (2 : Int32)), .val (.int (8 : Int32)), .val (.ref b2), .val (.int (0 : Int32)), .unset]) rfl (n := 8) rfl ?_
  refine G.iload C d2_8 rfl (n := 10) rfl ?_
  refine G.iloadN C d2_10 rfl (n := 11) rfl ?_
  refine G.icmp_ge C (A := 0) (B := 2) (by decide) (by decide) d2_11 (by decide) (by decide) (n := 14) (n' := 66) rfl (fun c11_14 => ?_) (fun c11_14 => ?_)
  · exact absurd c11_14 (by decide)
  refine G.iloadN C d2_14 rfl (n := 15) rfl ?_
  refine G.iconst C (v := (1 : Int32)) d2_15 (by decide) (n := 16) rfl ?_
  refine G.isub C d2_16 (n := 17) rfl ?_
  refine G.fold_int (z := (7 : Int32)) (by decide) ?_
  refine G.istore C d2_17 (l' := #[.val (.ref a), .val (.int o), .val (.int (2 : Int32)), .val (.int (8 : Int32)), .val (.ref b2), .val (.int (0 : Int32)), .val (.int (7 : Int32))]) rfl (n := 19) rfl ?_
  refine G.iload C d2_19 rfl (n := 21) rfl ?_
  refine G.if_lt C (A := 7) (by decide) d2_21 (by decide) (by decide) (n := 24) (n' := 60) rfl (fun c21_15 => ?_) (fun c21_15 => ?_)
  · exact absurd c21_15 (by decide)
  refine G.aload C d2_24 rfl rfl (n := 26) rfl ?_
  refine G.iload C d2_26 rfl (n := 28) rfl ?_
  refine G.aload C d2_28 rfl rfl (n := 30) rfl ?_
  refine G.iload C d2_30 rfl (n := 32) rfl ?_
  refine G.laload C (x := 0) O6 (by decide) rfl d2_32 (n := 33) rfl ?_
  refine G.bipush C (v := (8 : Int32)) d2_33 (by decide) (n := 35) rfl ?_
  refine G.lshl C d2_35 (n := 36) rfl ?_
  refine G.aloadN C d2_36 rfl rfl (n := 37) rfl ?_
  refine G.iloadN C d2_37 rfl (n := 38) rfl ?_
  refine G.iload C d2_38 rfl (n := 40) rfl ?_
  refine G.iloadN C d2_40 rfl (n := 41) rfl ?_
  refine G.imul C d2_41 (n := 42) rfl ?_
  refine G.fold_int (z := (0 : Int32)) (by decide) ?_
  refine G.iadd C d2_42 (n := 43) rfl ?_
  refine G.iload C d2_43 rfl (n := 45) rfl ?_
  refine G.iadd C d2_45 (n := 46) rfl ?_
  have x16 : (((o + (0 : Int32)) + (7 : Int32))).toInt = o.toInt + ((7 : Nat) : Int) := ixb (A := 0) (B := 7) (by decide) (by decide) (by decide) (by decide) (by decide) q_0 (bnd q_1 ql (by decide))
  refine G.baload C (x := e7) O11 (nn_of x16 q_0) (at_of x16 q_0 p7) d2_46 (n := 47) rfl ?_
  refine G.sipush C (v := (255 : Int32)) d2_47 (by decide) (n := 50) rfl ?_
  refine G.iand C d2_50 (n := 51) rfl ?_
  refine G.i2l C d2_51 (n := 52) rfl ?_
  refine G.lor C d2_52 (n := 53) rfl ?_
  refine G.fold_long (z := S0_7) s0_7 ?_
  refine G.lastore C O6 (by decide) (show (0 : Int32).toInt < ((2 : Nat) : Int) by decide) g8 d2_53 (n := 54) rfl ?_
  intro h17 K18 W19 O20
  have O21 : Longs Z h17 b2 [S0_7, 0] := O20
  have O22 := O11.keep K18 (ninS ne7 nin0)
  have Z23 : n0 ≤ h17.size := Nat.le_trans Z12 K18.1
  have K24 : Keep h0 h17 [] := Keep.tr K13 K18 (allS (Or.inr f9) all0)
  refine G.iincK C (v := (-1 : Int32)) (z := (6 : Int32)) d2_54 (by decide) rfl (by decide) (l' := #[.val (.ref a), .val (.int o), .val (.int (2 : Int32)), .val (.int (8 : Int32)), .val (.ref b2), .val (.int (0 : Int32)), .val (.int (6 : Int32))]) rfl (n := 57) rfl ?_
  refine G.goto C d2_57 (by decide) (n := 19) (by decide) ?_
  refine G.iload C d2_19 rfl (n := 21) rfl ?_
  refine G.if_lt C (A := 6) (by decide) d2_21 (by decide) (by decide) (n := 24) (n' := 60) rfl (fun c21_25 => ?_) (fun c21_25 => ?_)
  · exact absurd c21_25 (by decide)
  refine G.aload C d2_24 rfl rfl (n := 26) rfl ?_
  refine G.iload C d2_26 rfl (n := 28) rfl ?_
  refine G.aload C d2_28 rfl rfl (n := 30) rfl ?_
  refine G.iload C d2_30 rfl (n := 32) rfl ?_
  refine G.laload C (x := S0_7) O21 (by decide) rfl d2_32 (n := 33) rfl ?_
  refine G.bipush C (v := (8 : Int32)) d2_33 (by decide) (n := 35) rfl ?_
  refine G.lshl C d2_35 (n := 36) rfl ?_
  refine G.aloadN C d2_36 rfl rfl (n := 37) rfl ?_
  refine G.iloadN C d2_37 rfl (n := 38) rfl ?_
  refine G.iload C d2_38 rfl (n := 40) rfl ?_
  refine G.iloadN C d2_40 rfl (n := 41) rfl ?_
  refine G.imul C d2_41 (n := 42) rfl ?_
  refine G.fold_int (z := (0 : Int32)) (by decide) ?_
  refine G.iadd C d2_42 (n := 43) rfl ?_
  refine G.iload C d2_43 rfl (n := 45) rfl ?_
  refine G.iadd C d2_45 (n := 46) rfl ?_
  have x26 : (((o + (0 : Int32)) + (6 : Int32))).toInt = o.toInt + ((6 : Nat) : Int) := ixb (A := 0) (B := 6) (by decide) (by decide) (by decide) (by decide) (by decide) q_0 (bnd q_1 ql (by decide))
  refine G.baload C (x := e6) O22 (nn_of x26 q_0) (at_of x26 q_0 p6) d2_46 (n := 47) rfl ?_
  refine G.sipush C (v := (255 : Int32)) d2_47 (by decide) (n := 50) rfl ?_
  refine G.iand C d2_50 (n := 51) rfl ?_
  refine G.i2l C d2_51 (n := 52) rfl ?_
  refine G.lor C d2_52 (n := 53) rfl ?_
  refine G.fold_long (z := S0_6) s0_6 ?_
  refine G.lastore C O21 (by decide) (show (0 : Int32).toInt < ((2 : Nat) : Int) by decide) g8 d2_53 (n := 54) rfl ?_
  intro h27 K28 W29 O30
  have O31 : Longs Z h27 b2 [S0_6, 0] := O30
  have O32 := O22.keep K28 (ninS ne7 nin0)
  have Z33 : n0 ≤ h27.size := Nat.le_trans Z23 K28.1
  have K34 : Keep h0 h27 [] := Keep.tr K24 K28 (allS (Or.inr f9) all0)
  refine G.iincK C (v := (-1 : Int32)) (z := (5 : Int32)) d2_54 (by decide) rfl (by decide) (l' := #[.val (.ref a), .val (.int o), .val (.int (2 : Int32)), .val (.int (8 : Int32)), .val (.ref b2), .val (.int (0 : Int32)), .val (.int (5 : Int32))]) rfl (n := 57) rfl ?_
  refine G.goto C d2_57 (by decide) (n := 19) (by decide) ?_
  refine G.iload C d2_19 rfl (n := 21) rfl ?_
  refine G.if_lt C (A := 5) (by decide) d2_21 (by decide) (by decide) (n := 24) (n' := 60) rfl (fun c21_35 => ?_) (fun c21_35 => ?_)
  · exact absurd c21_35 (by decide)
  refine G.aload C d2_24 rfl rfl (n := 26) rfl ?_
  refine G.iload C d2_26 rfl (n := 28) rfl ?_
  refine G.aload C d2_28 rfl rfl (n := 30) rfl ?_
  refine G.iload C d2_30 rfl (n := 32) rfl ?_
  refine G.laload C (x := S0_6) O31 (by decide) rfl d2_32 (n := 33) rfl ?_
  refine G.bipush C (v := (8 : Int32)) d2_33 (by decide) (n := 35) rfl ?_
  refine G.lshl C d2_35 (n := 36) rfl ?_
  refine G.aloadN C d2_36 rfl rfl (n := 37) rfl ?_
  refine G.iloadN C d2_37 rfl (n := 38) rfl ?_
  refine G.iload C d2_38 rfl (n := 40) rfl ?_
  refine G.iloadN C d2_40 rfl (n := 41) rfl ?_
  refine G.imul C d2_41 (n := 42) rfl ?_
  refine G.fold_int (z := (0 : Int32)) (by decide) ?_
  refine G.iadd C d2_42 (n := 43) rfl ?_
  refine G.iload C d2_43 rfl (n := 45) rfl ?_
  refine G.iadd C d2_45 (n := 46) rfl ?_
  have x36 : (((o + (0 : Int32)) + (5 : Int32))).toInt = o.toInt + ((5 : Nat) : Int) := ixb (A := 0) (B := 5) (by decide) (by decide) (by decide) (by decide) (by decide) q_0 (bnd q_1 ql (by decide))
  refine G.baload C (x := e5) O32 (nn_of x36 q_0) (at_of x36 q_0 p5) d2_46 (n := 47) rfl ?_
  refine G.sipush C (v := (255 : Int32)) d2_47 (by decide) (n := 50) rfl ?_
  refine G.iand C d2_50 (n := 51) rfl ?_
  refine G.i2l C d2_51 (n := 52) rfl ?_
  refine G.lor C d2_52 (n := 53) rfl ?_
  refine G.fold_long (z := S0_5) s0_5 ?_
  refine G.lastore C O31 (by decide) (show (0 : Int32).toInt < ((2 : Nat) : Int) by decide) g8 d2_53 (n := 54) rfl ?_
  intro h37 K38 W39 O40
  have O41 : Longs Z h37 b2 [S0_5, 0] := O40
  have O42 := O32.keep K38 (ninS ne7 nin0)
  have Z43 : n0 ≤ h37.size := Nat.le_trans Z33 K38.1
  have K44 : Keep h0 h37 [] := Keep.tr K34 K38 (allS (Or.inr f9) all0)
  refine G.iincK C (v := (-1 : Int32)) (z := (4 : Int32)) d2_54 (by decide) rfl (by decide) (l' := #[.val (.ref a), .val (.int o), .val (.int (2 : Int32)), .val (.int (8 : Int32)), .val (.ref b2), .val (.int (0 : Int32)), .val (.int (4 : Int32))]) rfl (n := 57) rfl ?_
  refine G.goto C d2_57 (by decide) (n := 19) (by decide) ?_
  refine G.iload C d2_19 rfl (n := 21) rfl ?_
  refine G.if_lt C (A := 4) (by decide) d2_21 (by decide) (by decide) (n := 24) (n' := 60) rfl (fun c21_45 => ?_) (fun c21_45 => ?_)
  · exact absurd c21_45 (by decide)
  refine G.aload C d2_24 rfl rfl (n := 26) rfl ?_
  refine G.iload C d2_26 rfl (n := 28) rfl ?_
  refine G.aload C d2_28 rfl rfl (n := 30) rfl ?_
  refine G.iload C d2_30 rfl (n := 32) rfl ?_
  refine G.laload C (x := S0_5) O41 (by decide) rfl d2_32 (n := 33) rfl ?_
  refine G.bipush C (v := (8 : Int32)) d2_33 (by decide) (n := 35) rfl ?_
  refine G.lshl C d2_35 (n := 36) rfl ?_
  refine G.aloadN C d2_36 rfl rfl (n := 37) rfl ?_
  refine G.iloadN C d2_37 rfl (n := 38) rfl ?_
  refine G.iload C d2_38 rfl (n := 40) rfl ?_
  refine G.iloadN C d2_40 rfl (n := 41) rfl ?_
  refine G.imul C d2_41 (n := 42) rfl ?_
  refine G.fold_int (z := (0 : Int32)) (by decide) ?_
  refine G.iadd C d2_42 (n := 43) rfl ?_
  refine G.iload C d2_43 rfl (n := 45) rfl ?_
  refine G.iadd C d2_45 (n := 46) rfl ?_
  have x46 : (((o + (0 : Int32)) + (4 : Int32))).toInt = o.toInt + ((4 : Nat) : Int) := ixb (A := 0) (B := 4) (by decide) (by decide) (by decide) (by decide) (by decide) q_0 (bnd q_1 ql (by decide))
  refine G.baload C (x := e4) O42 (nn_of x46 q_0) (at_of x46 q_0 p4) d2_46 (n := 47) rfl ?_
  refine G.sipush C (v := (255 : Int32)) d2_47 (by decide) (n := 50) rfl ?_
  refine G.iand C d2_50 (n := 51) rfl ?_
  refine G.i2l C d2_51 (n := 52) rfl ?_
  refine G.lor C d2_52 (n := 53) rfl ?_
  refine G.fold_long (z := S0_4) s0_4 ?_
  refine G.lastore C O41 (by decide) (show (0 : Int32).toInt < ((2 : Nat) : Int) by decide) g8 d2_53 (n := 54) rfl ?_
  intro h47 K48 W49 O50
  have O51 : Longs Z h47 b2 [S0_4, 0] := O50
  have O52 := O42.keep K48 (ninS ne7 nin0)
  have Z53 : n0 ≤ h47.size := Nat.le_trans Z43 K48.1
  have K54 : Keep h0 h47 [] := Keep.tr K44 K48 (allS (Or.inr f9) all0)
  refine G.iincK C (v := (-1 : Int32)) (z := (3 : Int32)) d2_54 (by decide) rfl (by decide) (l' := #[.val (.ref a), .val (.int o), .val (.int (2 : Int32)), .val (.int (8 : Int32)), .val (.ref b2), .val (.int (0 : Int32)), .val (.int (3 : Int32))]) rfl (n := 57) rfl ?_
  refine G.goto C d2_57 (by decide) (n := 19) (by decide) ?_
  refine G.iload C d2_19 rfl (n := 21) rfl ?_
  refine G.if_lt C (A := 3) (by decide) d2_21 (by decide) (by decide) (n := 24) (n' := 60) rfl (fun c21_55 => ?_) (fun c21_55 => ?_)
  · exact absurd c21_55 (by decide)
  refine G.aload C d2_24 rfl rfl (n := 26) rfl ?_
  refine G.iload C d2_26 rfl (n := 28) rfl ?_
  refine G.aload C d2_28 rfl rfl (n := 30) rfl ?_
  refine G.iload C d2_30 rfl (n := 32) rfl ?_
  refine G.laload C (x := S0_4) O51 (by decide) rfl d2_32 (n := 33) rfl ?_
  refine G.bipush C (v := (8 : Int32)) d2_33 (by decide) (n := 35) rfl ?_
  refine G.lshl C d2_35 (n := 36) rfl ?_
  refine G.aloadN C d2_36 rfl rfl (n := 37) rfl ?_
  refine G.iloadN C d2_37 rfl (n := 38) rfl ?_
  refine G.iload C d2_38 rfl (n := 40) rfl ?_
  refine G.iloadN C d2_40 rfl (n := 41) rfl ?_
  refine G.imul C d2_41 (n := 42) rfl ?_
  refine G.fold_int (z := (0 : Int32)) (by decide) ?_
  refine G.iadd C d2_42 (n := 43) rfl ?_
  refine G.iload C d2_43 rfl (n := 45) rfl ?_
  refine G.iadd C d2_45 (n := 46) rfl ?_
  have x56 : (((o + (0 : Int32)) + (3 : Int32))).toInt = o.toInt + ((3 : Nat) : Int) := ixb (A := 0) (B := 3) (by decide) (by decide) (by decide) (by decide) (by decide) q_0 (bnd q_1 ql (by decide))
  refine G.baload C (x := e3) O52 (nn_of x56 q_0) (at_of x56 q_0 p3) d2_46 (n := 47) rfl ?_
  refine G.sipush C (v := (255 : Int32)) d2_47 (by decide) (n := 50) rfl ?_
  refine G.iand C d2_50 (n := 51) rfl ?_
  refine G.i2l C d2_51 (n := 52) rfl ?_
  refine G.lor C d2_52 (n := 53) rfl ?_
  refine G.fold_long (z := S0_3) s0_3 ?_
  refine G.lastore C O51 (by decide) (show (0 : Int32).toInt < ((2 : Nat) : Int) by decide) g8 d2_53 (n := 54) rfl ?_
  intro h57 K58 W59 O60
  have O61 : Longs Z h57 b2 [S0_3, 0] := O60
  have O62 := O52.keep K58 (ninS ne7 nin0)
  have Z63 : n0 ≤ h57.size := Nat.le_trans Z53 K58.1
  have K64 : Keep h0 h57 [] := Keep.tr K54 K58 (allS (Or.inr f9) all0)
  refine G.iincK C (v := (-1 : Int32)) (z := (2 : Int32)) d2_54 (by decide) rfl (by decide) (l' := #[.val (.ref a), .val (.int o), .val (.int (2 : Int32)), .val (.int (8 : Int32)), .val (.ref b2), .val (.int (0 : Int32)), .val (.int (2 : Int32))]) rfl (n := 57) rfl ?_
  refine G.goto C d2_57 (by decide) (n := 19) (by decide) ?_
  refine G.iload C d2_19 rfl (n := 21) rfl ?_
  refine G.if_lt C (A := 2) (by decide) d2_21 (by decide) (by decide) (n := 24) (n' := 60) rfl (fun c21_65 => ?_) (fun c21_65 => ?_)
  · exact absurd c21_65 (by decide)
  refine G.aload C d2_24 rfl rfl (n := 26) rfl ?_
  refine G.iload C d2_26 rfl (n := 28) rfl ?_
  refine G.aload C d2_28 rfl rfl (n := 30) rfl ?_
  refine G.iload C d2_30 rfl (n := 32) rfl ?_
  refine G.laload C (x := S0_3) O61 (by decide) rfl d2_32 (n := 33) rfl ?_
  refine G.bipush C (v := (8 : Int32)) d2_33 (by decide) (n := 35) rfl ?_
  refine G.lshl C d2_35 (n := 36) rfl ?_
  refine G.aloadN C d2_36 rfl rfl (n := 37) rfl ?_
  refine G.iloadN C d2_37 rfl (n := 38) rfl ?_
  refine G.iload C d2_38 rfl (n := 40) rfl ?_
  refine G.iloadN C d2_40 rfl (n := 41) rfl ?_
  refine G.imul C d2_41 (n := 42) rfl ?_
  refine G.fold_int (z := (0 : Int32)) (by decide) ?_
  refine G.iadd C d2_42 (n := 43) rfl ?_
  refine G.iload C d2_43 rfl (n := 45) rfl ?_
  refine G.iadd C d2_45 (n := 46) rfl ?_
  have x66 : (((o + (0 : Int32)) + (2 : Int32))).toInt = o.toInt + ((2 : Nat) : Int) := ixb (A := 0) (B := 2) (by decide) (by decide) (by decide) (by decide) (by decide) q_0 (bnd q_1 ql (by decide))
  refine G.baload C (x := e2) O62 (nn_of x66 q_0) (at_of x66 q_0 p2) d2_46 (n := 47) rfl ?_
  refine G.sipush C (v := (255 : Int32)) d2_47 (by decide) (n := 50) rfl ?_
  refine G.iand C d2_50 (n := 51) rfl ?_
  refine G.i2l C d2_51 (n := 52) rfl ?_
  refine G.lor C d2_52 (n := 53) rfl ?_
  refine G.fold_long (z := S0_2) s0_2 ?_
  refine G.lastore C O61 (by decide) (show (0 : Int32).toInt < ((2 : Nat) : Int) by decide) g8 d2_53 (n := 54) rfl ?_
  intro h67 K68 W69 O70
  have O71 : Longs Z h67 b2 [S0_2, 0] := O70
  have O72 := O62.keep K68 (ninS ne7 nin0)
  have Z73 : n0 ≤ h67.size := Nat.le_trans Z63 K68.1
  have K74 : Keep h0 h67 [] := Keep.tr K64 K68 (allS (Or.inr f9) all0)
  refine G.iincK C (v := (-1 : Int32)) (z := (1 : Int32)) d2_54 (by decide) rfl (by decide) (l' := #[.val (.ref a), .val (.int o), .val (.int (2 : Int32)), .val (.int (8 : Int32)), .val (.ref b2), .val (.int (0 : Int32)), .val (.int (1 : Int32))]) rfl (n := 57) rfl ?_
  refine G.goto C d2_57 (by decide) (n := 19) (by decide) ?_
  refine G.iload C d2_19 rfl (n := 21) rfl ?_
  refine G.if_lt C (A := 1) (by decide) d2_21 (by decide) (by decide) (n := 24) (n' := 60) rfl (fun c21_75 => ?_) (fun c21_75 => ?_)
  · exact absurd c21_75 (by decide)
  refine G.aload C d2_24 rfl rfl (n := 26) rfl ?_
  refine G.iload C d2_26 rfl (n := 28) rfl ?_
  refine G.aload C d2_28 rfl rfl (n := 30) rfl ?_
  refine G.iload C d2_30 rfl (n := 32) rfl ?_
  refine G.laload C (x := S0_2) O71 (by decide) rfl d2_32 (n := 33) rfl ?_
  refine G.bipush C (v := (8 : Int32)) d2_33 (by decide) (n := 35) rfl ?_
  refine G.lshl C d2_35 (n := 36) rfl ?_
  refine G.aloadN C d2_36 rfl rfl (n := 37) rfl ?_
  refine G.iloadN C d2_37 rfl (n := 38) rfl ?_
  refine G.iload C d2_38 rfl (n := 40) rfl ?_
  refine G.iloadN C d2_40 rfl (n := 41) rfl ?_
  refine G.imul C d2_41 (n := 42) rfl ?_
  refine G.fold_int (z := (0 : Int32)) (by decide) ?_
  refine G.iadd C d2_42 (n := 43) rfl ?_
  refine G.iload C d2_43 rfl (n := 45) rfl ?_
  refine G.iadd C d2_45 (n := 46) rfl ?_
  have x76 : (((o + (0 : Int32)) + (1 : Int32))).toInt = o.toInt + ((1 : Nat) : Int) := ixb (A := 0) (B := 1) (by decide) (by decide) (by decide) (by decide) (by decide) q_0 (bnd q_1 ql (by decide))
  refine G.baload C (x := e1) O72 (nn_of x76 q_0) (at_of x76 q_0 p1) d2_46 (n := 47) rfl ?_
  refine G.sipush C (v := (255 : Int32)) d2_47 (by decide) (n := 50) rfl ?_
  refine G.iand C d2_50 (n := 51) rfl ?_
  refine G.i2l C d2_51 (n := 52) rfl ?_
  refine G.lor C d2_52 (n := 53) rfl ?_
  refine G.fold_long (z := S0_1) s0_1 ?_
  refine G.lastore C O71 (by decide) (show (0 : Int32).toInt < ((2 : Nat) : Int) by decide) g8 d2_53 (n := 54) rfl ?_
  intro h77 K78 W79 O80
  have O81 : Longs Z h77 b2 [S0_1, 0] := O80
  have O82 := O72.keep K78 (ninS ne7 nin0)
  have Z83 : n0 ≤ h77.size := Nat.le_trans Z73 K78.1
  have K84 : Keep h0 h77 [] := Keep.tr K74 K78 (allS (Or.inr f9) all0)
  refine G.iincK C (v := (-1 : Int32)) (z := (0 : Int32)) d2_54 (by decide) rfl (by decide) (l' := #[.val (.ref a), .val (.int o), .val (.int (2 : Int32)), .val (.int (8 : Int32)), .val (.ref b2), .val (.int (0 : Int32)), .val (.int (0 : Int32))]) rfl (n := 57) rfl ?_
  refine G.goto C d2_57 (by decide) (n := 19) (by decide) ?_
  refine G.iload C d2_19 rfl (n := 21) rfl ?_
  refine G.if_lt C (A := 0) (by decide) d2_21 (by decide) (by decide) (n := 24) (n' := 60) rfl (fun c21_85 => ?_) (fun c21_85 => ?_)
  · exact absurd c21_85 (by decide)
  refine G.aload C d2_24 rfl rfl (n := 26) rfl ?_
  refine G.iload C d2_26 rfl (n := 28) rfl ?_
  refine G.aload C d2_28 rfl rfl (n := 30) rfl ?_
  refine G.iload C d2_30 rfl (n := 32) rfl ?_
  refine G.laload C (x := S0_1) O81 (by decide) rfl d2_32 (n := 33) rfl ?_
  refine G.bipush C (v := (8 : Int32)) d2_33 (by decide) (n := 35) rfl ?_
  refine G.lshl C d2_35 (n := 36) rfl ?_
  refine G.aloadN C d2_36 rfl rfl (n := 37) rfl ?_
  refine G.iloadN C d2_37 rfl (n := 38) rfl ?_
  refine G.iload C d2_38 rfl (n := 40) rfl ?_
  refine G.iloadN C d2_40 rfl (n := 41) rfl ?_
  refine G.imul C d2_41 (n := 42) rfl ?_
  refine G.fold_int (z := (0 : Int32)) (by decide) ?_
  refine G.iadd C d2_42 (n := 43) rfl ?_
  refine G.iload C d2_43 rfl (n := 45) rfl ?_
  refine G.iadd C d2_45 (n := 46) rfl ?_
  have x86 : (((o + (0 : Int32)) + (0 : Int32))).toInt = o.toInt + ((0 : Nat) : Int) := ixb (A := 0) (B := 0) (by decide) (by decide) (by decide) (by decide) (by decide) q_0 (bnd q_1 ql (by decide))
  refine G.baload C (x := e0) O82 (nn_of x86 q_0) (at_of x86 q_0 p0) d2_46 (n := 47) rfl ?_
  refine G.sipush C (v := (255 : Int32)) d2_47 (by decide) (n := 50) rfl ?_
  refine G.iand C d2_50 (n := 51) rfl ?_
  refine G.i2l C d2_51 (n := 52) rfl ?_
  refine G.lor C d2_52 (n := 53) rfl ?_
  refine G.fold_long (z := S0_0) s0_0 ?_
  refine G.lastore C O81 (by decide) (show (0 : Int32).toInt < ((2 : Nat) : Int) by decide) g8 d2_53 (n := 54) rfl ?_
  intro h87 K88 W89 O90
  have O91 : Longs Z h87 b2 [S0_0, 0] := O90
  have O92 := O82.keep K88 (ninS ne7 nin0)
  have Z93 : n0 ≤ h87.size := Nat.le_trans Z83 K88.1
  have K94 : Keep h0 h87 [] := Keep.tr K84 K88 (allS (Or.inr f9) all0)
  refine G.iincK C (v := (-1 : Int32)) (z := (-1 : Int32)) d2_54 (by decide) rfl (by decide) (l' := #[.val (.ref a), .val (.int o), .val (.int (2 : Int32)), .val (.int (8 : Int32)), .val (.ref b2), .val (.int (0 : Int32)), .val (.int (-1 : Int32))]) rfl (n := 57) rfl ?_
  refine G.goto C d2_57 (by decide) (n := 19) (by decide) ?_
  refine G.iload C d2_19 rfl (n := 21) rfl ?_
  refine G.if_lt C (A := (-1)) (by decide) d2_21 (by decide) (by decide) (n := 24) (n' := 60) rfl (fun c21_95 => ?_) (fun c21_95 => ?_)
  rotate_left
  · exact absurd c21_95 (by decide)
  refine G.iincK C (v := (1 : Int32)) (z := (1 : Int32)) d2_60 (by decide) rfl (by decide) (l' := #[.val (.ref a), .val (.int o), .val (.int (2 : Int32)), .val (.int (8 : Int32)), .val (.ref b2), .val (.int (1 : Int32)), .val (.int (-1 : Int32))]) rfl (n := 63) rfl ?_
  refine G.goto C d2_63 (by decide) (n := 8) (by decide) ?_
  refine G.iload C d2_8 rfl (n := 10) rfl ?_
  refine G.iloadN C d2_10 rfl (n := 11) rfl ?_
  refine G.icmp_ge C (A := 1) (B := 2) (by decide) (by decide) d2_11 (by decide) (by decide) (n := 14) (n' := 66) rfl (fun c11_96 => ?_) (fun c11_96 => ?_)
  · exact absurd c11_96 (by decide)
  refine G.iloadN C d2_14 rfl (n := 15) rfl ?_
  refine G.iconst C (v := (1 : Int32)) d2_15 (by decide) (n := 16) rfl ?_
  refine G.isub C d2_16 (n := 17) rfl ?_
  refine G.fold_int (z := (7 : Int32)) (by decide) ?_
  refine G.istore C d2_17 (l' := #[.val (.ref a), .val (.int o), .val (.int (2 : Int32)), .val (.int (8 : Int32)), .val (.ref b2), .val (.int (1 : Int32)), .val (.int (7 : Int32))]) rfl (n := 19) rfl ?_
  refine G.iload C d2_19 rfl (n := 21) rfl ?_
  refine G.if_lt C (A := 7) (by decide) d2_21 (by decide) (by decide) (n := 24) (n' := 60) rfl (fun c21_97 => ?_) (fun c21_97 => ?_)
  · exact absurd c21_97 (by decide)
  refine G.aload C d2_24 rfl rfl (n := 26) rfl ?_
  refine G.iload C d2_26 rfl (n := 28) rfl ?_
  refine G.aload C d2_28 rfl rfl (n := 30) rfl ?_
  refine G.iload C d2_30 rfl (n := 32) rfl ?_
  refine G.laload C (x := 0) O91 (by decide) rfl d2_32 (n := 33) rfl ?_
  refine G.bipush C (v := (8 : Int32)) d2_33 (by decide) (n := 35) rfl ?_
  refine G.lshl C d2_35 (n := 36) rfl ?_
  refine G.aloadN C d2_36 rfl rfl (n := 37) rfl ?_
  refine G.iloadN C d2_37 rfl (n := 38) rfl ?_
  refine G.iload C d2_38 rfl (n := 40) rfl ?_
  refine G.iloadN C d2_40 rfl (n := 41) rfl ?_
  refine G.imul C d2_41 (n := 42) rfl ?_
  refine G.fold_int (z := (8 : Int32)) (by decide) ?_
  refine G.iadd C d2_42 (n := 43) rfl ?_
  refine G.iload C d2_43 rfl (n := 45) rfl ?_
  refine G.iadd C d2_45 (n := 46) rfl ?_
  have x98 : (((o + (8 : Int32)) + (7 : Int32))).toInt = o.toInt + ((15 : Nat) : Int) := ixb (A := 8) (B := 7) (by decide) (by decide) (by decide) (by decide) (by decide) q_0 (bnd q_1 ql (by decide))
  refine G.baload C (x := e15) O92 (nn_of x98 q_0) (at_of x98 q_0 p15) d2_46 (n := 47) rfl ?_
  refine G.sipush C (v := (255 : Int32)) d2_47 (by decide) (n := 50) rfl ?_
  refine G.iand C d2_50 (n := 51) rfl ?_
  refine G.i2l C d2_51 (n := 52) rfl ?_
  refine G.lor C d2_52 (n := 53) rfl ?_
  refine G.fold_long (z := S1_7) s1_7 ?_
  refine G.lastore C O91 (by decide) (show (1 : Int32).toInt < ((2 : Nat) : Int) by decide) g8 d2_53 (n := 54) rfl ?_
  intro h99 K100 W101 O102
  have O103 : Longs Z h99 b2 [S0_0, S1_7] := O102
  have O104 := O92.keep K100 (ninS ne7 nin0)
  have Z105 : n0 ≤ h99.size := Nat.le_trans Z93 K100.1
  have K106 : Keep h0 h99 [] := Keep.tr K94 K100 (allS (Or.inr f9) all0)
  refine G.iincK C (v := (-1 : Int32)) (z := (6 : Int32)) d2_54 (by decide) rfl (by decide) (l' := #[.val (.ref a), .val (.int o), .val (.int (2 : Int32)), .val (.int (8 : Int32)), .val (.ref b2), .val (.int (1 : Int32)), .val (.int (6 : Int32))]) rfl (n := 57) rfl ?_
  refine G.goto C d2_57 (by decide) (n := 19) (by decide) ?_
  refine G.iload C d2_19 rfl (n := 21) rfl ?_
  refine G.if_lt C (A := 6) (by decide) d2_21 (by decide) (by decide) (n := 24) (n' := 60) rfl (fun c21_107 => ?_) (fun c21_107 => ?_)
  · exact absurd c21_107 (by decide)
  refine G.aload C d2_24 rfl rfl (n := 26) rfl ?_
  refine G.iload C d2_26 rfl (n := 28) rfl ?_
  refine G.aload C d2_28 rfl rfl (n := 30) rfl ?_
  refine G.iload C d2_30 rfl (n := 32) rfl ?_
  refine G.laload C (x := S1_7) O103 (by decide) rfl d2_32 (n := 33) rfl ?_
  refine G.bipush C (v := (8 : Int32)) d2_33 (by decide) (n := 35) rfl ?_
  refine G.lshl C d2_35 (n := 36) rfl ?_
  refine G.aloadN C d2_36 rfl rfl (n := 37) rfl ?_
  refine G.iloadN C d2_37 rfl (n := 38) rfl ?_
  refine G.iload C d2_38 rfl (n := 40) rfl ?_
  refine G.iloadN C d2_40 rfl (n := 41) rfl ?_
  refine G.imul C d2_41 (n := 42) rfl ?_
  refine G.fold_int (z := (8 : Int32)) (by decide) ?_
  refine G.iadd C d2_42 (n := 43) rfl ?_
  refine G.iload C d2_43 rfl (n := 45) rfl ?_
  refine G.iadd C d2_45 (n := 46) rfl ?_
  have x108 : (((o + (8 : Int32)) + (6 : Int32))).toInt = o.toInt + ((14 : Nat) : Int) := ixb (A := 8) (B := 6) (by decide) (by decide) (by decide) (by decide) (by decide) q_0 (bnd q_1 ql (by decide))
  refine G.baload C (x := e14) O104 (nn_of x108 q_0) (at_of x108 q_0 p14) d2_46 (n := 47) rfl ?_
  refine G.sipush C (v := (255 : Int32)) d2_47 (by decide) (n := 50) rfl ?_
  refine G.iand C d2_50 (n := 51) rfl ?_
  refine G.i2l C d2_51 (n := 52) rfl ?_
  refine G.lor C d2_52 (n := 53) rfl ?_
  refine G.fold_long (z := S1_6) s1_6 ?_
  refine G.lastore C O103 (by decide) (show (1 : Int32).toInt < ((2 : Nat) : Int) by decide) g8 d2_53 (n := 54) rfl ?_
  intro h109 K110 W111 O112
  have O113 : Longs Z h109 b2 [S0_0, S1_6] := O112
  have O114 := O104.keep K110 (ninS ne7 nin0)
  have Z115 : n0 ≤ h109.size := Nat.le_trans Z105 K110.1
  have K116 : Keep h0 h109 [] := Keep.tr K106 K110 (allS (Or.inr f9) all0)
  refine G.iincK C (v := (-1 : Int32)) (z := (5 : Int32)) d2_54 (by decide) rfl (by decide) (l' := #[.val (.ref a), .val (.int o), .val (.int (2 : Int32)), .val (.int (8 : Int32)), .val (.ref b2), .val (.int (1 : Int32)), .val (.int (5 : Int32))]) rfl (n := 57) rfl ?_
  refine G.goto C d2_57 (by decide) (n := 19) (by decide) ?_
  refine G.iload C d2_19 rfl (n := 21) rfl ?_
  refine G.if_lt C (A := 5) (by decide) d2_21 (by decide) (by decide) (n := 24) (n' := 60) rfl (fun c21_117 => ?_) (fun c21_117 => ?_)
  · exact absurd c21_117 (by decide)
  refine G.aload C d2_24 rfl rfl (n := 26) rfl ?_
  refine G.iload C d2_26 rfl (n := 28) rfl ?_
  refine G.aload C d2_28 rfl rfl (n := 30) rfl ?_
  refine G.iload C d2_30 rfl (n := 32) rfl ?_
  refine G.laload C (x := S1_6) O113 (by decide) rfl d2_32 (n := 33) rfl ?_
  refine G.bipush C (v := (8 : Int32)) d2_33 (by decide) (n := 35) rfl ?_
  refine G.lshl C d2_35 (n := 36) rfl ?_
  refine G.aloadN C d2_36 rfl rfl (n := 37) rfl ?_
  refine G.iloadN C d2_37 rfl (n := 38) rfl ?_
  refine G.iload C d2_38 rfl (n := 40) rfl ?_
  refine G.iloadN C d2_40 rfl (n := 41) rfl ?_
  refine G.imul C d2_41 (n := 42) rfl ?_
  refine G.fold_int (z := (8 : Int32)) (by decide) ?_
  refine G.iadd C d2_42 (n := 43) rfl ?_
  refine G.iload C d2_43 rfl (n := 45) rfl ?_
  refine G.iadd C d2_45 (n := 46) rfl ?_
  have x118 : (((o + (8 : Int32)) + (5 : Int32))).toInt = o.toInt + ((13 : Nat) : Int) := ixb (A := 8) (B := 5) (by decide) (by decide) (by decide) (by decide) (by decide) q_0 (bnd q_1 ql (by decide))
  refine G.baload C (x := e13) O114 (nn_of x118 q_0) (at_of x118 q_0 p13) d2_46 (n := 47) rfl ?_
  refine G.sipush C (v := (255 : Int32)) d2_47 (by decide) (n := 50) rfl ?_
  refine G.iand C d2_50 (n := 51) rfl ?_
  refine G.i2l C d2_51 (n := 52) rfl ?_
  refine G.lor C d2_52 (n := 53) rfl ?_
  refine G.fold_long (z := S1_5) s1_5 ?_
  refine G.lastore C O113 (by decide) (show (1 : Int32).toInt < ((2 : Nat) : Int) by decide) g8 d2_53 (n := 54) rfl ?_
  intro h119 K120 W121 O122
  have O123 : Longs Z h119 b2 [S0_0, S1_5] := O122
  have O124 := O114.keep K120 (ninS ne7 nin0)
  have Z125 : n0 ≤ h119.size := Nat.le_trans Z115 K120.1
  have K126 : Keep h0 h119 [] := Keep.tr K116 K120 (allS (Or.inr f9) all0)
  refine G.iincK C (v := (-1 : Int32)) (z := (4 : Int32)) d2_54 (by decide) rfl (by decide) (l' := #[.val (.ref a), .val (.int o), .val (.int (2 : Int32)), .val (.int (8 : Int32)), .val (.ref b2), .val (.int (1 : Int32)), .val (.int (4 : Int32))]) rfl (n := 57) rfl ?_
  refine G.goto C d2_57 (by decide) (n := 19) (by decide) ?_
  refine G.iload C d2_19 rfl (n := 21) rfl ?_
  refine G.if_lt C (A := 4) (by decide) d2_21 (by decide) (by decide) (n := 24) (n' := 60) rfl (fun c21_127 => ?_) (fun c21_127 => ?_)
  · exact absurd c21_127 (by decide)
  refine G.aload C d2_24 rfl rfl (n := 26) rfl ?_
  refine G.iload C d2_26 rfl (n := 28) rfl ?_
  refine G.aload C d2_28 rfl rfl (n := 30) rfl ?_
  refine G.iload C d2_30 rfl (n := 32) rfl ?_
  refine G.laload C (x := S1_5) O123 (by decide) rfl d2_32 (n := 33) rfl ?_
  refine G.bipush C (v := (8 : Int32)) d2_33 (by decide) (n := 35) rfl ?_
  refine G.lshl C d2_35 (n := 36) rfl ?_
  refine G.aloadN C d2_36 rfl rfl (n := 37) rfl ?_
  refine G.iloadN C d2_37 rfl (n := 38) rfl ?_
  refine G.iload C d2_38 rfl (n := 40) rfl ?_
  refine G.iloadN C d2_40 rfl (n := 41) rfl ?_
  refine G.imul C d2_41 (n := 42) rfl ?_
  refine G.fold_int (z := (8 : Int32)) (by decide) ?_
  refine G.iadd C d2_42 (n := 43) rfl ?_
  refine G.iload C d2_43 rfl (n := 45) rfl ?_
  refine G.iadd C d2_45 (n := 46) rfl ?_
  have x128 : (((o + (8 : Int32)) + (4 : Int32))).toInt = o.toInt + ((12 : Nat) : Int) := ixb (A := 8) (B := 4) (by decide) (by decide) (by decide) (by decide) (by decide) q_0 (bnd q_1 ql (by decide))
  refine G.baload C (x := e12) O124 (nn_of x128 q_0) (at_of x128 q_0 p12) d2_46 (n := 47) rfl ?_
  refine G.sipush C (v := (255 : Int32)) d2_47 (by decide) (n := 50) rfl ?_
  refine G.iand C d2_50 (n := 51) rfl ?_
  refine G.i2l C d2_51 (n := 52) rfl ?_
  refine G.lor C d2_52 (n := 53) rfl ?_
  refine G.fold_long (z := S1_4) s1_4 ?_
  refine G.lastore C O123 (by decide) (show (1 : Int32).toInt < ((2 : Nat) : Int) by decide) g8 d2_53 (n := 54) rfl ?_
  intro h129 K130 W131 O132
  have O133 : Longs Z h129 b2 [S0_0, S1_4] := O132
  have O134 := O124.keep K130 (ninS ne7 nin0)
  have Z135 : n0 ≤ h129.size := Nat.le_trans Z125 K130.1
  have K136 : Keep h0 h129 [] := Keep.tr K126 K130 (allS (Or.inr f9) all0)
  refine G.iincK C (v := (-1 : Int32)) (z := (3 : Int32)) d2_54 (by decide) rfl (by decide) (l' := #[.val (.ref a), .val (.int o), .val (.int (2 : Int32)), .val (.int (8 : Int32)), .val (.ref b2), .val (.int (1 : Int32)), .val (.int (3 : Int32))]) rfl (n := 57) rfl ?_
  refine G.goto C d2_57 (by decide) (n := 19) (by decide) ?_
  refine G.iload C d2_19 rfl (n := 21) rfl ?_
  refine G.if_lt C (A := 3) (by decide) d2_21 (by decide) (by decide) (n := 24) (n' := 60) rfl (fun c21_137 => ?_) (fun c21_137 => ?_)
  · exact absurd c21_137 (by decide)
  refine G.aload C d2_24 rfl rfl (n := 26) rfl ?_
  refine G.iload C d2_26 rfl (n := 28) rfl ?_
  refine G.aload C d2_28 rfl rfl (n := 30) rfl ?_
  refine G.iload C d2_30 rfl (n := 32) rfl ?_
  refine G.laload C (x := S1_4) O133 (by decide) rfl d2_32 (n := 33) rfl ?_
  refine G.bipush C (v := (8 : Int32)) d2_33 (by decide) (n := 35) rfl ?_
  refine G.lshl C d2_35 (n := 36) rfl ?_
  refine G.aloadN C d2_36 rfl rfl (n := 37) rfl ?_
  refine G.iloadN C d2_37 rfl (n := 38) rfl ?_
  refine G.iload C d2_38 rfl (n := 40) rfl ?_
  refine G.iloadN C d2_40 rfl (n := 41) rfl ?_
  refine G.imul C d2_41 (n := 42) rfl ?_
  refine G.fold_int (z := (8 : Int32)) (by decide) ?_
  refine G.iadd C d2_42 (n := 43) rfl ?_
  refine G.iload C d2_43 rfl (n := 45) rfl ?_
  refine G.iadd C d2_45 (n := 46) rfl ?_
  have x138 : (((o + (8 : Int32)) + (3 : Int32))).toInt = o.toInt + ((11 : Nat) : Int) := ixb (A := 8) (B := 3) (by decide) (by decide) (by decide) (by decide) (by decide) q_0 (bnd q_1 ql (by decide))
  refine G.baload C (x := e11) O134 (nn_of x138 q_0) (at_of x138 q_0 p11) d2_46 (n := 47) rfl ?_
  refine G.sipush C (v := (255 : Int32)) d2_47 (by decide) (n := 50) rfl ?_
  refine G.iand C d2_50 (n := 51) rfl ?_
  refine G.i2l C d2_51 (n := 52) rfl ?_
  refine G.lor C d2_52 (n := 53) rfl ?_
  refine G.fold_long (z := S1_3) s1_3 ?_
  refine G.lastore C O133 (by decide) (show (1 : Int32).toInt < ((2 : Nat) : Int) by decide) g8 d2_53 (n := 54) rfl ?_
  intro h139 K140 W141 O142
  have O143 : Longs Z h139 b2 [S0_0, S1_3] := O142
  have O144 := O134.keep K140 (ninS ne7 nin0)
  have Z145 : n0 ≤ h139.size := Nat.le_trans Z135 K140.1
  have K146 : Keep h0 h139 [] := Keep.tr K136 K140 (allS (Or.inr f9) all0)
  refine G.iincK C (v := (-1 : Int32)) (z := (2 : Int32)) d2_54 (by decide) rfl (by decide) (l' := #[.val (.ref a), .val (.int o), .val (.int (2 : Int32)), .val (.int (8 : Int32)), .val (.ref b2), .val (.int (1 : Int32)), .val (.int (2 : Int32))]) rfl (n := 57) rfl ?_
  refine G.goto C d2_57 (by decide) (n := 19) (by decide) ?_
  refine G.iload C d2_19 rfl (n := 21) rfl ?_
  refine G.if_lt C (A := 2) (by decide) d2_21 (by decide) (by decide) (n := 24) (n' := 60) rfl (fun c21_147 => ?_) (fun c21_147 => ?_)
  · exact absurd c21_147 (by decide)
  refine G.aload C d2_24 rfl rfl (n := 26) rfl ?_
  refine G.iload C d2_26 rfl (n := 28) rfl ?_
  refine G.aload C d2_28 rfl rfl (n := 30) rfl ?_
  refine G.iload C d2_30 rfl (n := 32) rfl ?_
  refine G.laload C (x := S1_3) O143 (by decide) rfl d2_32 (n := 33) rfl ?_
  refine G.bipush C (v := (8 : Int32)) d2_33 (by decide) (n := 35) rfl ?_
  refine G.lshl C d2_35 (n := 36) rfl ?_
  refine G.aloadN C d2_36 rfl rfl (n := 37) rfl ?_
  refine G.iloadN C d2_37 rfl (n := 38) rfl ?_
  refine G.iload C d2_38 rfl (n := 40) rfl ?_
  refine G.iloadN C d2_40 rfl (n := 41) rfl ?_
  refine G.imul C d2_41 (n := 42) rfl ?_
  refine G.fold_int (z := (8 : Int32)) (by decide) ?_
  refine G.iadd C d2_42 (n := 43) rfl ?_
  refine G.iload C d2_43 rfl (n := 45) rfl ?_
  refine G.iadd C d2_45 (n := 46) rfl ?_
  have x148 : (((o + (8 : Int32)) + (2 : Int32))).toInt = o.toInt + ((10 : Nat) : Int) := ixb (A := 8) (B := 2) (by decide) (by decide) (by decide) (by decide) (by decide) q_0 (bnd q_1 ql (by decide))
  refine G.baload C (x := e10) O144 (nn_of x148 q_0) (at_of x148 q_0 p10) d2_46 (n := 47) rfl ?_
  refine G.sipush C (v := (255 : Int32)) d2_47 (by decide) (n := 50) rfl ?_
  refine G.iand C d2_50 (n := 51) rfl ?_
  refine G.i2l C d2_51 (n := 52) rfl ?_
  refine G.lor C d2_52 (n := 53) rfl ?_
  refine G.fold_long (z := S1_2) s1_2 ?_
  refine G.lastore C O143 (by decide) (show (1 : Int32).toInt < ((2 : Nat) : Int) by decide) g8 d2_53 (n := 54) rfl ?_
  intro h149 K150 W151 O152
  have O153 : Longs Z h149 b2 [S0_0, S1_2] := O152
  have O154 := O144.keep K150 (ninS ne7 nin0)
  have Z155 : n0 ≤ h149.size := Nat.le_trans Z145 K150.1
  have K156 : Keep h0 h149 [] := Keep.tr K146 K150 (allS (Or.inr f9) all0)
  refine G.iincK C (v := (-1 : Int32)) (z := (1 : Int32)) d2_54 (by decide) rfl (by decide) (l' := #[.val (.ref a), .val (.int o), .val (.int (2 : Int32)), .val (.int (8 : Int32)), .val (.ref b2), .val (.int (1 : Int32)), .val (.int (1 : Int32))]) rfl (n := 57) rfl ?_
  refine G.goto C d2_57 (by decide) (n := 19) (by decide) ?_
  refine G.iload C d2_19 rfl (n := 21) rfl ?_
  refine G.if_lt C (A := 1) (by decide) d2_21 (by decide) (by decide) (n := 24) (n' := 60) rfl (fun c21_157 => ?_) (fun c21_157 => ?_)
  · exact absurd c21_157 (by decide)
  refine G.aload C d2_24 rfl rfl (n := 26) rfl ?_
  refine G.iload C d2_26 rfl (n := 28) rfl ?_
  refine G.aload C d2_28 rfl rfl (n := 30) rfl ?_
  refine G.iload C d2_30 rfl (n := 32) rfl ?_
  refine G.laload C (x := S1_2) O153 (by decide) rfl d2_32 (n := 33) rfl ?_
  refine G.bipush C (v := (8 : Int32)) d2_33 (by decide) (n := 35) rfl ?_
  refine G.lshl C d2_35 (n := 36) rfl ?_
  refine G.aloadN C d2_36 rfl rfl (n := 37) rfl ?_
  refine G.iloadN C d2_37 rfl (n := 38) rfl ?_
  refine G.iload C d2_38 rfl (n := 40) rfl ?_
  refine G.iloadN C d2_40 rfl (n := 41) rfl ?_
  refine G.imul C d2_41 (n := 42) rfl ?_
  refine G.fold_int (z := (8 : Int32)) (by decide) ?_
  refine G.iadd C d2_42 (n := 43) rfl ?_
  refine G.iload C d2_43 rfl (n := 45) rfl ?_
  refine G.iadd C d2_45 (n := 46) rfl ?_
  have x158 : (((o + (8 : Int32)) + (1 : Int32))).toInt = o.toInt + ((9 : Nat) : Int) := ixb (A := 8) (B := 1) (by decide) (by decide) (by decide) (by decide) (by decide) q_0 (bnd q_1 ql (by decide))
  refine G.baload C (x := e9) O154 (nn_of x158 q_0) (at_of x158 q_0 p9) d2_46 (n := 47) rfl ?_
  refine G.sipush C (v := (255 : Int32)) d2_47 (by decide) (n := 50) rfl ?_
  refine G.iand C d2_50 (n := 51) rfl ?_
  refine G.i2l C d2_51 (n := 52) rfl ?_
  refine G.lor C d2_52 (n := 53) rfl ?_
  refine G.fold_long (z := S1_1) s1_1 ?_
  refine G.lastore C O153 (by decide) (show (1 : Int32).toInt < ((2 : Nat) : Int) by decide) g8 d2_53 (n := 54) rfl ?_
  intro h159 K160 W161 O162
  have O163 : Longs Z h159 b2 [S0_0, S1_1] := O162
  have O164 := O154.keep K160 (ninS ne7 nin0)
  have Z165 : n0 ≤ h159.size := Nat.le_trans Z155 K160.1
  have K166 : Keep h0 h159 [] := Keep.tr K156 K160 (allS (Or.inr f9) all0)
  refine G.iincK C (v := (-1 : Int32)) (z := (0 : Int32)) d2_54 (by decide) rfl (by decide) (l' := #[.val (.ref a), .val (.int o), .val (.int (2 : Int32)), .val (.int (8 : Int32)), .val (.ref b2), .val (.int (1 : Int32)), .val (.int (0 : Int32))]) rfl (n := 57) rfl ?_
  refine G.goto C d2_57 (by decide) (n := 19) (by decide) ?_
  refine G.iload C d2_19 rfl (n := 21) rfl ?_
  refine G.if_lt C (A := 0) (by decide) d2_21 (by decide) (by decide) (n := 24) (n' := 60) rfl (fun c21_167 => ?_) (fun c21_167 => ?_)
  · exact absurd c21_167 (by decide)
  refine G.aload C d2_24 rfl rfl (n := 26) rfl ?_
  refine G.iload C d2_26 rfl (n := 28) rfl ?_
  refine G.aload C d2_28 rfl rfl (n := 30) rfl ?_
  refine G.iload C d2_30 rfl (n := 32) rfl ?_
  refine G.laload C (x := S1_1) O163 (by decide) rfl d2_32 (n := 33) rfl ?_
  refine G.bipush C (v := (8 : Int32)) d2_33 (by decide) (n := 35) rfl ?_
  refine G.lshl C d2_35 (n := 36) rfl ?_
  refine G.aloadN C d2_36 rfl rfl (n := 37) rfl ?_
  refine G.iloadN C d2_37 rfl (n := 38) rfl ?_
  refine G.iload C d2_38 rfl (n := 40) rfl ?_
  refine G.iloadN C d2_40 rfl (n := 41) rfl ?_
  refine G.imul C d2_41 (n := 42) rfl ?_
  refine G.fold_int (z := (8 : Int32)) (by decide) ?_
  refine G.iadd C d2_42 (n := 43) rfl ?_
  refine G.iload C d2_43 rfl (n := 45) rfl ?_
  refine G.iadd C d2_45 (n := 46) rfl ?_
  have x168 : (((o + (8 : Int32)) + (0 : Int32))).toInt = o.toInt + ((8 : Nat) : Int) := ixb (A := 8) (B := 0) (by decide) (by decide) (by decide) (by decide) (by decide) q_0 (bnd q_1 ql (by decide))
  refine G.baload C (x := e8) O164 (nn_of x168 q_0) (at_of x168 q_0 p8) d2_46 (n := 47) rfl ?_
  refine G.sipush C (v := (255 : Int32)) d2_47 (by decide) (n := 50) rfl ?_
  refine G.iand C d2_50 (n := 51) rfl ?_
  refine G.i2l C d2_51 (n := 52) rfl ?_
  refine G.lor C d2_52 (n := 53) rfl ?_
  refine G.fold_long (z := S1_0) s1_0 ?_
  refine G.lastore C O163 (by decide) (show (1 : Int32).toInt < ((2 : Nat) : Int) by decide) g8 d2_53 (n := 54) rfl ?_
  intro h169 K170 W171 O172
  have O173 : Longs Z h169 b2 [S0_0, S1_0] := O172
  have O174 := O164.keep K170 (ninS ne7 nin0)
  have Z175 : n0 ≤ h169.size := Nat.le_trans Z165 K170.1
  have K176 : Keep h0 h169 [] := Keep.tr K166 K170 (allS (Or.inr f9) all0)
  refine G.iincK C (v := (-1 : Int32)) (z := (-1 : Int32)) d2_54 (by decide) rfl (by decide) (l' := #[.val (.ref a), .val (.int o), .val (.int (2 : Int32)), .val (.int (8 : Int32)), .val (.ref b2), .val (.int (1 : Int32)), .val (.int (-1 : Int32))]) rfl (n := 57) rfl ?_
  refine G.goto C d2_57 (by decide) (n := 19) (by decide) ?_
  refine G.iload C d2_19 rfl (n := 21) rfl ?_
  refine G.if_lt C (A := (-1)) (by decide) d2_21 (by decide) (by decide) (n := 24) (n' := 60) rfl (fun c21_177 => ?_) (fun c21_177 => ?_)
  rotate_left
  · exact absurd c21_177 (by decide)
  refine G.iincK C (v := (1 : Int32)) (z := (2 : Int32)) d2_60 (by decide) rfl (by decide) (l' := #[.val (.ref a), .val (.int o), .val (.int (2 : Int32)), .val (.int (8 : Int32)), .val (.ref b2), .val (.int (2 : Int32)), .val (.int (-1 : Int32))]) rfl (n := 63) rfl ?_
  refine G.goto C d2_63 (by decide) (n := 8) (by decide) ?_
  refine G.iload C d2_8 rfl (n := 10) rfl ?_
  refine G.iloadN C d2_10 rfl (n := 11) rfl ?_
  refine G.icmp_ge C (A := 2) (B := 2) (by decide) (by decide) d2_11 (by decide) (by decide) (n := 14) (n' := 66) rfl (fun c11_178 => ?_) (fun c11_178 => ?_)
  rotate_left
  · exact absurd c11_178 (by decide)
  refine G.aload C d2_66 rfl rfl (n := 68) rfl ?_
  refine G.areturn C d2_68 rfl rfl rfl (by decide) (by decide) ?_
  exact ⟨b2, rfl, f9, K176, O173⟩
theorem ef5 (m : MethodId) (a : Addr) (o : Int32) : entryFrame m #[(.ref a), (.int o), (.int (0 : Int32)), (.int (4 : Int32))] 7 = mkF m 0 #[.val (.ref a), .val (.int o), .val (.int (0 : Int32)), .val (.int (4 : Int32)), .unset, .unset, .unset] [] := by first | (simp [entryFrame, mkF, argsToLocals, Value.category]; done) | rfl
abbrev Q_read_4_0 (Z : State) (h0 : Heap) (a : Addr) (o : Int32) (bs : List Int32) : Option Value → Heap → Prop := fun v h' => ∃ b, v = some (.ref b) ∧ h0.size ≤ b ∧ Keep h0 h' [] ∧ Longs Z h' b []
abbrev R_read_4_0 : Room := { frames := 0, cells := 1, slots := 0, locals := 0 }
set_option maxRecDepth 65536 in
set_option maxHeartbeats 40000000 in
theorem m_read_4_0 (l : Launch) (Z : State) (a0 : Array Value) (hw : ∀ d ∈ tables_1, d.before a0 Z = true) (a : Addr) (o : Int32) (bs : List Int32) (h0 : Heap) (n0 : Nat) (Z0 : n0 ≤ h0.size) (O_a : Ints Z h0 a .byte bs) (q_0 : 0 ≤ o.toInt) (q_1 : o.toInt + 0 ≤ bs.length) : Met l Z (⟨"com/example/parley/parley/KeySketch", "read", "([BIII)[J"⟩ : MethodName) prog_15_method_11_code 7 (some (.array .long)) R_read_4_0 #[(.ref a), (.int o), (.int (0 : Int32)), (.int (4 : Int32))] h0 n0 (Q_read_4_0 Z h0 a o bs) := by
  refine Met.of (plainFor_of_name pn1) (fun m => ef5 m a o) ?_
  intro p e s m args below meth c C
  have ql := O_a.len
  refine G.iloadN C d2_0 rfl (n := 1) rfl ?_
  refine G.newarrayJ C (ty := .long) (cap := 0) (wd hw 10 rfl) rfl rfl rfl (by decide) (by decide) (by decide) d2_1 (n := 3) rfl (c' := 1) (s' := 0) rfl rfl (by decide) (by decide) ?_
  intro h1 b2 q3 E4 O5
  have O6 : Longs Z h1 b2 [] := O5
  have ne7 : a ≠ b2 := Nat.ne_of_lt (Nat.lt_of_lt_of_le O_a.lt (Nat.le_of_eq q3.symm))
  have g8 : n0 ≤ b2 := Nat.le_trans Z0 (Nat.le_of_eq q3.symm)
  have f9 : h0.size ≤ b2 := Nat.le_trans (Keep.refl h0 []).1 (Nat.le_of_eq q3.symm)
  have K10 := kext E4
  have O11 := O_a.keep K10 nin0
  have Z12 : n0 ≤ h1.size := Nat.le_trans Z0 K10.1
  have K13 : Keep h0 h1 [] := Keep.tr (Keep.refl h0 _) K10 all0
  refine G.astore C d2_3 rfl (l' := #[.val (.ref a), .val (.int o), .val (.int (0 : Int32)), .val (.int (4 : Int32)), .val (.ref b2), .unset, .unset]) rfl (n := 5) rfl ?_
  refine G.iconst C (v := (0 : Int32)) d2_5 (by decide) (n := 6) rfl ?_
  refine G.istore C d2_6 (l' := #[.val (.ref a), .val (.int o), .val (.int (0 : Int32)), .val (.int (4 : Int32)), .val (.ref b2), .val (.int (0 : Int32)), .unset]) rfl (n := 8) rfl ?_
  refine G.iload C d2_8 rfl (n := 10) rfl ?_
  refine G.iloadN C d2_10 rfl (n := 11) rfl ?_
  refine G.icmp_ge C (A := 0) (B := 0) (by decide) (by decide) d2_11 (by decide) (by decide) (n := 14) (n' := 66) rfl (fun c11_14 => ?_) (fun c11_14 => ?_)
  rotate_left
  · exact absurd c11_14 (by decide)
  refine G.aload C d2_66 rfl rfl (n := 68) rfl ?_
  refine G.areturn C d2_68 rfl rfl rfl (by decide) (by decide) ?_
  exact ⟨b2, rfl, f9, K13, O6⟩
theorem ef6 (m : MethodId) (a : Addr) (o : Int32) : entryFrame m #[(.ref a), (.int o), (.int (1 : Int32)), (.int (4 : Int32))] 7 = mkF m 0 #[.val (.ref a), .val (.int o), .val (.int (1 : Int32)), .val (.int (4 : Int32)), .unset, .unset, .unset] [] := by first | (simp [entryFrame, mkF, argsToLocals, Value.category]; done) | rfl
abbrev Q_read_4_1 (Z : State) (h0 : Heap) (a : Addr) (o : Int32) (bs : List Int32) (e0 : Int32) (e1 : Int32) (e2 : Int32) (e3 : Int32) (S0_0 : Int64) (S0_1 : Int64) (S0_2 : Int64) (S0_3 : Int64) : Option Value → Heap → Prop := fun v h' => ∃ b, v = some (.ref b) ∧ h0.size ≤ b ∧ Keep h0 h' [] ∧ Longs Z h' b [S0_0]
abbrev R_read_4_1 : Room := { frames := 0, cells := 1, slots := 1, locals := 0 }
set_option maxRecDepth 65536 in
set_option maxHeartbeats 40000000 in
theorem m_read_4_1 (l : Launch) (Z : State) (a0 : Array Value) (hw : ∀ d ∈ tables_1, d.before a0 Z = true) (a : Addr) (o : Int32) (bs : List Int32) (e0 : Int32) (e1 : Int32) (e2 : Int32) (e3 : Int32) (S0_0 : Int64) (S0_1 : Int64) (S0_2 : Int64) (S0_3 : Int64) (h0 : Heap) (n0 : Nat) (Z0 : n0 ≤ h0.size) (O_a : Ints Z h0 a .byte bs) (q_0 : 0 ≤ o.toInt) (q_1 : o.toInt + 4 ≤ bs.length) (p0 : bs[o.toInt.toNat + 0]? = some e0) (p1 : bs[o.toInt.toNat + 1]? = some e1) (p2 : bs[o.toInt.toNat + 2]? = some e2) (p3 : bs[o.toInt.toNat + 3]? = some e3) (s0_3 : (((0 : Int64) <<< ((8 : Int32) &&& 0x3f).toInt64) ||| ((e3 &&& (255 : Int32)).toInt64)) = S0_3) (s0_2 : ((S0_3 <<< ((8 : Int32) &&& 0x3f).toInt64) ||| ((e2 &&& (255 : Int32)).toInt64)) = S0_2) (s0_1 : ((S0_2 <<< ((8 : Int32) &&& 0x3f).toInt64) ||| ((e1 &&& (255 : Int32)).toInt64)) = S0_1) (s0_0 : ((S0_1 <<< ((8 : Int32) &&& 0x3f).toInt64) ||| ((e0 &&& (255 : Int32)).toInt64)) = S0_0) : Met l Z (⟨"com/example/parley/parley/KeySketch", "read", "([BIII)[J"⟩ : MethodName) prog_15_method_11_code 7 (some (.array .long)) R_read_4_1 #[(.ref a), (.int o), (.int (1 : Int32)), (.int (4 : Int32))] h0 n0 (Q_read_4_1 Z h0 a o bs e0 e1 e2 e3 S0_0 S0_1 S0_2 S0_3) := by
  refine Met.of (plainFor_of_name pn1) (fun m => ef6 m a o) ?_
  intro p e s m args below meth c C
  have ql := O_a.len
  refine G.iloadN C d2_0 rfl (n := 1) rfl ?_
  refine G.newarrayJ C (ty := .long) (cap := 1) (wd hw 10 rfl) rfl rfl rfl (by decide) (by decide) (by decide) d2_1 (n := 3) rfl (c' := 1) (s' := 1) rfl rfl (by decide) (by decide) ?_
  intro h1 b2 q3 E4 O5
  have O6 : Longs Z h1 b2 [0] := O5
  have ne7 : a ≠ b2 := Nat.ne_of_lt (Nat.lt_of_lt_of_le O_a.lt (Nat.le_of_eq q3.symm))
  have g8 : n0 ≤ b2 := Nat.le_trans Z0 (Nat.le_of_eq q3.symm)
  have f9 : h0.size ≤ b2 := Nat.le_trans (Keep.refl h0 []).1 (Nat.le_of_eq q3.symm)
  have K10 := kext E4
  have O11 := O_a.keep K10 nin0
  have Z12 : n0 ≤ h1.size := Nat.le_trans Z0 K10.1
  have K13 : Keep h0 h1 [] := Keep.tr (Keep.refl h0 _) K10 all0
  refine G.astore C d2_3 rfl (l' := #[.val (.ref a), .val (.int o), .val (.int (1 : Int32)), .val (.int (4 : Int32)), .val (.ref b2), .unset, .unset]) rfl (n := 5) rfl ?_
  refine G.iconst C (v := (0 : Int32)) d2_5 (by decide) (n := 6) rfl ?_
  refine G.istore C d2_6 (l' := #[.val (.ref a), .val (.int o), .val (.int (1 : Int32)), .val (.int (4 : Int32)), .val (.ref b2), .val (.int (0 : Int32)), .unset]) rfl (n := 8) rfl ?_
  refine G.iload C d2_8 rfl (n := 10) rfl ?_
  refine G.iloadN C d2_10 rfl (n := 11) rfl ?_
  refine G.icmp_ge C (A := 0) (B := 1) (by decide) (by decide) d2_11 (by decide) (by decide) (n := 14) (n' := 66) rfl (fun c11_14 => ?_) (fun c11_14 => ?_)
  · exact absurd c11_14 (by decide)
  refine G.iloadN C d2_14 rfl (n := 15) rfl ?_
  refine G.iconst C (v := (1 : Int32)) d2_15 (by decide) (n := 16) rfl ?_
  refine G.isub C d2_16 (n := 17) rfl ?_
  refine G.fold_int (z := (3 : Int32)) (by decide) ?_
  refine G.istore C d2_17 (l' := #[.val (.ref a), .val (.int o), .val (.int (1 : Int32)), .val (.int (4 : Int32)), .val (.ref b2), .val (.int (0 : Int32)), .val (.int (3 : Int32))]) rfl (n := 19) rfl ?_
  refine G.iload C d2_19 rfl (n := 21) rfl ?_
  refine G.if_lt C (A := 3) (by decide) d2_21 (by decide) (by decide) (n := 24) (n' := 60) rfl (fun c21_15 => ?_) (fun c21_15 => ?_)
  · exact absurd c21_15 (by decide)
  refine G.aload C d2_24 rfl rfl (n := 26) rfl ?_
  refine G.iload C d2_26 rfl (n := 28) rfl ?_
  refine G.aload C d2_28 rfl rfl (n := 30) rfl ?_
  refine G.iload C d2_30 rfl (n := 32) rfl ?_
  refine G.laload C (x := 0) O6 (by decide) rfl d2_32 (n := 33) rfl ?_
  refine G.bipush C (v := (8 : Int32)) d2_33 (by decide) (n := 35) rfl ?_
  refine G.lshl C d2_35 (n := 36) rfl ?_
  refine G.aloadN C d2_36 rfl rfl (n := 37) rfl ?_
  refine G.iloadN C d2_37 rfl (n := 38) rfl ?_
  refine G.iload C d2_38 rfl (n := 40) rfl ?_
  refine G.iloadN C d2_40 rfl (n := 41) rfl ?_
  refine G.imul C d2_41 (n := 42) rfl ?_
  refine G.fold_int (z := (0 : Int32)) (by decide) ?_
  refine G.iadd C d2_42 (n := 43) rfl ?_
  refine G.iload C d2_43 rfl (n := 45) rfl ?_
  refine G.iadd C d2_45 (n := 46) rfl ?_
  have x16 : (((o + (0 : Int32)) + (3 : Int32))).toInt = o.toInt + ((3 : Nat) : Int) := ixb (A := 0) (B := 3) (by decide) (by decide) (by decide) (by decide) (by decide) q_0 (bnd q_1 ql (by decide))
  refine G.baload C (x := e3) O11 (nn_of x16 q_0) (at_of x16 q_0 p3) d2_46 (n := 47) rfl ?_
  refine G.sipush C (v := (255 : Int32)) d2_47 (by decide) (n := 50) rfl ?_
  refine G.iand C d2_50 (n := 51) rfl ?_
  refine G.i2l C d2_51 (n := 52) rfl ?_
  refine G.lor C d2_52 (n := 53) rfl ?_
  refine G.fold_long (z := S0_3) s0_3 ?_
  refine G.lastore C O6 (by decide) (show (0 : Int32).toInt < ((1 : Nat) : Int) by decide) g8 d2_53 (n := 54) rfl ?_
  intro h17 K18 W19 O20
  have O21 : Longs Z h17 b2 [S0_3] := O20
  have O22 := O11.keep K18 (ninS ne7 nin0)
  have Z23 : n0 ≤ h17.size := Nat.le_trans Z12 K18.1
  have K24 : Keep h0 h17 [] := Keep.tr K13 K18 (allS (Or.inr f9) all0)
  refine G.iincK C (v := (-1 : Int32)) (z := (2 : Int32)) d2_54 (by decide) rfl (by decide) (l' := #[.val (.ref a), .val (.int o), .val (.int (1 : Int32)), .val (.int (4 : Int32)), .val (.ref b2), .val (.int (0 : Int32)), .val (.int (2 : Int32))]) rfl (n := 57) rfl ?_
  refine G.goto C d2_57 (by decide) (n := 19) (by decide) ?_
  refine G.iload C d2_19 rfl (n := 21) rfl ?_
  refine G.if_lt C (A := 2) (by decide) d2_21 (by decide) (by decide) (n := 24) (n' := 60) rfl (fun c21_25 => ?_) (fun c21_25 => ?_)
  · exact absurd c21_25 (by decide)
  refine G.aload C d2_24 rfl rfl (n := 26) rfl ?_
  refine G.iload C d2_26 rfl (n := 28) rfl ?_
  refine G.aload C d2_28 rfl rfl (n := 30) rfl ?_
  refine G.iload C d2_30 rfl (n := 32) rfl ?_
  refine G.laload C (x := S0_3) O21 (by decide) rfl d2_32 (n := 33) rfl ?_
  refine G.bipush C (v := (8 : Int32)) d2_33 (by decide) (n := 35) rfl ?_
  refine G.lshl C d2_35 (n := 36) rfl ?_
  refine G.aloadN C d2_36 rfl rfl (n := 37) rfl ?_
  refine G.iloadN C d2_37 rfl (n := 38) rfl ?_
  refine G.iload C d2_38 rfl (n := 40) rfl ?_
  refine G.iloadN C d2_40 rfl (n := 41) rfl ?_
  refine G.imul C d2_41 (n := 42) rfl ?_
  refine G.fold_int (z := (0 : Int32)) (by decide) ?_
  refine G.iadd C d2_42 (n := 43) rfl ?_
  refine G.iload C d2_43 rfl (n := 45) rfl ?_
  refine G.iadd C d2_45 (n := 46) rfl ?_
  have x26 : (((o + (0 : Int32)) + (2 : Int32))).toInt = o.toInt + ((2 : Nat) : Int) := ixb (A := 0) (B := 2) (by decide) (by decide) (by decide) (by decide) (by decide) q_0 (bnd q_1 ql (by decide))
  refine G.baload C (x := e2) O22 (nn_of x26 q_0) (at_of x26 q_0 p2) d2_46 (n := 47) rfl ?_
  refine G.sipush C (v := (255 : Int32)) d2_47 (by decide) (n := 50) rfl ?_
  refine G.iand C d2_50 (n := 51) rfl ?_
  refine G.i2l C d2_51 (n := 52) rfl ?_
  refine G.lor C d2_52 (n := 53) rfl ?_
  refine G.fold_long (z := S0_2) s0_2 ?_
  refine G.lastore C O21 (by decide) (show (0 : Int32).toInt < ((1 : Nat) : Int) by decide) g8 d2_53 (n := 54) rfl ?_
  intro h27 K28 W29 O30
  have O31 : Longs Z h27 b2 [S0_2] := O30
  have O32 := O22.keep K28 (ninS ne7 nin0)
  have Z33 : n0 ≤ h27.size := Nat.le_trans Z23 K28.1
  have K34 : Keep h0 h27 [] := Keep.tr K24 K28 (allS (Or.inr f9) all0)
  refine G.iincK C (v := (-1 : Int32)) (z := (1 : Int32)) d2_54 (by decide) rfl (by decide) (l' := #[.val (.ref a), .val (.int o), .val (.int (1 : Int32)), .val (.int (4 : Int32)), .val (.ref b2), .val (.int (0 : Int32)), .val (.int (1 : Int32))]) rfl (n := 57) rfl ?_
  refine G.goto C d2_57 (by decide) (n := 19) (by decide) ?_
  refine G.iload C d2_19 rfl (n := 21) rfl ?_
  refine G.if_lt C (A := 1) (by decide) d2_21 (by decide) (by decide) (n := 24) (n' := 60) rfl (fun c21_35 => ?_) (fun c21_35 => ?_)
  · exact absurd c21_35 (by decide)
  refine G.aload C d2_24 rfl rfl (n := 26) rfl ?_
  refine G.iload C d2_26 rfl (n := 28) rfl ?_
  refine G.aload C d2_28 rfl rfl (n := 30) rfl ?_
  refine G.iload C d2_30 rfl (n := 32) rfl ?_
  refine G.laload C (x := S0_2) O31 (by decide) rfl d2_32 (n := 33) rfl ?_
  refine G.bipush C (v := (8 : Int32)) d2_33 (by decide) (n := 35) rfl ?_
  refine G.lshl C d2_35 (n := 36) rfl ?_
  refine G.aloadN C d2_36 rfl rfl (n := 37) rfl ?_
  refine G.iloadN C d2_37 rfl (n := 38) rfl ?_
  refine G.iload C d2_38 rfl (n := 40) rfl ?_
  refine G.iloadN C d2_40 rfl (n := 41) rfl ?_
  refine G.imul C d2_41 (n := 42) rfl ?_
  refine G.fold_int (z := (0 : Int32)) (by decide) ?_
  refine G.iadd C d2_42 (n := 43) rfl ?_
  refine G.iload C d2_43 rfl (n := 45) rfl ?_
  refine G.iadd C d2_45 (n := 46) rfl ?_
  have x36 : (((o + (0 : Int32)) + (1 : Int32))).toInt = o.toInt + ((1 : Nat) : Int) := ixb (A := 0) (B := 1) (by decide) (by decide) (by decide) (by decide) (by decide) q_0 (bnd q_1 ql (by decide))
  refine G.baload C (x := e1) O32 (nn_of x36 q_0) (at_of x36 q_0 p1) d2_46 (n := 47) rfl ?_
  refine G.sipush C (v := (255 : Int32)) d2_47 (by decide) (n := 50) rfl ?_
  refine G.iand C d2_50 (n := 51) rfl ?_
  refine G.i2l C d2_51 (n := 52) rfl ?_
  refine G.lor C d2_52 (n := 53) rfl ?_
  refine G.fold_long (z := S0_1) s0_1 ?_
  refine G.lastore C O31 (by decide) (show (0 : Int32).toInt < ((1 : Nat) : Int) by decide) g8 d2_53 (n := 54) rfl ?_
  intro h37 K38 W39 O40
  have O41 : Longs Z h37 b2 [S0_1] := O40
  have O42 := O32.keep K38 (ninS ne7 nin0)
  have Z43 : n0 ≤ h37.size := Nat.le_trans Z33 K38.1
  have K44 : Keep h0 h37 [] := Keep.tr K34 K38 (allS (Or.inr f9) all0)
  refine G.iincK C (v := (-1 : Int32)) (z := (0 : Int32)) d2_54 (by decide) rfl (by decide) (l' := #[.val (.ref a), .val (.int o), .val (.int (1 : Int32)), .val (.int (4 : Int32)), .val (.ref b2), .val (.int (0 : Int32)), .val (.int (0 : Int32))]) rfl (n := 57) rfl ?_
  refine G.goto C d2_57 (by decide) (n := 19) (by decide) ?_
  refine G.iload C d2_19 rfl (n := 21) rfl ?_
  refine G.if_lt C (A := 0) (by decide) d2_21 (by decide) (by decide) (n := 24) (n' := 60) rfl (fun c21_45 => ?_) (fun c21_45 => ?_)
  · exact absurd c21_45 (by decide)
  refine G.aload C d2_24 rfl rfl (n := 26) rfl ?_
  refine G.iload C d2_26 rfl (n := 28) rfl ?_
  refine G.aload C d2_28 rfl rfl (n := 30) rfl ?_
  refine G.iload C d2_30 rfl (n := 32) rfl ?_
  refine G.laload C (x := S0_1) O41 (by decide) rfl d2_32 (n := 33) rfl ?_
  refine G.bipush C (v := (8 : Int32)) d2_33 (by decide) (n := 35) rfl ?_
  refine G.lshl C d2_35 (n := 36) rfl ?_
  refine G.aloadN C d2_36 rfl rfl (n := 37) rfl ?_
  refine G.iloadN C d2_37 rfl (n := 38) rfl ?_
  refine G.iload C d2_38 rfl (n := 40) rfl ?_
  refine G.iloadN C d2_40 rfl (n := 41) rfl ?_
  refine G.imul C d2_41 (n := 42) rfl ?_
  refine G.fold_int (z := (0 : Int32)) (by decide) ?_
  refine G.iadd C d2_42 (n := 43) rfl ?_
  refine G.iload C d2_43 rfl (n := 45) rfl ?_
  refine G.iadd C d2_45 (n := 46) rfl ?_
  have x46 : (((o + (0 : Int32)) + (0 : Int32))).toInt = o.toInt + ((0 : Nat) : Int) := ixb (A := 0) (B := 0) (by decide) (by decide) (by decide) (by decide) (by decide) q_0 (bnd q_1 ql (by decide))
  refine G.baload C (x := e0) O42 (nn_of x46 q_0) (at_of x46 q_0 p0) d2_46 (n := 47) rfl ?_
  refine G.sipush C (v := (255 : Int32)) d2_47 (by decide) (n := 50) rfl ?_
  refine G.iand C d2_50 (n := 51) rfl ?_
  refine G.i2l C d2_51 (n := 52) rfl ?_
  refine G.lor C d2_52 (n := 53) rfl ?_
  refine G.fold_long (z := S0_0) s0_0 ?_
  refine G.lastore C O41 (by decide) (show (0 : Int32).toInt < ((1 : Nat) : Int) by decide) g8 d2_53 (n := 54) rfl ?_
  intro h47 K48 W49 O50
  have O51 : Longs Z h47 b2 [S0_0] := O50
  have O52 := O42.keep K48 (ninS ne7 nin0)
  have Z53 : n0 ≤ h47.size := Nat.le_trans Z43 K48.1
  have K54 : Keep h0 h47 [] := Keep.tr K44 K48 (allS (Or.inr f9) all0)
  refine G.iincK C (v := (-1 : Int32)) (z := (-1 : Int32)) d2_54 (by decide) rfl (by decide) (l' := #[.val (.ref a), .val (.int o), .val (.int (1 : Int32)), .val (.int (4 : Int32)), .val (.ref b2), .val (.int (0 : Int32)), .val (.int (-1 : Int32))]) rfl (n := 57) rfl ?_
  refine G.goto C d2_57 (by decide) (n := 19) (by decide) ?_
  refine G.iload C d2_19 rfl (n := 21) rfl ?_
  refine G.if_lt C (A := (-1)) (by decide) d2_21 (by decide) (by decide) (n := 24) (n' := 60) rfl (fun c21_55 => ?_) (fun c21_55 => ?_)
  rotate_left
  · exact absurd c21_55 (by decide)
  refine G.iincK C (v := (1 : Int32)) (z := (1 : Int32)) d2_60 (by decide) rfl (by decide) (l' := #[.val (.ref a), .val (.int o), .val (.int (1 : Int32)), .val (.int (4 : Int32)), .val (.ref b2), .val (.int (1 : Int32)), .val (.int (-1 : Int32))]) rfl (n := 63) rfl ?_
  refine G.goto C d2_63 (by decide) (n := 8) (by decide) ?_
  refine G.iload C d2_8 rfl (n := 10) rfl ?_
  refine G.iloadN C d2_10 rfl (n := 11) rfl ?_
  refine G.icmp_ge C (A := 1) (B := 1) (by decide) (by decide) d2_11 (by decide) (by decide) (n := 14) (n' := 66) rfl (fun c11_56 => ?_) (fun c11_56 => ?_)
  rotate_left
  · exact absurd c11_56 (by decide)
  refine G.aload C d2_66 rfl rfl (n := 68) rfl ?_
  refine G.areturn C d2_68 rfl rfl rfl (by decide) (by decide) ?_
  exact ⟨b2, rfl, f9, K54, O51⟩
theorem ef7 (m : MethodId) (a : Addr) (o : Int32) : entryFrame m #[(.ref a), (.int o), (.int (2 : Int32)), (.int (4 : Int32))] 7 = mkF m 0 #[.val (.ref a), .val (.int o), .val (.int (2 : Int32)), .val (.int (4 : Int32)), .unset, .unset, .unset] [] := by first | (simp [entryFrame, mkF, argsToLocals, Value.category]; done) | rfl
abbrev Q_read_4_2 (Z : State) (h0 : Heap) (a : Addr) (o : Int32) (bs : List Int32) (e0 : Int32) (e1 : Int32) (e2 : Int32) (e3 : Int32) (e4 : Int32) (e5 : Int32) (e6 : Int32) (e7 : Int32) (S0_0 : Int64) (S0_1 : Int64) (S0_2 : Int64) (S0_3 : Int64) (S1_0 : Int64) (S1_1 : Int64) (S1_2 : Int64) (S1_3 : Int64) : Option Value → Heap → Prop := fun v h' => ∃ b, v = some (.ref b) ∧ h0.size ≤ b ∧ Keep h0 h' [] ∧ Longs Z h' b [S0_0, S1_0]
abbrev R_read_4_2 : Room := { frames := 0, cells := 1, slots := 2, locals := 0 }
set_option maxRecDepth 65536 in
set_option maxHeartbeats 40000000 in
theorem m_read_4_2 (l : Launch) (Z : State) (a0 : Array Value) (hw : ∀ d ∈ tables_1, d.before a0 Z = true) (a : Addr) (o : Int32) (bs : List Int32) (e0 : Int32) (e1 : Int32) (e2 : Int32) (e3 : Int32) (e4 : Int32) (e5 : Int32) (e6 : Int32) (e7 : Int32) (S0_0 : Int64) (S0_1 : Int64) (S0_2 : Int64) (S0_3 : Int64) (S1_0 : Int64) (S1_1 : Int64) (S1_2 : Int64) (S1_3 : Int64) (h0 : Heap) (n0 : Nat) (Z0 : n0 ≤ h0.size) (O_a : Ints Z h0 a .byte bs) (q_0 : 0 ≤ o.toInt) (q_1 : o.toInt + 8 ≤ bs.length) (p0 : bs[o.toInt.toNat + 0]? = some e0) (p1 : bs[o.toInt.toNat + 1]? = some e1) (p2 : bs[o.toInt.toNat + 2]? = some e2) (p3 : bs[o.toInt.toNat + 3]? = some e3) (p4 : bs[o.toInt.toNat + 4]? = some e4) (p5 : bs[o.toInt.toNat + 5]? = some e5) (p6 : bs[o.toInt.toNat + 6]? = some e6) (p7 : bs[o.toInt.toNat + 7]? = some e7) (s0_3 : (((0 : Int64) <<< ((8 : Int32) &&& 0x3f).toInt64) ||| ((e3 &&& (255 : Int32)).toInt64)) = S0_3) (s0_2 : ((S0_3 <<< ((8 : Int32) &&& 0x3f).toInt64) ||| ((e2 &&& (255 : Int32)).toInt64)) = S0_2) (s0_1 : ((S0_2 <<< ((8 : Int32) &&& 0x3f).toInt64) ||| ((e1 &&& (255 : Int32)).toInt64)) = S0_1) (s0_0 : ((S0_1 <<< ((8 : Int32) &&& 0x3f).toInt64) ||| ((e0 &&& (255 : Int32)).toInt64)) = S0_0) (s1_3 : (((0 : Int64) <<< ((8 : Int32) &&& 0x3f).toInt64) ||| ((e7 &&& (255 : Int32)).toInt64)) = S1_3) (s1_2 : ((S1_3 <<< ((8 : Int32) &&& 0x3f).toInt64) ||| ((e6 &&& (255 : Int32)).toInt64)) = S1_2) (s1_1 : ((S1_2 <<< ((8 : Int32) &&& 0x3f).toInt64) ||| ((e5 &&& (255 : Int32)).toInt64)) = S1_1) (s1_0 : ((S1_1 <<< ((8 : Int32) &&& 0x3f).toInt64) ||| ((e4 &&& (255 : Int32)).toInt64)) = S1_0) : Met l Z (⟨"com/example/parley/parley/KeySketch", "read", "([BIII)[J"⟩ : MethodName) prog_15_method_11_code 7 (some (.array .long)) R_read_4_2 #[(.ref a), (.int o), (.int (2 : Int32)), (.int (4 : Int32))] h0 n0 (Q_read_4_2 Z h0 a o bs e0 e1 e2 e3 e4 e5 e6 e7 S0_0 S0_1 S0_2 S0_3 S1_0 S1_1 S1_2 S1_3) := by
  refine Met.of (plainFor_of_name pn1) (fun m => ef7 m a o) ?_
  intro p e s m args below meth c C
  have ql := O_a.len
  refine G.iloadN C d2_0 rfl (n := 1) rfl ?_
  refine G.newarrayJ C (ty := .long) (cap := 2) (wd hw 10 rfl) rfl rfl rfl (by decide) (by decide) (by decide) d2_1 (n := 3) rfl (c' := 1) (s' := 2) rfl rfl (by decide) (by decide) ?_
  intro h1 b2 q3 E4 O5
  have O6 : Longs Z h1 b2 [0, 0] := O5
  have ne7 : a ≠ b2 := Nat.ne_of_lt (Nat.lt_of_lt_of_le O_a.lt (Nat.le_of_eq q3.symm))
  have g8 : n0 ≤ b2 := Nat.le_trans Z0 (Nat.le_of_eq q3.symm)
  have f9 : h0.size ≤ b2 := Nat.le_trans (Keep.refl h0 []).1 (Nat.le_of_eq q3.symm)
  have K10 := kext E4
  have O11 := O_a.keep K10 nin0
  have Z12 : n0 ≤ h1.size := Nat.le_trans Z0 K10.1
  have K13 : Keep h0 h1 [] := Keep.tr (Keep.refl h0 _) K10 all0
  refine G.astore C d2_3 rfl (l' := #[.val (.ref a), .val (.int o), .val (.int (2 : Int32)), .val (.int (4 : Int32)), .val (.ref b2), .unset, .unset]) rfl (n := 5) rfl ?_
  refine G.iconst C (v := (0 : Int32)) d2_5 (by decide) (n := 6) rfl ?_
  refine G.istore C d2_6 (l' := #[.val (.ref a), .val (.int o), .val (.int (2 : Int32)), .val (.int (4 : Int32)), .val (.ref b2), .val (.int (0 : Int32)), .unset]) rfl (n := 8) rfl ?_
  refine G.iload C d2_8 rfl (n := 10) rfl ?_
  refine G.iloadN C d2_10 rfl (n := 11) rfl ?_
  refine G.icmp_ge C (A := 0) (B := 2) (by decide) (by decide) d2_11 (by decide) (by decide) (n := 14) (n' := 66) rfl (fun c11_14 => ?_) (fun c11_14 => ?_)
  · exact absurd c11_14 (by decide)
  refine G.iloadN C d2_14 rfl (n := 15) rfl ?_
  refine G.iconst C (v := (1 : Int32)) d2_15 (by decide) (n := 16) rfl ?_
  refine G.isub C d2_16 (n := 17) rfl ?_
  refine G.fold_int (z := (3 : Int32)) (by decide) ?_
  refine G.istore C d2_17 (l' := #[.val (.ref a), .val (.int o), .val (.int (2 : Int32)), .val (.int (4 : Int32)), .val (.ref b2), .val (.int (0 : Int32)), .val (.int (3 : Int32))]) rfl (n := 19) rfl ?_
  refine G.iload C d2_19 rfl (n := 21) rfl ?_
  refine G.if_lt C (A := 3) (by decide) d2_21 (by decide) (by decide) (n := 24) (n' := 60) rfl (fun c21_15 => ?_) (fun c21_15 => ?_)
  · exact absurd c21_15 (by decide)
  refine G.aload C d2_24 rfl rfl (n := 26) rfl ?_
  refine G.iload C d2_26 rfl (n := 28) rfl ?_
  refine G.aload C d2_28 rfl rfl (n := 30) rfl ?_
  refine G.iload C d2_30 rfl (n := 32) rfl ?_
  refine G.laload C (x := 0) O6 (by decide) rfl d2_32 (n := 33) rfl ?_
  refine G.bipush C (v := (8 : Int32)) d2_33 (by decide) (n := 35) rfl ?_
  refine G.lshl C d2_35 (n := 36) rfl ?_
  refine G.aloadN C d2_36 rfl rfl (n := 37) rfl ?_
  refine G.iloadN C d2_37 rfl (n := 38) rfl ?_
  refine G.iload C d2_38 rfl (n := 40) rfl ?_
  refine G.iloadN C d2_40 rfl (n := 41) rfl ?_
  refine G.imul C d2_41 (n := 42) rfl ?_
  refine G.fold_int (z := (0 : Int32)) (by decide) ?_
  refine G.iadd C d2_42 (n := 43) rfl ?_
  refine G.iload C d2_43 rfl (n := 45) rfl ?_
  refine G.iadd C d2_45 (n := 46) rfl ?_
  have x16 : (((o + (0 : Int32)) + (3 : Int32))).toInt = o.toInt + ((3 : Nat) : Int) := ixb (A := 0) (B := 3) (by decide) (by decide) (by decide) (by decide) (by decide) q_0 (bnd q_1 ql (by decide))
  refine G.baload C (x := e3) O11 (nn_of x16 q_0) (at_of x16 q_0 p3) d2_46 (n := 47) rfl ?_
  refine G.sipush C (v := (255 : Int32)) d2_47 (by decide) (n := 50) rfl ?_
  refine G.iand C d2_50 (n := 51) rfl ?_
  refine G.i2l C d2_51 (n := 52) rfl ?_
  refine G.lor C d2_52 (n := 53) rfl ?_
  refine G.fold_long (z := S0_3) s0_3 ?_
  refine G.lastore C O6 (by decide) (show (0 : Int32).toInt < ((2 : Nat) : Int) by decide) g8 d2_53 (n := 54) rfl ?_
  intro h17 K18 W19 O20
  have O21 : Longs Z h17 b2 [S0_3, 0] := O20
  have O22 := O11.keep K18 (ninS ne7 nin0)
  have Z23 : n0 ≤ h17.size := Nat.le_trans Z12 K18.1
  have K24 : Keep h0 h17 [] := Keep.tr K13 K18 (allS (Or.inr f9) all0)
  refine G.iincK C (v := (-1 : Int32)) (z := (2 : Int32)) d2_54 (by decide) rfl (by decide) (l' := #[.val (.ref a), .val (.int o), .val (.int (2 : Int32)), .val (.int (4 : Int32)), .val (.ref b2), .val (.int (0 : Int32)), .val (.int (2 : Int32))]) rfl (n := 57) rfl ?_
  refine G.goto C d2_57 (by decide) (n := 19) (by decide) ?_
  refine G.iload C d2_19 rfl (n := 21) rfl ?_
  refine G.if_lt C (A := 2) (by decide) d2_21 (by decide) (by decide) (n := 24) (n' := 60) rfl (fun c21_25 => ?_) (fun c21_25 => ?_)
  · exact absurd c21_25 (by decide)
  refine G.aload C d2_24 rfl rfl (n := 26) rfl ?_
  refine G.iload C d2_26 rfl (n := 28) rfl ?_
  refine G.aload C d2_28 rfl rfl (n := 30) rfl ?_
  refine G.iload C d2_30 rfl (n := 32) rfl ?_
  refine G.laload C (x := S0_3) O21 (by decide) rfl d2_32 (n := 33) rfl ?_
  refine G.bipush C (v := (8 : Int32)) d2_33 (by decide) (n := 35) rfl ?_
  refine G.lshl C d2_35 (n := 36) rfl ?_
  refine G.aloadN C d2_36 rfl rfl (n := 37) rfl ?_
  refine G.iloadN C d2_37 rfl (n := 38) rfl ?_
  refine G.iload C d2_38 rfl (n := 40) rfl ?_
  refine G.iloadN C d2_40 rfl (n := 41) rfl ?_
  refine G.imul C d2_41 (n := 42) rfl ?_
  refine G.fold_int (z := (0 : Int32)) (by decide) ?_
  refine G.iadd C d2_42 (n := 43) rfl ?_
  refine G.iload C d2_43 rfl (n := 45) rfl ?_
  refine G.iadd C d2_45 (n := 46) rfl ?_
  have x26 : (((o + (0 : Int32)) + (2 : Int32))).toInt = o.toInt + ((2 : Nat) : Int) := ixb (A := 0) (B := 2) (by decide) (by decide) (by decide) (by decide) (by decide) q_0 (bnd q_1 ql (by decide))
  refine G.baload C (x := e2) O22 (nn_of x26 q_0) (at_of x26 q_0 p2) d2_46 (n := 47) rfl ?_
  refine G.sipush C (v := (255 : Int32)) d2_47 (by decide) (n := 50) rfl ?_
  refine G.iand C d2_50 (n := 51) rfl ?_
  refine G.i2l C d2_51 (n := 52) rfl ?_
  refine G.lor C d2_52 (n := 53) rfl ?_
  refine G.fold_long (z := S0_2) s0_2 ?_
  refine G.lastore C O21 (by decide) (show (0 : Int32).toInt < ((2 : Nat) : Int) by decide) g8 d2_53 (n := 54) rfl ?_
  intro h27 K28 W29 O30
  have O31 : Longs Z h27 b2 [S0_2, 0] := O30
  have O32 := O22.keep K28 (ninS ne7 nin0)
  have Z33 : n0 ≤ h27.size := Nat.le_trans Z23 K28.1
  have K34 : Keep h0 h27 [] := Keep.tr K24 K28 (allS (Or.inr f9) all0)
  refine G.iincK C (v := (-1 : Int32)) (z := (1 : Int32)) d2_54 (by decide) rfl (by decide) (l' := #[.val (.ref a), .val (.int o), .val (.int (2 : Int32)), .val (.int (4 : Int32)), .val (.ref b2), .val (.int (0 : Int32)), .val (.int (1 : Int32))]) rfl (n := 57) rfl ?_
  refine G.goto C d2_57 (by decide) (n := 19) (by decide) ?_
  refine G.iload C d2_19 rfl (n := 21) rfl ?_
  refine G.if_lt C (A := 1) (by decide) d2_21 (by decide) (by decide) (n := 24) (n' := 60) rfl (fun c21_35 => ?_) (fun c21_35 => ?_)
  · exact absurd c21_35 (by decide)
  refine G.aload C d2_24 rfl rfl (n := 26) rfl ?_
  refine G.iload C d2_26 rfl (n := 28) rfl ?_
  refine G.aload C d2_28 rfl rfl (n := 30) rfl ?_
  refine G.iload C d2_30 rfl (n := 32) rfl ?_
  refine G.laload C (x := S0_2) O31 (by decide) rfl d2_32 (n := 33) rfl ?_
  refine G.bipush C (v := (8 : Int32)) d2_33 (by decide) (n := 35) rfl ?_
  refine G.lshl C d2_35 (n := 36) rfl ?_
  refine G.aloadN C d2_36 rfl rfl (n := 37) rfl ?_
  refine G.iloadN C d2_37 rfl (n := 38) rfl ?_
  refine G.iload C d2_38 rfl (n := 40) rfl ?_
  refine G.iloadN C d2_40 rfl (n := 41) rfl ?_
  refine G.imul C d2_41 (n := 42) rfl ?_
  refine G.fold_int (z := (0 : Int32)) (by decide) ?_
  refine G.iadd C d2_42 (n := 43) rfl ?_
  refine G.iload C d2_43 rfl (n := 45) rfl ?_
  refine G.iadd C d2_45 (n := 46) rfl ?_
  have x36 : (((o + (0 : Int32)) + (1 : Int32))).toInt = o.toInt + ((1 : Nat) : Int) := ixb (A := 0) (B := 1) (by decide) (by decide) (by decide) (by decide) (by decide) q_0 (bnd q_1 ql (by decide))
  refine G.baload C (x := e1) O32 (nn_of x36 q_0) (at_of x36 q_0 p1) d2_46 (n := 47) rfl ?_
  refine G.sipush C (v := (255 : Int32)) d2_47 (by decide) (n := 50) rfl ?_
  refine G.iand C d2_50 (n := 51) rfl ?_
  refine G.i2l C d2_51 (n := 52) rfl ?_
  refine G.lor C d2_52 (n := 53) rfl ?_
  refine G.fold_long (z := S0_1) s0_1 ?_
  refine G.lastore C O31 (by decide) (show (0 : Int32).toInt < ((2 : Nat) : Int) by decide) g8 d2_53 (n := 54) rfl ?_
  intro h37 K38 W39 O40
  have O41 : Longs Z h37 b2 [S0_1, 0] := O40
  have O42 := O32.keep K38 (ninS ne7 nin0)
  have Z43 : n0 ≤ h37.size := Nat.le_trans Z33 K38.1
  have K44 : Keep h0 h37 [] := Keep.tr K34 K38 (allS (Or.inr f9) all0)
  refine G.iincK C (v := (-1 : Int32)) (z := (0 : Int32)) d2_54 (by decide) rfl (by decide) (l' := #[.val (.ref a), .val (.int o), .val (.int (2 : Int32)), .val (.int (4 : Int32)), .val (.ref b2), .val (.int (0 : Int32)), .val (.int (0 : Int32))]) rfl (n := 57) rfl ?_
  refine G.goto C d2_57 (by decide) (n := 19) (by decide) ?_
  refine G.iload C d2_19 rfl (n := 21) rfl ?_
  refine G.if_lt C (A := 0) (by decide) d2_21 (by decide) (by decide) (n := 24) (n' := 60) rfl (fun c21_45 => ?_) (fun c21_45 => ?_)
  · exact absurd c21_45 (by decide)
  refine G.aload C d2_24 rfl rfl (n := 26) rfl ?_
  refine G.iload C d2_26 rfl (n := 28) rfl ?_
  refine G.aload C d2_28 rfl rfl (n := 30) rfl ?_
  refine G.iload C d2_30 rfl (n := 32) rfl ?_
  refine G.laload C (x := S0_1) O41 (by decide) rfl d2_32 (n := 33) rfl ?_
  refine G.bipush C (v := (8 : Int32)) d2_33 (by decide) (n := 35) rfl ?_
  refine G.lshl C d2_35 (n := 36) rfl ?_
  refine G.aloadN C d2_36 rfl rfl (n := 37) rfl ?_
  refine G.iloadN C d2_37 rfl (n := 38) rfl ?_
  refine G.iload C d2_38 rfl (n := 40) rfl ?_
  refine G.iloadN C d2_40 rfl (n := 41) rfl ?_
  refine G.imul C d2_41 (n := 42) rfl ?_
  refine G.fold_int (z := (0 : Int32)) (by decide) ?_
  refine G.iadd C d2_42 (n := 43) rfl ?_
  refine G.iload C d2_43 rfl (n := 45) rfl ?_
  refine G.iadd C d2_45 (n := 46) rfl ?_
  have x46 : (((o + (0 : Int32)) + (0 : Int32))).toInt = o.toInt + ((0 : Nat) : Int) := ixb (A := 0) (B := 0) (by decide) (by decide) (by decide) (by decide) (by decide) q_0 (bnd q_1 ql (by decide))
  refine G.baload C (x := e0) O42 (nn_of x46 q_0) (at_of x46 q_0 p0) d2_46 (n := 47) rfl ?_
  refine G.sipush C (v := (255 : Int32)) d2_47 (by decide) (n := 50) rfl ?_
  refine G.iand C d2_50 (n := 51) rfl ?_
  refine G.i2l C d2_51 (n := 52) rfl ?_
  refine G.lor C d2_52 (n := 53) rfl ?_
  refine G.fold_long (z := S0_0) s0_0 ?_
  refine G.lastore C O41 (by decide) (show (0 : Int32).toInt < ((2 : Nat) : Int) by decide) g8 d2_53 (n := 54) rfl ?_
  intro h47 K48 W49 O50
  have O51 : Longs Z h47 b2 [S0_0, 0] := O50
  have O52 := O42.keep K48 (ninS ne7 nin0)
  have Z53 : n0 ≤ h47.size := Nat.le_trans Z43 K48.1
  have K54 : Keep h0 h47 [] := Keep.tr K44 K48 (allS (Or.inr f9) all0)
  refine G.iincK C (v := (-1 : Int32)) (z := (-1 : Int32)) d2_54 (by decide) rfl (by decide) (l' := #[.val (.ref a), .val (.int o), .val (.int (2 : Int32)), .val (.int (4 : Int32)), .val (.ref b2), .val (.int (0 : Int32)), .val (.int (-1 : Int32))]) rfl (n := 57) rfl ?_
  refine G.goto C d2_57 (by decide) (n := 19) (by decide) ?_
  refine G.iload C d2_19 rfl (n := 21) rfl ?_
  refine G.if_lt C (A := (-1)) (by decide) d2_21 (by decide) (by decide) (n := 24) (n' := 60) rfl (fun c21_55 => ?_) (fun c21_55 => ?_)
  rotate_left
  · exact absurd c21_55 (by decide)
  refine G.iincK C (v := (1 : Int32)) (z := (1 : Int32)) d2_60 (by decide) rfl (by decide) (l' := #[.val (.ref a), .val (.int o), .val (.int (2 : Int32)), .val (.int (4 : Int32)), .val (.ref b2), .val (.int (1 : Int32)), .val (.int (-1 : Int32))]) rfl (n := 63) rfl ?_
  refine G.goto C d2_63 (by decide) (n := 8) (by decide) ?_
  refine G.iload C d2_8 rfl (n := 10) rfl ?_
  refine G.iloadN C d2_10 rfl (n := 11) rfl ?_
  refine G.icmp_ge C (A := 1) (B := 2) (by decide) (by decide) d2_11 (by decide) (by decide) (n := 14) (n' := 66) rfl (fun c11_56 => ?_) (fun c11_56 => ?_)
  · exact absurd c11_56 (by decide)
  refine G.iloadN C d2_14 rfl (n := 15) rfl ?_
  refine G.iconst C (v := (1 : Int32)) d2_15 (by decide) (n := 16) rfl ?_
  refine G.isub C d2_16 (n := 17) rfl ?_
  refine G.fold_int (z := (3 : Int32)) (by decide) ?_
  refine G.istore C d2_17 (l' := #[.val (.ref a), .val (.int o), .val (.int (2 : Int32)), .val (.int (4 : Int32)), .val (.ref b2), .val (.int (1 : Int32)), .val (.int (3 : Int32))]) rfl (n := 19) rfl ?_
  refine G.iload C d2_19 rfl (n := 21) rfl ?_
  refine G.if_lt C (A := 3) (by decide) d2_21 (by decide) (by decide) (n := 24) (n' := 60) rfl (fun c21_57 => ?_) (fun c21_57 => ?_)
  · exact absurd c21_57 (by decide)
  refine G.aload C d2_24 rfl rfl (n := 26) rfl ?_
  refine G.iload C d2_26 rfl (n := 28) rfl ?_
  refine G.aload C d2_28 rfl rfl (n := 30) rfl ?_
  refine G.iload C d2_30 rfl (n := 32) rfl ?_
  refine G.laload C (x := 0) O51 (by decide) rfl d2_32 (n := 33) rfl ?_
  refine G.bipush C (v := (8 : Int32)) d2_33 (by decide) (n := 35) rfl ?_
  refine G.lshl C d2_35 (n := 36) rfl ?_
  refine G.aloadN C d2_36 rfl rfl (n := 37) rfl ?_
  refine G.iloadN C d2_37 rfl (n := 38) rfl ?_
  refine G.iload C d2_38 rfl (n := 40) rfl ?_
  refine G.iloadN C d2_40 rfl (n := 41) rfl ?_
  refine G.imul C d2_41 (n := 42) rfl ?_
  refine G.fold_int (z := (4 : Int32)) (by decide) ?_
  refine G.iadd C d2_42 (n := 43) rfl ?_
  refine G.iload C d2_43 rfl (n := 45) rfl ?_
  refine G.iadd C d2_45 (n := 46) rfl ?_
  have x58 : (((o + (4 : Int32)) + (3 : Int32))).toInt = o.toInt + ((7 : Nat) : Int) := ixb (A := 4) (B := 3) (by decide) (by decide) (by decide) (by decide) (by decide) q_0 (bnd q_1 ql (by decide))
  refine G.baload C (x := e7) O52 (nn_of x58 q_0) (at_of x58 q_0 p7) d2_46 (n := 47) rfl ?_
  refine G.sipush C (v := (255 : Int32)) d2_47 (by decide) (n := 50) rfl ?_
  refine G.iand C d2_50 (n := 51) rfl ?_
  refine G.i2l C d2_51 (n := 52) rfl ?_
  refine G.lor C d2_52 (n := 53) rfl ?_
  refine G.fold_long (z := S1_3) s1_3 ?_
  refine G.lastore C O51 (by decide) (show (1 : Int32).toInt < ((2 : Nat) : Int) by decide) g8 d2_53 (n := 54) rfl ?_
  intro h59 K60 W61 O62
  have O63 : Longs Z h59 b2 [S0_0, S1_3] := O62
  have O64 := O52.keep K60 (ninS ne7 nin0)
  have Z65 : n0 ≤ h59.size := Nat.le_trans Z53 K60.1
  have K66 : Keep h0 h59 [] := Keep.tr K54 K60 (allS (Or.inr f9) all0)
  refine G.iincK C (v := (-1 : Int32)) (z := (2 : Int32)) d2_54 (by decide) rfl (by decide) (l' := #[.val (.ref a), .val (.int o), .val (.int (2 : Int32)), .val (.int (4 : Int32)), .val (.ref b2), .val (.int (1 : Int32)), .val (.int (2 : Int32))]) rfl (n := 57) rfl ?_
  refine G.goto C d2_57 (by decide) (n := 19) (by decide) ?_
  refine G.iload C d2_19 rfl (n := 21) rfl ?_
  refine G.if_lt C (A := 2) (by decide) d2_21 (by decide) (by decide) (n := 24) (n' := 60) rfl (fun c21_67 => ?_) (fun c21_67 => ?_)
  · exact absurd c21_67 (by decide)
  refine G.aload C d2_24 rfl rfl (n := 26) rfl ?_
  refine G.iload C d2_26 rfl (n := 28) rfl ?_
  refine G.aload C d2_28 rfl rfl (n := 30) rfl ?_
  refine G.iload C d2_30 rfl (n := 32) rfl ?_
  refine G.laload C (x := S1_3) O63 (by decide) rfl d2_32 (n := 33) rfl ?_
  refine G.bipush C (v := (8 : Int32)) d2_33 (by decide) (n := 35) rfl ?_
  refine G.lshl C d2_35 (n := 36) rfl ?_
  refine G.aloadN C d2_36 rfl rfl (n := 37) rfl ?_
  refine G.iloadN C d2_37 rfl (n := 38) rfl ?_
  refine G.iload C d2_38 rfl (n := 40) rfl ?_
  refine G.iloadN C d2_40 rfl (n := 41) rfl ?_
  refine G.imul C d2_41 (n := 42) rfl ?_
  refine G.fold_int (z := (4 : Int32)) (by decide) ?_
  refine G.iadd C d2_42 (n := 43) rfl ?_
  refine G.iload C d2_43 rfl (n := 45) rfl ?_
  refine G.iadd C d2_45 (n := 46) rfl ?_
  have x68 : (((o + (4 : Int32)) + (2 : Int32))).toInt = o.toInt + ((6 : Nat) : Int) := ixb (A := 4) (B := 2) (by decide) (by decide) (by decide) (by decide) (by decide) q_0 (bnd q_1 ql (by decide))
  refine G.baload C (x := e6) O64 (nn_of x68 q_0) (at_of x68 q_0 p6) d2_46 (n := 47) rfl ?_
  refine G.sipush C (v := (255 : Int32)) d2_47 (by decide) (n := 50) rfl ?_
  refine G.iand C d2_50 (n := 51) rfl ?_
  refine G.i2l C d2_51 (n := 52) rfl ?_
  refine G.lor C d2_52 (n := 53) rfl ?_
  refine G.fold_long (z := S1_2) s1_2 ?_
  refine G.lastore C O63 (by decide) (show (1 : Int32).toInt < ((2 : Nat) : Int) by decide) g8 d2_53 (n := 54) rfl ?_
  intro h69 K70 W71 O72
  have O73 : Longs Z h69 b2 [S0_0, S1_2] := O72
  have O74 := O64.keep K70 (ninS ne7 nin0)
  have Z75 : n0 ≤ h69.size := Nat.le_trans Z65 K70.1
  have K76 : Keep h0 h69 [] := Keep.tr K66 K70 (allS (Or.inr f9) all0)
  refine G.iincK C (v := (-1 : Int32)) (z := (1 : Int32)) d2_54 (by decide) rfl (by decide) (l' := #[.val (.ref a), .val (.int o), .val (.int (2 : Int32)), .val (.int (4 : Int32)), .val (.ref b2), .val (.int (1 : Int32)), .val (.int (1 : Int32))]) rfl (n := 57) rfl ?_
  refine G.goto C d2_57 (by decide) (n := 19) (by decide) ?_
  refine G.iload C d2_19 rfl (n := 21) rfl ?_
  refine G.if_lt C (A := 1) (by decide) d2_21 (by decide) (by decide) (n := 24) (n' := 60) rfl (fun c21_77 => ?_) (fun c21_77 => ?_)
  · exact absurd c21_77 (by decide)
  refine G.aload C d2_24 rfl rfl (n := 26) rfl ?_
  refine G.iload C d2_26 rfl (n := 28) rfl ?_
  refine G.aload C d2_28 rfl rfl (n := 30) rfl ?_
  refine G.iload C d2_30 rfl (n := 32) rfl ?_
  refine G.laload C (x := S1_2) O73 (by decide) rfl d2_32 (n := 33) rfl ?_
  refine G.bipush C (v := (8 : Int32)) d2_33 (by decide) (n := 35) rfl ?_
  refine G.lshl C d2_35 (n := 36) rfl ?_
  refine G.aloadN C d2_36 rfl rfl (n := 37) rfl ?_
  refine G.iloadN C d2_37 rfl (n := 38) rfl ?_
  refine G.iload C d2_38 rfl (n := 40) rfl ?_
  refine G.iloadN C d2_40 rfl (n := 41) rfl ?_
  refine G.imul C d2_41 (n := 42) rfl ?_
  refine G.fold_int (z := (4 : Int32)) (by decide) ?_
  refine G.iadd C d2_42 (n := 43) rfl ?_
  refine G.iload C d2_43 rfl (n := 45) rfl ?_
  refine G.iadd C d2_45 (n := 46) rfl ?_
  have x78 : (((o + (4 : Int32)) + (1 : Int32))).toInt = o.toInt + ((5 : Nat) : Int) := ixb (A := 4) (B := 1) (by decide) (by decide) (by decide) (by decide) (by decide) q_0 (bnd q_1 ql (by decide))
  refine G.baload C (x := e5) O74 (nn_of x78 q_0) (at_of x78 q_0 p5) d2_46 (n := 47) rfl ?_
  refine G.sipush C (v := (255 : Int32)) d2_47 (by decide) (n := 50) rfl ?_
  refine G.iand C d2_50 (n := 51) rfl ?_
  refine G.i2l C d2_51 (n := 52) rfl ?_
  refine G.lor C d2_52 (n := 53) rfl ?_
  refine G.fold_long (z := S1_1) s1_1 ?_
  refine G.lastore C O73 (by decide) (show (1 : Int32).toInt < ((2 : Nat) : Int) by decide) g8 d2_53 (n := 54) rfl ?_
  intro h79 K80 W81 O82
  have O83 : Longs Z h79 b2 [S0_0, S1_1] := O82
  have O84 := O74.keep K80 (ninS ne7 nin0)
  have Z85 : n0 ≤ h79.size := Nat.le_trans Z75 K80.1
  have K86 : Keep h0 h79 [] := Keep.tr K76 K80 (allS (Or.inr f9) all0)
  refine G.iincK C (v := (-1 : Int32)) (z := (0 : Int32)) d2_54 (by decide) rfl (by decide) (l' := #[.val (.ref a), .val (.int o), .val (.int (2 : Int32)), .val (.int (4 : Int32)), .val (.ref b2), .val (.int (1 : Int32)), .val (.int (0 : Int32))]) rfl (n := 57) rfl ?_
  refine G.goto C d2_57 (by decide) (n := 19) (by decide) ?_
  refine G.iload C d2_19 rfl (n := 21) rfl ?_
  refine G.if_lt C (A := 0) (by decide) d2_21 (by decide) (by decide) (n := 24) (n' := 60) rfl (fun c21_87 => ?_) (fun c21_87 => ?_)
  · exact absurd c21_87 (by decide)
  refine G.aload C d2_24 rfl rfl (n := 26) rfl ?_
  refine G.iload C d2_26 rfl (n := 28) rfl ?_
  refine G.aload C d2_28 rfl rfl (n := 30) rfl ?_
  refine G.iload C d2_30 rfl (n := 32) rfl ?_
  refine G.laload C (x := S1_1) O83 (by decide) rfl d2_32 (n := 33) rfl ?_
  refine G.bipush C (v := (8 : Int32)) d2_33 (by decide) (n := 35) rfl ?_
  refine G.lshl C d2_35 (n := 36) rfl ?_
  refine G.aloadN C d2_36 rfl rfl (n := 37) rfl ?_
  refine G.iloadN C d2_37 rfl (n := 38) rfl ?_
  refine G.iload C d2_38 rfl (n := 40) rfl ?_
  refine G.iloadN C d2_40 rfl (n := 41) rfl ?_
  refine G.imul C d2_41 (n := 42) rfl ?_
  refine G.fold_int (z := (4 : Int32)) (by decide) ?_
  refine G.iadd C d2_42 (n := 43) rfl ?_
  refine G.iload C d2_43 rfl (n := 45) rfl ?_
  refine G.iadd C d2_45 (n := 46) rfl ?_
  have x88 : (((o + (4 : Int32)) + (0 : Int32))).toInt = o.toInt + ((4 : Nat) : Int) := ixb (A := 4) (B := 0) (by decide) (by decide) (by decide) (by decide) (by decide) q_0 (bnd q_1 ql (by decide))
  refine G.baload C (x := e4) O84 (nn_of x88 q_0) (at_of x88 q_0 p4) d2_46 (n := 47) rfl ?_
  refine G.sipush C (v := (255 : Int32)) d2_47 (by decide) (n := 50) rfl ?_
  refine G.iand C d2_50 (n := 51) rfl ?_
  refine G.i2l C d2_51 (n := 52) rfl ?_
  refine G.lor C d2_52 (n := 53) rfl ?_
  refine G.fold_long (z := S1_0) s1_0 ?_
  refine G.lastore C O83 (by decide) (show (1 : Int32).toInt < ((2 : Nat) : Int) by decide) g8 d2_53 (n := 54) rfl ?_
  intro h89 K90 W91 O92
  have O93 : Longs Z h89 b2 [S0_0, S1_0] := O92
  have O94 := O84.keep K90 (ninS ne7 nin0)
  have Z95 : n0 ≤ h89.size := Nat.le_trans Z85 K90.1
  have K96 : Keep h0 h89 [] := Keep.tr K86 K90 (allS (Or.inr f9) all0)
  refine G.iincK C (v := (-1 : Int32)) (z := (-1 : Int32)) d2_54 (by decide) rfl (by decide) (l' := #[.val (.ref a), .val (.int o), .val (.int (2 : Int32)), .val (.int (4 : Int32)), .val (.ref b2), .val (.int (1 : Int32)), .val (.int (-1 : Int32))]) rfl (n := 57) rfl ?_
  refine G.goto C d2_57 (by decide) (n := 19) (by decide) ?_
  refine G.iload C d2_19 rfl (n := 21) rfl ?_
  refine G.if_lt C (A := (-1)) (by decide) d2_21 (by decide) (by decide) (n := 24) (n' := 60) rfl (fun c21_97 => ?_) (fun c21_97 => ?_)
  rotate_left
  · exact absurd c21_97 (by decide)
  refine G.iincK C (v := (1 : Int32)) (z := (2 : Int32)) d2_60 (by decide) rfl (by decide) (l' := #[.val (.ref a), .val (.int o), .val (.int (2 : Int32)), .val (.int (4 : Int32)), .val (.ref b2), .val (.int (2 : Int32)), .val (.int (-1 : Int32))]) rfl (n := 63) rfl ?_
  refine G.goto C d2_63 (by decide) (n := 8) (by decide) ?_
  refine G.iload C d2_8 rfl (n := 10) rfl ?_
  refine G.iloadN C d2_10 rfl (n := 11) rfl ?_
  refine G.icmp_ge C (A := 2) (B := 2) (by decide) (by decide) d2_11 (by decide) (by decide) (n := 14) (n' := 66) rfl (fun c11_98 => ?_) (fun c11_98 => ?_)
  rotate_left
  · exact absurd c11_98 (by decide)
  refine G.aload C d2_66 rfl rfl (n := 68) rfl ?_
  refine G.areturn C d2_68 rfl rfl rfl (by decide) (by decide) ?_
  exact ⟨b2, rfl, f9, K96, O93⟩
theorem ef8 (m : MethodId) (a : Addr) (o : Int32) : entryFrame m #[(.ref a), (.int o), (.int (3 : Int32)), (.int (4 : Int32))] 7 = mkF m 0 #[.val (.ref a), .val (.int o), .val (.int (3 : Int32)), .val (.int (4 : Int32)), .unset, .unset, .unset] [] := by first | (simp [entryFrame, mkF, argsToLocals, Value.category]; done) | rfl
abbrev Q_read_4_3 (Z : State) (h0 : Heap) (a : Addr) (o : Int32) (bs : List Int32) (e0 : Int32) (e1 : Int32) (e2 : Int32) (e3 : Int32) (e4 : Int32) (e5 : Int32) (e6 : Int32) (e7 : Int32) (e8 : Int32) (e9 : Int32) (e10 : Int32) (e11 : Int32) (S0_0 : Int64) (S0_1 : Int64) (S0_2 : Int64) (S0_3 : Int64) (S1_0 : Int64) (S1_1 : Int64) (S1_2 : Int64) (S1_3 : Int64) (S2_0 : Int64) (S2_1 : Int64) (S2_2 : Int64) (S2_3 : Int64) : Option Value → Heap → Prop := fun v h' => ∃ b, v = some (.ref b) ∧ h0.size ≤ b ∧ Keep h0 h' [] ∧ Longs Z h' b [S0_0, S1_0, S2_0]
abbrev R_read_4_3 : Room := { frames := 0, cells := 1, slots := 3, locals := 0 }
set_option maxRecDepth 65536 in
set_option maxHeartbeats 40000000 in
theorem m_read_4_3 (l : Launch) (Z : State) (a0 : Array Value) (hw : ∀ d ∈ tables_1, d.before a0 Z = true) (a : Addr) (o : Int32) (bs : List Int32) (e0 : Int32) (e1 : Int32) (e2 : Int32) (e3 : Int32) (e4 : Int32) (e5 : Int32) (e6 : Int32) (e7 : Int32) (e8 : Int32) (e9 : Int32) (e10 : Int32) (e11 : Int32) (S0_0 : Int64) (S0_1 : Int64) (S0_2 : Int64) (S0_3 : Int64) (S1_0 : Int64) (S1_1 : Int64) (S1_2 : Int64) (S1_3 : Int64) (S2_0 : Int64) (S2_1 : Int64) (S2_2 : Int64) (S2_3 : Int64) (h0 : Heap) (n0 : Nat) (Z0 : n0 ≤ h0.size) (O_a : Ints Z h0 a .byte bs) (q_0 : 0 ≤ o.toInt) (q_1 : o.toInt + 12 ≤ bs.length) (p0 : bs[o.toInt.toNat + 0]? = some e0) (p1 : bs[o.toInt.toNat + 1]? = some e1) (p2 : bs[o.toInt.toNat + 2]? = some e2) (p3 : bs[o.toInt.toNat + 3]? = some e3) (p4 : bs[o.toInt.toNat + 4]? = some e4) (p5 : bs[o.toInt.toNat + 5]? = some e5) (p6 : bs[o.toInt.toNat + 6]? = some e6) (p7 : bs[o.toInt.toNat + 7]? = some e7) (p8 : bs[o.toInt.toNat + 8]? = some e8) (p9 : bs[o.toInt.toNat + 9]? = some e9) (p10 : bs[o.toInt.toNat + 10]? = some e10) (p11 : bs[o.toInt.toNat + 11]? = some e11) (s0_3 : (((0 : Int64) <<< ((8 : Int32) &&& 0x3f).toInt64) ||| ((e3 &&& (255 : Int32)).toInt64)) = S0_3) (s0_2 : ((S0_3 <<< ((8 : Int32) &&& 0x3f).toInt64) ||| ((e2 &&& (255 : Int32)).toInt64)) = S0_2) (s0_1 : ((S0_2 <<< ((8 : Int32) &&& 0x3f).toInt64) ||| ((e1 &&& (255 : Int32)).toInt64)) = S0_1) (s0_0 : ((S0_1 <<< ((8 : Int32) &&& 0x3f).toInt64) ||| ((e0 &&& (255 : Int32)).toInt64)) = S0_0) (s1_3 : (((0 : Int64) <<< ((8 : Int32) &&& 0x3f).toInt64) ||| ((e7 &&& (255 : Int32)).toInt64)) = S1_3) (s1_2 : ((S1_3 <<< ((8 : Int32) &&& 0x3f).toInt64) ||| ((e6 &&& (255 : Int32)).toInt64)) = S1_2) (s1_1 : ((S1_2 <<< ((8 : Int32) &&& 0x3f).toInt64) ||| ((e5 &&& (255 : Int32)).toInt64)) = S1_1) (s1_0 : ((S1_1 <<< ((8 : Int32) &&& 0x3f).toInt64) ||| ((e4 &&& (255 : Int32)).toInt64)) = S1_0) (s2_3 : (((0 : Int64) <<< ((8 : Int32) &&& 0x3f).toInt64) ||| ((e11 &&& (255 : Int32)).toInt64)) = S2_3) (s2_2 : ((S2_3 <<< ((8 : Int32) &&& 0x3f).toInt64) ||| ((e10 &&& (255 : Int32)).toInt64)) = S2_2) (s2_1 : ((S2_2 <<< ((8 : Int32) &&& 0x3f).toInt64) ||| ((e9 &&& (255 : Int32)).toInt64)) = S2_1) (s2_0 : ((S2_1 <<< ((8 : Int32) &&& 0x3f).toInt64) ||| ((e8 &&& (255 : Int32)).toInt64)) = S2_0) : Met l Z (⟨"com/example/parley/parley/KeySketch", "read", "([BIII)[J"⟩ : MethodName) prog_15_method_11_code 7 (some (.array .long)) R_read_4_3 #[(.ref a), (.int o), (.int (3 : Int32)), (.int (4 : Int32))] h0 n0 (Q_read_4_3 Z h0 a o bs e0 e1 e2 e3 e4 e5 e6 e7 e8 e9 e10 e11 S0_0 S0_1 S0_2 S0_3 S1_0 S1_1 S1_2 S1_3 S2_0 S2_1 S2_2 S2_3) := by
  refine Met.of (plainFor_of_name pn1) (fun m => ef8 m a o) ?_
  intro p e s m args below meth c C
  have ql := O_a.len
  refine G.iloadN C d2_0 rfl (n := 1) rfl ?_
  refine G.newarrayJ C (ty := .long) (cap := 3) (wd hw 10 rfl) rfl rfl rfl (by decide) (by decide) (by decide) d2_1 (n := 3) rfl (c' := 1) (s' := 3) rfl rfl (by decide) (by decide) ?_
  intro h1 b2 q3 E4 O5
  have O6 : Longs Z h1 b2 [0, 0, 0] := O5
  have ne7 : a ≠ b2 := Nat.ne_of_lt (Nat.lt_of_lt_of_le O_a.lt (Nat.le_of_eq q3.symm))
  have g8 : n0 ≤ b2 := Nat.le_trans Z0 (Nat.le_of_eq q3.symm)
  have f9 : h0.size ≤ b2 := Nat.le_trans (Keep.refl h0 []).1 (Nat.le_of_eq q3.symm)
  have K10 := kext E4
  have O11 := O_a.keep K10 nin0
  have Z12 : n0 ≤ h1.size := Nat.le_trans Z0 K10.1
  have K13 : Keep h0 h1 [] := Keep.tr (Keep.refl h0 _) K10 all0
  refine G.astore C d2_3 rfl (l' := #[.val (.ref a), .val (.int o), .val (.int (3 : Int32)), .val (.int (4 : Int32)), .val (.ref b2), .unset, .unset]) rfl (n := 5) rfl ?_
  refine G.iconst C (v := (0 : Int32)) d2_5 (by decide) (n := 6) rfl ?_
  refine G.istore C d2_6 (l' := #[.val (.ref a), .val (.int o), .val (.int (3 : Int32)), .val (.int (4 : Int32)), .val (.ref b2), .val (.int (0 : Int32)), .unset]) rfl (n := 8) rfl ?_
  refine G.iload C d2_8 rfl (n := 10) rfl ?_
  refine G.iloadN C d2_10 rfl (n := 11) rfl ?_
  refine G.icmp_ge C (A := 0) (B := 3) (by decide) (by decide) d2_11 (by decide) (by decide) (n := 14) (n' := 66) rfl (fun c11_14 => ?_) (fun c11_14 => ?_)
  · exact absurd c11_14 (by decide)
  refine G.iloadN C d2_14 rfl (n := 15) rfl ?_
  refine G.iconst C (v := (1 : Int32)) d2_15 (by decide) (n := 16) rfl ?_
  refine G.isub C d2_16 (n := 17) rfl ?_
  refine G.fold_int (z := (3 : Int32)) (by decide) ?_
  refine G.istore C d2_17 (l' := #[.val (.ref a), .val (.int o), .val (.int (3 : Int32)), .val (.int (4 : Int32)), .val (.ref b2), .val (.int (0 : Int32)), .val (.int (3 : Int32))]) rfl (n := 19) rfl ?_
  refine G.iload C d2_19 rfl (n := 21) rfl ?_
  refine G.if_lt C (A := 3) (by decide) d2_21 (by decide) (by decide) (n := 24) (n' := 60) rfl (fun c21_15 => ?_) (fun c21_15 => ?_)
  · exact absurd c21_15 (by decide)
  refine G.aload C d2_24 rfl rfl (n := 26) rfl ?_
  refine G.iload C d2_26 rfl (n := 28) rfl ?_
  refine G.aload C d2_28 rfl rfl (n := 30) rfl ?_
  refine G.iload C d2_30 rfl (n := 32) rfl ?_
  refine G.laload C (x := 0) O6 (by decide) rfl d2_32 (n := 33) rfl ?_
  refine G.bipush C (v := (8 : Int32)) d2_33 (by decide) (n := 35) rfl ?_
  refine G.lshl C d2_35 (n := 36) rfl ?_
  refine G.aloadN C d2_36 rfl rfl (n := 37) rfl ?_
  refine G.iloadN C d2_37 rfl (n := 38) rfl ?_
  refine G.iload C d2_38 rfl (n := 40) rfl ?_
  refine G.iloadN C d2_40 rfl (n := 41) rfl ?_
  refine G.imul C d2_41 (n := 42) rfl ?_
  refine G.fold_int (z := (0 : Int32)) (by decide) ?_
  refine G.iadd C d2_42 (n := 43) rfl ?_
  refine G.iload C d2_43 rfl (n := 45) rfl ?_
  refine G.iadd C d2_45 (n := 46) rfl ?_
  have x16 : (((o + (0 : Int32)) + (3 : Int32))).toInt = o.toInt + ((3 : Nat) : Int) := ixb (A := 0) (B := 3) (by decide) (by decide) (by decide) (by decide) (by decide) q_0 (bnd q_1 ql (by decide))
  refine G.baload C (x := e3) O11 (nn_of x16 q_0) (at_of x16 q_0 p3) d2_46 (n := 47) rfl ?_
  refine G.sipush C (v := (255 : Int32)) d2_47 (by decide) (n := 50) rfl ?_
  refine G.iand C d2_50 (n := 51) rfl ?_
  refine G.i2l C d2_51 (n := 52) rfl ?_
  refine G.lor C d2_52 (n := 53) rfl ?_
  refine G.fold_long (z := S0_3) s0_3 ?_
  refine G.lastore C O6 (by decide) (show (0 : Int32).toInt < ((3 : Nat) : Int) by decide) g8 d2_53 (n := 54) rfl ?_
  intro h17 K18 W19 O20
  have O21 : Longs Z h17 b2 [S0_3, 0, 0] := O20
  have O22 := O11.keep K18 (ninS ne7 nin0)
  have Z23 : n0 ≤ h17.size := Nat.le_trans Z12 K18.1
  have K24 : Keep h0 h17 [] := Keep.tr K13 K18 (allS (Or.inr f9) all0)
  refine G.iincK C (v := (-1 : Int32)) (z := (2 : Int32)) d2_54 (by decide) rfl (by decide) (l' := #[.val (.ref a), .val (.int o), .val (.int (3 : Int32)), .val (.int (4 : Int32)), .val (.ref b2), .val (.int (0 : Int32)), .val (.int (2 : Int32))]) rfl (n := 57) rfl ?_
  refine G.goto C d2_57 (by decide) (n := 19) (by decide) ?_
  refine G.iload C d2_19 rfl (n := 21) rfl ?_
  refine G.if_lt C (A := 2) (by decide) d2_21 (by decide) (by decide) (n := 24) (n' := 60) rfl (fun c21_25 => ?_) (fun c21_25 => ?_)
  · exact absurd c21_25 (by decide)
  refine G.aload C d2_24 rfl rfl (n := 26) rfl ?_
  refine G.iload C d2_26 rfl (n := 28) rfl ?_
  refine G.aload C d2_28 rfl rfl (n := 30) rfl ?_
  refine G.iload C d2_30 rfl (n := 32) rfl ?_
  refine G.laload C (x := S0_3) O21 (by decide) rfl d2_32 (n := 33) rfl ?_
  refine G.bipush C (v := (8 : Int32)) d2_33 (by decide) (n := 35) rfl ?_
  refine G.lshl C d2_35 (n := 36) rfl ?_
  refine G.aloadN C d2_36 rfl rfl (n := 37) rfl ?_
  refine G.iloadN C d2_37 rfl (n := 38) rfl ?_
  refine G.iload C d2_38 rfl (n := 40) rfl ?_
  refine G.iloadN C d2_40 rfl (n := 41) rfl ?_
  refine G.imul C d2_41 (n := 42) rfl ?_
  refine G.fold_int (z := (0 : Int32)) (by decide) ?_
  refine G.iadd C d2_42 (n := 43) rfl ?_
  refine G.iload C d2_43 rfl (n := 45) rfl ?_
  refine G.iadd C d2_45 (n := 46) rfl ?_
  have x26 : (((o + (0 : Int32)) + (2 : Int32))).toInt = o.toInt + ((2 : Nat) : Int) := ixb (A := 0) (B := 2) (by decide) (by decide) (by decide) (by decide) (by decide) q_0 (bnd q_1 ql (by decide))
  refine G.baload C (x := e2) O22 (nn_of x26 q_0) (at_of x26 q_0 p2) d2_46 (n := 47) rfl ?_
  refine G.sipush C (v := (255 : Int32)) d2_47 (by decide) (n := 50) rfl ?_
  refine G.iand C d2_50 (n := 51) rfl ?_
  refine G.i2l C d2_51 (n := 52) rfl ?_
  refine G.lor C d2_52 (n := 53) rfl ?_
  refine G.fold_long (z := S0_2) s0_2 ?_
  refine G.lastore C O21 (by decide) (show (0 : Int32).toInt < ((3 : Nat) : Int) by decide) g8 d2_53 (n := 54) rfl ?_
  intro h27 K28 W29 O30
  have O31 : Longs Z h27 b2 [S0_2, 0, 0] := O30
  have O32 := O22.keep K28 (ninS ne7 nin0)
  have Z33 : n0 ≤ h27.size := Nat.le_trans Z23 K28.1
  have K34 : Keep h0 h27 [] := Keep.tr K24 K28 (allS (Or.inr f9) all0)
  refine G.iincK C (v := (-1 : Int32)) (z := (1 : Int32)) d2_54 (by decide) rfl (by decide) (l' := #[.val (.ref a), .val (.int o), .val (.int (3 : Int32)), .val (.int (4 : Int32)), .val (.ref b2), .val (.int (0 : Int32)), .val (.int (1 : Int32))]) rfl (n := 57) rfl ?_
  refine G.goto C d2_57 (by decide) (n := 19) (by decide) ?_
  refine G.iload C d2_19 rfl (n := 21) rfl ?_
  refine G.if_lt C (A := 1) (by decide) d2_21 (by decide) (by decide) (n := 24) (n' := 60) rfl (fun c21_35 => ?_) (fun c21_35 => ?_)
  · exact absurd c21_35 (by decide)
  refine G.aload C d2_24 rfl rfl (n := 26) rfl ?_
  refine G.iload C d2_26 rfl (n := 28) rfl ?_
  refine G.aload C d2_28 rfl rfl (n := 30) rfl ?_
  refine G.iload C d2_30 rfl (n := 32) rfl ?_
  refine G.laload C (x := S0_2) O31 (by decide) rfl d2_32 (n := 33) rfl ?_
  refine G.bipush C (v := (8 : Int32)) d2_33 (by decide) (n := 35) rfl ?_
  refine G.lshl C d2_35 (n := 36) rfl ?_
  refine G.aloadN C d2_36 rfl rfl (n := 37) rfl ?_
  refine G.iloadN C d2_37 rfl (n := 38) rfl ?_
  refine G.iload C d2_38 rfl (n := 40) rfl ?_
  refine G.iloadN C d2_40 rfl (n := 41) rfl ?_
  refine G.imul C d2_41 (n := 42) rfl ?_
  refine G.fold_int (z := (0 : Int32)) (by decide) ?_
  refine G.iadd C d2_42 (n := 43) rfl ?_
  refine G.iload C d2_43 rfl (n := 45) rfl ?_
  refine G.iadd C d2_45 (n := 46) rfl ?_
  have x36 : (((o + (0 : Int32)) + (1 : Int32))).toInt = o.toInt + ((1 : Nat) : Int) := ixb (A := 0) (B := 1) (by decide) (by decide) (by decide) (by decide) (by decide) q_0 (bnd q_1 ql (by decide))
  refine G.baload C (x := e1) O32 (nn_of x36 q_0) (at_of x36 q_0 p1) d2_46 (n := 47) rfl ?_
  refine G.sipush C (v := (255 : Int32)) d2_47 (by decide) (n := 50) rfl ?_
  refine G.iand C d2_50 (n := 51) rfl ?_
  refine G.i2l C d2_51 (n := 52) rfl ?_
  refine G.lor C d2_52 (n := 53) rfl ?_
  refine G.fold_long (z := S0_1) s0_1 ?_
  refine G.lastore C O31 (by decide) (show (0 : Int32).toInt < ((3 : Nat) : Int) by decide) g8 d2_53 (n := 54) rfl ?_
  intro h37 K38 W39 O40
  have O41 : Longs Z h37 b2 [S0_1, 0, 0] := O40
  have O42 := O32.keep K38 (ninS ne7 nin0)
  have Z43 : n0 ≤ h37.size := Nat.le_trans Z33 K38.1
  have K44 : Keep h0 h37 [] := Keep.tr K34 K38 (allS (Or.inr f9) all0)
  refine G.iincK C (v := (-1 : Int32)) (z := (0 : Int32)) d2_54 (by decide) rfl (by decide) (l' := #[.val (.ref a), .val (.int o), .val (.int (3 : Int32)), .val (.int (4 : Int32)), .val (.ref b2), .val (.int (0 : Int32)), .val (.int (0 : Int32))]) rfl (n := 57) rfl ?_
  refine G.goto C d2_57 (by decide) (n := 19) (by decide) ?_
  refine G.iload C d2_19 rfl (n := 21) rfl ?_
  refine G.if_lt C (A := 0) (by decide) d2_21 (by decide) (by decide) (n := 24) (n' := 60) rfl (fun c21_45 => ?_) (fun c21_45 => ?_)
  · exact absurd c21_45 (by decide)
  refine G.aload C d2_24 rfl rfl (n := 26) rfl ?_
  refine G.iload C d2_26 rfl (n := 28) rfl ?_
  refine G.aload C d2_28 rfl rfl (n := 30) rfl ?_
  refine G.iload C d2_30 rfl (n := 32) rfl ?_
  refine G.laload C (x := S0_1) O41 (by decide) rfl d2_32 (n := 33) rfl ?_
  refine G.bipush C (v := (8 : Int32)) d2_33 (by decide) (n := 35) rfl ?_
  refine G.lshl C d2_35 (n := 36) rfl ?_
  refine G.aloadN C d2_36 rfl rfl (n := 37) rfl ?_
  refine G.iloadN C d2_37 rfl (n := 38) rfl ?_
  refine G.iload C d2_38 rfl (n := 40) rfl ?_
  refine G.iloadN C d2_40 rfl (n := 41) rfl ?_
  refine G.imul C d2_41 (n := 42) rfl ?_
  refine G.fold_int (z := (0 : Int32)) (by decide) ?_
  refine G.iadd C d2_42 (n := 43) rfl ?_
  refine G.iload C d2_43 rfl (n := 45) rfl ?_
  refine G.iadd C d2_45 (n := 46) rfl ?_
  have x46 : (((o + (0 : Int32)) + (0 : Int32))).toInt = o.toInt + ((0 : Nat) : Int) := ixb (A := 0) (B := 0) (by decide) (by decide) (by decide) (by decide) (by decide) q_0 (bnd q_1 ql (by decide))
  refine G.baload C (x := e0) O42 (nn_of x46 q_0) (at_of x46 q_0 p0) d2_46 (n := 47) rfl ?_
  refine G.sipush C (v := (255 : Int32)) d2_47 (by decide) (n := 50) rfl ?_
  refine G.iand C d2_50 (n := 51) rfl ?_
  refine G.i2l C d2_51 (n := 52) rfl ?_
  refine G.lor C d2_52 (n := 53) rfl ?_
  refine G.fold_long (z := S0_0) s0_0 ?_
  refine G.lastore C O41 (by decide) (show (0 : Int32).toInt < ((3 : Nat) : Int) by decide) g8 d2_53 (n := 54) rfl ?_
  intro h47 K48 W49 O50
  have O51 : Longs Z h47 b2 [S0_0, 0, 0] := O50
  have O52 := O42.keep K48 (ninS ne7 nin0)
  have Z53 : n0 ≤ h47.size := Nat.le_trans Z43 K48.1
  have K54 : Keep h0 h47 [] := Keep.tr K44 K48 (allS (Or.inr f9) all0)
  refine G.iincK C (v := (-1 : Int32)) (z := (-1 : Int32)) d2_54 (by decide) rfl (by decide) (l' := #[.val (.ref a), .val (.int o), .val (.int (3 : Int32)), .val (.int (4 : Int32)), .val (.ref b2), .val (.int (0 : Int32)), .val (.int (-1 : Int32))]) rfl (n := 57) rfl ?_
  refine G.goto C d2_57 (by decide) (n := 19) (by decide) ?_
  refine G.iload C d2_19 rfl (n := 21) rfl ?_
  refine G.if_lt C (A := (-1)) (by decide) d2_21 (by decide) (by decide) (n := 24) (n' := 60) rfl (fun c21_55 => ?_) (fun c21_55 => ?_)
  rotate_left
  · exact absurd c21_55 (by decide)
  refine G.iincK C (v := (1 : Int32)) (z := (1 : Int32)) d2_60 (by decide) rfl (by decide) (l' := #[.val (.ref a), .val (.int o), .val (.int (3 : Int32)), .val (.int (4 : Int32)), .val (.ref b2), .val (.int (1 : Int32)), .val (.int (-1 : Int32))]) rfl (n := 63) rfl ?_
  refine G.goto C d2_63 (by decide) (n := 8) (by decide) ?_
  refine G.iload C d2_8 rfl (n := 10) rfl ?_
  refine G.iloadN C d2_10 rfl (n := 11) rfl ?_
  refine G.icmp_ge C (A := 1) (B := 3) (by decide) (by decide) d2_11 (by decide) (by decide) (n := 14) (n' := 66) rfl (fun c11_56 => ?_) (fun c11_56 => ?_)
  · exact absurd c11_56 (by decide)
  refine G.iloadN C d2_14 rfl (n := 15) rfl ?_
  refine G.iconst C (v := (1 : Int32)) d2_15 (by decide) (n := 16) rfl ?_
  refine G.isub C d2_16 (n := 17) rfl ?_
  refine G.fold_int (z := (3 : Int32)) (by decide) ?_
  refine G.istore C d2_17 (l' := #[.val (.ref a), .val (.int o), .val (.int (3 : Int32)), .val (.int (4 : Int32)), .val (.ref b2), .val (.int (1 : Int32)), .val (.int (3 : Int32))]) rfl (n := 19) rfl ?_
  refine G.iload C d2_19 rfl (n := 21) rfl ?_
  refine G.if_lt C (A := 3) (by decide) d2_21 (by decide) (by decide) (n := 24) (n' := 60) rfl (fun c21_57 => ?_) (fun c21_57 => ?_)
  · exact absurd c21_57 (by decide)
  refine G.aload C d2_24 rfl rfl (n := 26) rfl ?_
  refine G.iload C d2_26 rfl (n := 28) rfl ?_
  refine G.aload C d2_28 rfl rfl (n := 30) rfl ?_
  refine G.iload C d2_30 rfl (n := 32) rfl ?_
  refine G.laload C (x := 0) O51 (by decide) rfl d2_32 (n := 33) rfl ?_
  refine G.bipush C (v := (8 : Int32)) d2_33 (by decide) (n := 35) rfl ?_
  refine G.lshl C d2_35 (n := 36) rfl ?_
  refine G.aloadN C d2_36 rfl rfl (n := 37) rfl ?_
  refine G.iloadN C d2_37 rfl (n := 38) rfl ?_
  refine G.iload C d2_38 rfl (n := 40) rfl ?_
  refine G.iloadN C d2_40 rfl (n := 41) rfl ?_
  refine G.imul C d2_41 (n := 42) rfl ?_
  refine G.fold_int (z := (4 : Int32)) (by decide) ?_
  refine G.iadd C d2_42 (n := 43) rfl ?_
  refine G.iload C d2_43 rfl (n := 45) rfl ?_
  refine G.iadd C d2_45 (n := 46) rfl ?_
  have x58 : (((o + (4 : Int32)) + (3 : Int32))).toInt = o.toInt + ((7 : Nat) : Int) := ixb (A := 4) (B := 3) (by decide) (by decide) (by decide) (by decide) (by decide) q_0 (bnd q_1 ql (by decide))
  refine G.baload C (x := e7) O52 (nn_of x58 q_0) (at_of x58 q_0 p7) d2_46 (n := 47) rfl ?_
  refine G.sipush C (v := (255 : Int32)) d2_47 (by decide) (n := 50) rfl ?_
  refine G.iand C d2_50 (n := 51) rfl ?_
  refine G.i2l C d2_51 (n := 52) rfl ?_
  refine G.lor C d2_52 (n := 53) rfl ?_
  refine G.fold_long (z := S1_3) s1_3 ?_
  refine G.lastore C O51 (by decide) (show (1 : Int32).toInt < ((3 : Nat) : Int) by decide) g8 d2_53 (n := 54) rfl ?_
  intro h59 K60 W61 O62
  have O63 : Longs Z h59 b2 [S0_0, S1_3, 0] := O62
  have O64 := O52.keep K60 (ninS ne7 nin0)
  have Z65 : n0 ≤ h59.size := Nat.le_trans Z53 K60.1
  have K66 : Keep h0 h59 [] := Keep.tr K54 K60 (allS (Or.inr f9) all0)
  refine G.iincK C (v := (-1 : Int32)) (z := (2 : Int32)) d2_54 (by decide) rfl (by decide) (l' := #[.val (.ref a), .val (.int o), .val (.int (3 : Int32)), .val (.int (4 : Int32)), .val (.ref b2), .val (.int (1 : Int32)), .val (.int (2 : Int32))]) rfl (n := 57) rfl ?_
  refine G.goto C d2_57 (by decide) (n := 19) (by decide) ?_
  refine G.iload C d2_19 rfl (n := 21) rfl ?_
  refine G.if_lt C (A := 2) (by decide) d2_21 (by decide) (by decide) (n := 24) (n' := 60) rfl (fun c21_67 => ?_) (fun c21_67 => ?_)
  · exact absurd c21_67 (by decide)
  refine G.aload C d2_24 rfl rfl (n := 26) rfl ?_
  refine G.iload C d2_26 rfl (n := 28) rfl ?_
  refine G.aload C d2_28 rfl rfl (n := 30) rfl ?_
  refine G.iload C d2_30 rfl (n := 32) rfl ?_
  refine G.laload C (x := S1_3) O63 (by decide) rfl d2_32 (n := 33) rfl ?_
  refine G.bipush C (v := (8 : Int32)) d2_33 (by decide) (n := 35) rfl ?_
  refine G.lshl C d2_35 (n := 36) rfl ?_
  refine G.aloadN C d2_36 rfl rfl (n := 37) rfl ?_
  refine G.iloadN C d2_37 rfl (n := 38) rfl ?_
  refine G.iload C d2_38 rfl (n := 40) rfl ?_
  refine G.iloadN C d2_40 rfl (n := 41) rfl ?_
  refine G.imul C d2_41 (n := 42) rfl ?_
  refine G.fold_int (z := (4 : Int32)) (by decide) ?_
  refine G.iadd C d2_42 (n := 43) rfl ?_
  refine G.iload C d2_43 rfl (n := 45) rfl ?_
  refine G.iadd C d2_45 (n := 46) rfl ?_
  have x68 : (((o + (4 : Int32)) + (2 : Int32))).toInt = o.toInt + ((6 : Nat) : Int) := ixb (A := 4) (B := 2) (by decide) (by decide) (by decide) (by decide) (by decide) q_0 (bnd q_1 ql (by decide))
  refine G.baload C (x := e6) O64 (nn_of x68 q_0) (at_of x68 q_0 p6) d2_46 (n := 47) rfl ?_
  refine G.sipush C (v := (255 : Int32)) d2_47 (by decide) (n := 50) rfl ?_
  refine G.iand C d2_50 (n := 51) rfl ?_
  refine G.i2l C d2_51 (n := 52) rfl ?_
  refine G.lor C d2_52 (n := 53) rfl ?_
  refine G.fold_long (z := S1_2) s1_2 ?_
  refine G.lastore C O63 (by decide) (show (1 : Int32).toInt < ((3 : Nat) : Int) by decide) g8 d2_53 (n := 54) rfl ?_
  intro h69 K70 W71 O72
  have O73 : Longs Z h69 b2 [S0_0, S1_2, 0] := O72
  have O74 := O64.keep K70 (ninS ne7 nin0)
  have Z75 : n0 ≤ h69.size := Nat.le_trans Z65 K70.1
  have K76 : Keep h0 h69 [] := Keep.tr K66 K70 (allS (Or.inr f9) all0)
  refine G.iincK C (v := (-1 : Int32)) (z := (1 : Int32)) d2_54 (by decide) rfl (by decide) (l' := #[.val (.ref a), .val (.int o), .val (.int (3 : Int32)), .val (.int (4 : Int32)), .val (.ref b2), .val (.int (1 : Int32)), .val (.int (1 : Int32))]) rfl (n := 57) rfl ?_
  refine G.goto C d2_57 (by decide) (n := 19) (by decide) ?_
  refine G.iload C d2_19 rfl (n := 21) rfl ?_
  refine G.if_lt C (A := 1) (by decide) d2_21 (by decide) (by decide) (n := 24) (n' := 60) rfl (fun c21_77 => ?_) (fun c21_77 => ?_)
  · exact absurd c21_77 (by decide)
  refine G.aload C d2_24 rfl rfl (n := 26) rfl ?_
  refine G.iload C d2_26 rfl (n := 28) rfl ?_
  refine G.aload C d2_28 rfl rfl (n := 30) rfl ?_
  refine G.iload C d2_30 rfl (n := 32) rfl ?_
  refine G.laload C (x := S1_2) O73 (by decide) rfl d2_32 (n := 33) rfl ?_
  refine G.bipush C (v := (8 : Int32)) d2_33 (by decide) (n := 35) rfl ?_
  refine G.lshl C d2_35 (n := 36) rfl ?_
  refine G.aloadN C d2_36 rfl rfl (n := 37) rfl ?_
  refine G.iloadN C d2_37 rfl (n := 38) rfl ?_
  refine G.iload C d2_38 rfl (n := 40) rfl ?_
  refine G.iloadN C d2_40 rfl (n := 41) rfl ?_
  refine G.imul C d2_41 (n := 42) rfl ?_
  refine G.fold_int (z := (4 : Int32)) (by decide) ?_
  refine G.iadd C d2_42 (n := 43) rfl ?_
  refine G.iload C d2_43 rfl (n := 45) rfl ?_
  refine G.iadd C d2_45 (n := 46) rfl ?_
  have x78 : (((o + (4 : Int32)) + (1 : Int32))).toInt = o.toInt + ((5 : Nat) : Int) := ixb (A := 4) (B := 1) (by decide) (by decide) (by decide) (by decide) (by decide) q_0 (bnd q_1 ql (by decide))
  refine G.baload C (x := e5) O74 (nn_of x78 q_0) (at_of x78 q_0 p5) d2_46 (n := 47) rfl ?_
  refine G.sipush C (v := (255 : Int32)) d2_47 (by decide) (n := 50) rfl ?_
  refine G.iand C d2_50 (n := 51) rfl ?_
  refine G.i2l C d2_51 (n := 52) rfl ?_
  refine G.lor C d2_52 (n := 53) rfl ?_
  refine G.fold_long (z := S1_1) s1_1 ?_
  refine G.lastore C O73 (by decide) (show (1 : Int32).toInt < ((3 : Nat) : Int) by decide) g8 d2_53 (n := 54) rfl ?_
  intro h79 K80 W81 O82
  have O83 : Longs Z h79 b2 [S0_0, S1_1, 0] := O82
  have O84 := O74.keep K80 (ninS ne7 nin0)
  have Z85 : n0 ≤ h79.size := Nat.le_trans Z75 K80.1
  have K86 : Keep h0 h79 [] := Keep.tr K76 K80 (allS (Or.inr f9) all0)
  refine G.iincK C (v := (-1 : Int32)) (z := (0 : Int32)) d2_54 (by decide) rfl (by decide) (l' := #[.val (.ref a), .val (.int o), .val (.int (3 : Int32)), .val (.int (4 : Int32)), .val (.ref b2), .val (.int (1 : Int32)), .val (.int (0 : Int32))]) rfl (n := 57) rfl ?_
  refine G.goto C d2_57 (by decide) (n := 19) (by decide) ?_
  refine G.iload C d2_19 rfl (n := 21) rfl ?_
  refine G.if_lt C (A := 0) (by decide) d2_21 (by decide) (by decide) (n := 24) (n' := 60) rfl (fun c21_87 => ?_) (fun c21_87 => ?_)
  · exact absurd c21_87 (by decide)
  refine G.aload C d2_24 rfl rfl (n := 26) rfl ?_
  refine G.iload C d2_26 rfl (n := 28) rfl ?_
  refine G.aload C d2_28 rfl rfl (n := 30) rfl ?_
  refine G.iload C d2_30 rfl (n := 32) rfl ?_
  refine G.laload C (x := S1_1) O83 (by decide) rfl d2_32 (n := 33) rfl ?_
  refine G.bipush C (v := (8 : Int32)) d2_33 (by decide) (n := 35) rfl ?_
  refine G.lshl C d2_35 (n := 36) rfl ?_
  refine G.aloadN C d2_36 rfl rfl (n := 37) rfl ?_
  refine G.iloadN C d2_37 rfl (n := 38) rfl ?_
  refine G.iload C d2_38 rfl (n := 40) rfl ?_
  refine G.iloadN C d2_40 rfl (n := 41) rfl ?_
  refine G.imul C d2_41 (n := 42) rfl ?_
  refine G.fold_int (z := (4 : Int32)) (by decide) ?_
  refine G.iadd C d2_42 (n := 43) rfl ?_
  refine G.iload C d2_43 rfl (n := 45) rfl ?_
  refine G.iadd C d2_45 (n := 46) rfl ?_
  have x88 : (((o + (4 : Int32)) + (0 : Int32))).toInt = o.toInt + ((4 : Nat) : Int) := ixb (A := 4) (B := 0) (by decide) (by decide) (by decide) (by decide) (by decide) q_0 (bnd q_1 ql (by decide))
  refine G.baload C (x := e4) O84 (nn_of x88 q_0) (at_of x88 q_0 p4) d2_46 (n := 47) rfl ?_
  refine G.sipush C (v := (255 : Int32)) d2_47 (by decide) (n := 50) rfl ?_
  refine G.iand C d2_50 (n := 51) rfl ?_
  refine G.i2l C d2_51 (n := 52) rfl ?_
  refine G.lor C d2_52 (n := 53) rfl ?_
  refine G.fold_long (z := S1_0) s1_0 ?_
  refine G.lastore C O83 (by decide) (show (1 : Int32).toInt < ((3 : Nat) : Int) by decide) g8 d2_53 (n := 54) rfl ?_
  intro h89 K90 W91 O92
  have O93 : Longs Z h89 b2 [S0_0, S1_0, 0] := O92
  have O94 := O84.keep K90 (ninS ne7 nin0)
  have Z95 : n0 ≤ h89.size := Nat.le_trans Z85 K90.1
  have K96 : Keep h0 h89 [] := Keep.tr K86 K90 (allS (Or.inr f9) all0)
  refine G.iincK C (v := (-1 : Int32)) (z := (-1 : Int32)) d2_54 (by decide) rfl (by decide) (l' := #[.val (.ref a), .val (.int o), .val (.int (3 : Int32)), .val (.int (4 : Int32)), .val (.ref b2), .val (.int (1 : Int32)), .val (.int (-1 : Int32))]) rfl (n := 57) rfl ?_
  refine G.goto C d2_57 (by decide) (n := 19) (by decide) ?_
  refine G.iload C d2_19 rfl (n := 21) rfl ?_
  refine G.if_lt C (A := (-1)) (by decide) d2_21 (by decide) (by decide) (n := 24) (n' := 60) rfl (fun c21_97 => ?_) (fun c21_97 => ?_)
  rotate_left
  · exact absurd c21_97 (by decide)
  refine G.iincK C (v := (1 : Int32)) (z := (2 : Int32)) d2_60 (by decide) rfl (by decide) (l' := #[.val (.ref a), .val (.int o), .val (.int (3 : Int32)), .val (.int (4 : Int32)), .val (.ref b2), .val (.int (2 : Int32)), .val (.int (-1 : Int32))]) rfl (n := 63) rfl ?_
  refine G.goto C d2_63 (by decide) (n := 8) (by decide) ?_
  refine G.iload C d2_8 rfl (n := 10) rfl ?_
  refine G.iloadN C d2_10 rfl (n := 11) rfl ?_
  refine G.icmp_ge C (A := 2) (B := 3) (by decide) (by decide) d2_11 (by decide) (by decide) (n := 14) (n' := 66) rfl (fun c11_98 => ?_) (fun c11_98 => ?_)
  · exact absurd c11_98 (by decide)
  refine G.iloadN C d2_14 rfl (n := 15) rfl ?_
  refine G.iconst C (v := (1 : Int32)) d2_15 (by decide) (n := 16) rfl ?_
  refine G.isub C d2_16 (n := 17) rfl ?_
  refine G.fold_int (z := (3 : Int32)) (by decide) ?_
  refine G.istore C d2_17 (l' := #[.val (.ref a), .val (.int o), .val (.int (3 : Int32)), .val (.int (4 : Int32)), .val (.ref b2), .val (.int (2 : Int32)), .val (.int (3 : Int32))]) rfl (n := 19) rfl ?_
  refine G.iload C d2_19 rfl (n := 21) rfl ?_
  refine G.if_lt C (A := 3) (by decide) d2_21 (by decide) (by decide) (n := 24) (n' := 60) rfl (fun c21_99 => ?_) (fun c21_99 => ?_)
  · exact absurd c21_99 (by decide)
  refine G.aload C d2_24 rfl rfl (n := 26) rfl ?_
  refine G.iload C d2_26 rfl (n := 28) rfl ?_
  refine G.aload C d2_28 rfl rfl (n := 30) rfl ?_
  refine G.iload C d2_30 rfl (n := 32) rfl ?_
  refine G.laload C (x := 0) O93 (by decide) rfl d2_32 (n := 33) rfl ?_
  refine G.bipush C (v := (8 : Int32)) d2_33 (by decide) (n := 35) rfl ?_
  refine G.lshl C d2_35 (n := 36) rfl ?_
  refine G.aloadN C d2_36 rfl rfl (n := 37) rfl ?_
  refine G.iloadN C d2_37 rfl (n := 38) rfl ?_
  refine G.iload C d2_38 rfl (n := 40) rfl ?_
  refine G.iloadN C d2_40 rfl (n := 41) rfl ?_
  refine G.imul C d2_41 (n := 42) rfl ?_
  refine G.fold_int (z := (8 : Int32)) (by decide) ?_
  refine G.iadd C d2_42 (n := 43) rfl ?_
  refine G.iload C d2_43 rfl (n := 45) rfl ?_
  refine G.iadd C d2_45 (n := 46) rfl ?_
  have x100 : (((o + (8 : Int32)) + (3 : Int32))).toInt = o.toInt + ((11 : Nat) : Int) := ixb (A := 8) (B := 3) (by decide) (by decide) (by decide) (by decide) (by decide) q_0 (bnd q_1 ql (by decide))
  refine G.baload C (x := e11) O94 (nn_of x100 q_0) (at_of x100 q_0 p11) d2_46 (n := 47) rfl ?_
  refine G.sipush C (v := (255 : Int32)) d2_47 (by decide) (n := 50) rfl ?_
  refine G.iand C d2_50 (n := 51) rfl ?_
  refine G.i2l C d2_51 (n := 52) rfl ?_
  refine G.lor C d2_52 (n := 53) rfl ?_
  refine G.fold_long (z := S2_3) s2_3 ?_
  refine G.lastore C O93 (by decide) (show (2 : Int32).toInt < ((3 : Nat) : Int) by decide) g8 d2_53 (n := 54) rfl ?_
  intro h101 K102 W103 O104
  have O105 : Longs Z h101 b2 [S0_0, S1_0, S2_3] := O104
  have O106 := O94.keep K102 (ninS ne7 nin0)
  have Z107 : n0 ≤ h101.size := Nat.le_trans Z95 K102.1
  have K108 : Keep h0 h101 [] := Keep.tr K96 K102 (allS (Or.inr f9) all0)
  refine G.iincK C (v := (-1 : Int32)) (z := (2 : Int32)) d2_54 (by decide) rfl (by decide) (l' := #[.val (.ref a), .val (.int o), .val (.int (3 : Int32)), .val (.int (4 : Int32)), .val (.ref b2), .val (.int (2 : Int32)), .val (.int (2 : Int32))]) rfl (n := 57) rfl ?_
  refine G.goto C d2_57 (by decide) (n := 19) (by decide) ?_
  refine G.iload C d2_19 rfl (n := 21) rfl ?_
  refine G.if_lt C (A := 2) (by decide) d2_21 (by decide) (by decide) (n := 24) (n' := 60) rfl (fun c21_109 => ?_) (fun c21_109 => ?_)
  · exact absurd c21_109 (by decide)
  refine G.aload C d2_24 rfl rfl (n := 26) rfl ?_
  refine G.iload C d2_26 rfl (n := 28) rfl ?_
  refine G.aload C d2_28 rfl rfl (n := 30) rfl ?_
  refine G.iload C d2_30 rfl (n := 32) rfl ?_
  refine G.laload C (x := S2_3) O105 (by decide) rfl d2_32 (n := 33) rfl ?_
  refine G.bipush C (v := (8 : Int32)) d2_33 (by decide) (n := 35) rfl ?_
  refine G.lshl C d2_35 (n := 36) rfl ?_
  refine G.aloadN C d2_36 rfl rfl (n := 37) rfl ?_
  refine G.iloadN C d2_37 rfl (n := 38) rfl ?_
  refine G.iload C d2_38 rfl (n := 40) rfl ?_
  refine G.iloadN C d2_40 rfl (n := 41) rfl ?_
  refine G.imul C d2_41 (n := 42) rfl ?_
  refine G.fold_int (z := (8 : Int32)) (by decide) ?_
  refine G.iadd C d2_42 (n := 43) rfl ?_
  refine G.iload C d2_43 rfl (n := 45) rfl ?_
  refine G.iadd C d2_45 (n := 46) rfl ?_
  have x110 : (((o + (8 : Int32)) + (2 : Int32))).toInt = o.toInt + ((10 : Nat) : Int) := ixb (A := 8) (B := 2) (by decide) (by decide) (by decide) (by decide) (by decide) q_0 (bnd q_1 ql (by decide))
  refine G.baload C (x := e10) O106 (nn_of x110 q_0) (at_of x110 q_0 p10) d2_46 (n := 47) rfl ?_
  refine G.sipush C (v := (255 : Int32)) d2_47 (by decide) (n := 50) rfl ?_
  refine G.iand C d2_50 (n := 51) rfl ?_
  refine G.i2l C d2_51 (n := 52) rfl ?_
  refine G.lor C d2_52 (n := 53) rfl ?_
  refine G.fold_long (z := S2_2) s2_2 ?_
  refine G.lastore C O105 (by decide) (show (2 : Int32).toInt < ((3 : Nat) : Int) by decide) g8 d2_53 (n := 54) rfl ?_
  intro h111 K112 W113 O114
  have O115 : Longs Z h111 b2 [S0_0, S1_0, S2_2] := O114
  have O116 := O106.keep K112 (ninS ne7 nin0)
  have Z117 : n0 ≤ h111.size := Nat.le_trans Z107 K112.1
  have K118 : Keep h0 h111 [] := Keep.tr K108 K112 (allS (Or.inr f9) all0)
  refine G.iincK C (v := (-1 : Int32)) (z := (1 : Int32)) d2_54 (by decide) rfl (by decide) (l' := #[.val (.ref a), .val (.int o), .val (.int (3 : Int32)), .val (.int (4 : Int32)), .val (.ref b2), .val (.int (2 : Int32)), .val (.int (1 : Int32))]) rfl (n := 57) rfl ?_
  refine G.goto C d2_57 (by decide) (n := 19) (by decide) ?_
  refine G.iload C d2_19 rfl (n := 21) rfl ?_
  refine G.if_lt C (A := 1) (by decide) d2_21 (by decide) (by decide) (n := 24) (n' := 60) rfl (fun c21_119 => ?_) (fun c21_119 => ?_)
  · exact absurd c21_119 (by decide)
  refine G.aload C d2_24 rfl rfl (n := 26) rfl ?_
  refine G.iload C d2_26 rfl (n := 28) rfl ?_
  refine G.aload C d2_28 rfl rfl (n := 30) rfl ?_
  refine G.iload C d2_30 rfl (n := 32) rfl ?_
  refine G.laload C (x := S2_2) O115 (by decide) rfl d2_32 (n := 33) rfl ?_
  refine G.bipush C (v := (8 : Int32)) d2_33 (by decide) (n := 35) rfl ?_
  refine G.lshl C d2_35 (n := 36) rfl ?_
  refine G.aloadN C d2_36 rfl rfl (n := 37) rfl ?_
  refine G.iloadN C d2_37 rfl (n := 38) rfl ?_
  refine G.iload C d2_38 rfl (n := 40) rfl ?_
  refine G.iloadN C d2_40 rfl (n := 41) rfl ?_
  refine G.imul C d2_41 (n := 42) rfl ?_
  refine G.fold_int (z := (8 : Int32)) (by decide) ?_
  refine G.iadd C d2_42 (n := 43) rfl ?_
  refine G.iload C d2_43 rfl (n := 45) rfl ?_
  refine G.iadd C d2_45 (n := 46) rfl ?_
  have x120 : (((o + (8 : Int32)) + (1 : Int32))).toInt = o.toInt + ((9 : Nat) : Int) := ixb (A := 8) (B := 1) (by decide) (by decide) (by decide) (by decide) (by decide) q_0 (bnd q_1 ql (by decide))
  refine G.baload C (x := e9) O116 (nn_of x120 q_0) (at_of x120 q_0 p9) d2_46 (n := 47) rfl ?_
  refine G.sipush C (v := (255 : Int32)) d2_47 (by decide) (n := 50) rfl ?_
  refine G.iand C d2_50 (n := 51) rfl ?_
  refine G.i2l C d2_51 (n := 52) rfl ?_
  refine G.lor C d2_52 (n := 53) rfl ?_
  refine G.fold_long (z := S2_1) s2_1 ?_
  refine G.lastore C O115 (by decide) (show (2 : Int32).toInt < ((3 : Nat) : Int) by decide) g8 d2_53 (n := 54) rfl ?_
  intro h121 K122 W123 O124
  have O125 : Longs Z h121 b2 [S0_0, S1_0, S2_1] := O124
  have O126 := O116.keep K122 (ninS ne7 nin0)
  have Z127 : n0 ≤ h121.size := Nat.le_trans Z117 K122.1
  have K128 : Keep h0 h121 [] := Keep.tr K118 K122 (allS (Or.inr f9) all0)
  refine G.iincK C (v := (-1 : Int32)) (z := (0 : Int32)) d2_54 (by decide) rfl (by decide) (l' := #[.val (.ref a), .val (.int o), .val (.int (3 : Int32)), .val (.int (4 : Int32)), .val (.ref b2), .val (.int (2 : Int32)), .val (.int (0 : Int32))]) rfl (n := 57) rfl ?_
  refine G.goto C d2_57 (by decide) (n := 19) (by decide) ?_
  refine G.iload C d2_19 rfl (n := 21) rfl ?_
  refine G.if_lt C (A := 0) (by decide) d2_21 (by decide) (by decide) (n := 24) (n' := 60) rfl (fun c21_129 => ?_) (fun c21_129 => ?_)
  · exact absurd c21_129 (by decide)
  refine G.aload C d2_24 rfl rfl (n := 26) rfl ?_
  refine G.iload C d2_26 rfl (n := 28) rfl ?_
  refine G.aload C d2_28 rfl rfl (n := 30) rfl ?_
  refine G.iload C d2_30 rfl (n := 32) rfl ?_
  refine G.laload C (x := S2_1) O125 (by decide) rfl d2_32 (n := 33) rfl ?_
  refine G.bipush C (v := (8 : Int32)) d2_33 (by decide) (n := 35) rfl ?_
  refine G.lshl C d2_35 (n := 36) rfl ?_
  refine G.aloadN C d2_36 rfl rfl (n := 37) rfl ?_
  refine G.iloadN C d2_37 rfl (n := 38) rfl ?_
  refine G.iload C d2_38 rfl (n := 40) rfl ?_
  refine G.iloadN C d2_40 rfl (n := 41) rfl ?_
  refine G.imul C d2_41 (n := 42) rfl ?_
  refine G.fold_int (z := (8 : Int32)) (by decide) ?_
  refine G.iadd C d2_42 (n := 43) rfl ?_
  refine G.iload C d2_43 rfl (n := 45) rfl ?_
  refine G.iadd C d2_45 (n := 46) rfl ?_
  have x130 : (((o + (8 : Int32)) + (0 : Int32))).toInt = o.toInt + ((8 : Nat) : Int) := ixb (A := 8) (B := 0) (by decide) (by decide) (by decide) (by decide) (by decide) q_0 (bnd q_1 ql (by decide))
  refine G.baload C (x := e8) O126 (nn_of x130 q_0) (at_of x130 q_0 p8) d2_46 (n := 47) rfl ?_
  refine G.sipush C (v := (255 : Int32)) d2_47 (by decide) (n := 50) rfl ?_
  refine G.iand C d2_50 (n := 51) rfl ?_
  refine G.i2l C d2_51 (n := 52) rfl ?_
  refine G.lor C d2_52 (n := 53) rfl ?_
  refine G.fold_long (z := S2_0) s2_0 ?_
  refine G.lastore C O125 (by decide) (show (2 : Int32).toInt < ((3 : Nat) : Int) by decide) g8 d2_53 (n := 54) rfl ?_
  intro h131 K132 W133 O134
  have O135 : Longs Z h131 b2 [S0_0, S1_0, S2_0] := O134
  have O136 := O126.keep K132 (ninS ne7 nin0)
  have Z137 : n0 ≤ h131.size := Nat.le_trans Z127 K132.1
  have K138 : Keep h0 h131 [] := Keep.tr K128 K132 (allS (Or.inr f9) all0)
  refine G.iincK C (v := (-1 : Int32)) (z := (-1 : Int32)) d2_54 (by decide) rfl (by decide) (l' := #[.val (.ref a), .val (.int o), .val (.int (3 : Int32)), .val (.int (4 : Int32)), .val (.ref b2), .val (.int (2 : Int32)), .val (.int (-1 : Int32))]) rfl (n := 57) rfl ?_
  refine G.goto C d2_57 (by decide) (n := 19) (by decide) ?_
  refine G.iload C d2_19 rfl (n := 21) rfl ?_
  refine G.if_lt C (A := (-1)) (by decide) d2_21 (by decide) (by decide) (n := 24) (n' := 60) rfl (fun c21_139 => ?_) (fun c21_139 => ?_)
  rotate_left
  · exact absurd c21_139 (by decide)
  refine G.iincK C (v := (1 : Int32)) (z := (3 : Int32)) d2_60 (by decide) rfl (by decide) (l' := #[.val (.ref a), .val (.int o), .val (.int (3 : Int32)), .val (.int (4 : Int32)), .val (.ref b2), .val (.int (3 : Int32)), .val (.int (-1 : Int32))]) rfl (n := 63) rfl ?_
  refine G.goto C d2_63 (by decide) (n := 8) (by decide) ?_
  refine G.iload C d2_8 rfl (n := 10) rfl ?_
  refine G.iloadN C d2_10 rfl (n := 11) rfl ?_
  refine G.icmp_ge C (A := 3) (B := 3) (by decide) (by decide) d2_11 (by decide) (by decide) (n := 14) (n' := 66) rfl (fun c11_140 => ?_) (fun c11_140 => ?_)
  rotate_left
  · exact absurd c11_140 (by decide)
  refine G.aload C d2_66 rfl rfl (n := 68) rfl ?_
  refine G.areturn C d2_68 rfl rfl rfl (by decide) (by decide) ?_
  exact ⟨b2, rfl, f9, K138, O135⟩
theorem ef9 (m : MethodId) (a : Addr) (o : Int32) : entryFrame m #[(.ref a), (.int o), (.int (4 : Int32)), (.int (4 : Int32))] 7 = mkF m 0 #[.val (.ref a), .val (.int o), .val (.int (4 : Int32)), .val (.int (4 : Int32)), .unset, .unset, .unset] [] := by first | (simp [entryFrame, mkF, argsToLocals, Value.category]; done) | rfl
abbrev Q_read_4_4 (Z : State) (h0 : Heap) (a : Addr) (o : Int32) (bs : List Int32) (e0 : Int32) (e1 : Int32) (e2 : Int32) (e3 : Int32) (e4 : Int32) (e5 : Int32) (e6 : Int32) (e7 : Int32) (e8 : Int32) (e9 : Int32) (e10 : Int32) (e11 : Int32) (e12 : Int32) (e13 : Int32) (e14 : Int32) (e15 : Int32) (S0_0 : Int64) (S0_1 : Int64) (S0_2 : Int64) (S0_3 : Int64) (S1_0 : Int64) (S1_1 : Int64) (S1_2 : Int64) (S1_3 : Int64) (S2_0 : Int64) (S2_1 : Int64) (S2_2 : Int64) (S2_3 : Int64) (S3_0 : Int64) (S3_1 : Int64) (S3_2 : Int64) (S3_3 : Int64) : Option Value → Heap → Prop := fun v h' => ∃ b, v = some (.ref b) ∧ h0.size ≤ b ∧ Keep h0 h' [] ∧ Longs Z h' b [S0_0, S1_0, S2_0, S3_0]
abbrev R_read_4_4 : Room := { frames := 0, cells := 1, slots := 4, locals := 0 }
set_option maxRecDepth 65536 in
set_option maxHeartbeats 40000000 in
theorem m_read_4_4 (l : Launch) (Z : State) (a0 : Array Value) (hw : ∀ d ∈ tables_1, d.before a0 Z = true) (a : Addr) (o : Int32) (bs : List Int32) (e0 : Int32) (e1 : Int32) (e2 : Int32) (e3 : Int32) (e4 : Int32) (e5 : Int32) (e6 : Int32) (e7 : Int32) (e8 : Int32) (e9 : Int32) (e10 : Int32) (e11 : Int32) (e12 : Int32) (e13 : Int32) (e14 : Int32) (e15 : Int32) (S0_0 : Int64) (S0_1 : Int64) (S0_2 : Int64) (S0_3 : Int64) (S1_0 : Int64) (S1_1 : Int64) (S1_2 : Int64) (S1_3 : Int64) (S2_0 : Int64) (S2_1 : Int64) (S2_2 : Int64) (S2_3 : Int64) (S3_0 : Int64) (S3_1 : Int64) (S3_2 : Int64) (S3_3 : Int64) (h0 : Heap) (n0 : Nat) (Z0 : n0 ≤ h0.size) (O_a : Ints Z h0 a .byte bs) (q_0 : 0 ≤ o.toInt) (q_1 : o.toInt + 16 ≤ bs.length) (p0 : bs[o.toInt.toNat + 0]? = some e0) (p1 : bs[o.toInt.toNat + 1]? = some e1) (p2 : bs[o.toInt.toNat + 2]? = some e2) (p3 : bs[o.toInt.toNat + 3]? = some e3) (p4 : bs[o.toInt.toNat + 4]? = some e4) (p5 : bs[o.toInt.toNat + 5]? = some e5) (p6 : bs[o.toInt.toNat + 6]? = some e6) (p7 : bs[o.toInt.toNat + 7]? = some e7) (p8 : bs[o.toInt.toNat + 8]? = some e8) (p9 : bs[o.toInt.toNat + 9]? = some e9) (p10 : bs[o.toInt.toNat + 10]? = some e10) (p11 : bs[o.toInt.toNat + 11]? = some e11) (p12 : bs[o.toInt.toNat + 12]? = some e12) (p13 : bs[o.toInt.toNat + 13]? = some e13) (p14 : bs[o.toInt.toNat + 14]? = some e14) (p15 : bs[o.toInt.toNat + 15]? = some e15) (s0_3 : (((0 : Int64) <<< ((8 : Int32) &&& 0x3f).toInt64) ||| ((e3 &&& (255 : Int32)).toInt64)) = S0_3) (s0_2 : ((S0_3 <<< ((8 : Int32) &&& 0x3f).toInt64) ||| ((e2 &&& (255 : Int32)).toInt64)) = S0_2) (s0_1 : ((S0_2 <<< ((8 : Int32) &&& 0x3f).toInt64) ||| ((e1 &&& (255 : Int32)).toInt64)) = S0_1) (s0_0 : ((S0_1 <<< ((8 : Int32) &&& 0x3f).toInt64) ||| ((e0 &&& (255 : Int32)).toInt64)) = S0_0) (s1_3 : (((0 : Int64) <<< ((8 : Int32) &&& 0x3f).toInt64) ||| ((e7 &&& (255 : Int32)).toInt64)) = S1_3) (s1_2 : ((S1_3 <<< ((8 : Int32) &&& 0x3f).toInt64) ||| ((e6 &&& (255 : Int32)).toInt64)) = S1_2) (s1_1 : ((S1_2 <<< ((8 : Int32) &&& 0x3f).toInt64) ||| ((e5 &&& (255 : Int32)).toInt64)) = S1_1) (s1_0 : ((S1_1 <<< ((8 : Int32) &&& 0x3f).toInt64) ||| ((e4 &&& (255 : Int32)).toInt64)) = S1_0) (s2_3 : (((0 : Int64) <<< ((8 : Int32) &&& 0x3f).toInt64) ||| ((e11 &&& (255 : Int32)).toInt64)) = S2_3) (s2_2 : ((S2_3 <<< ((8 : Int32) &&& 0x3f).toInt64) ||| ((e10 &&& (255 : Int32)).toInt64)) = S2_2) (s2_1 : ((S2_2 <<< ((8 : Int32) &&& 0x3f).toInt64) ||| ((e9 &&& (255 : Int32)).toInt64)) = S2_1) (s2_0 : ((S2_1 <<< ((8 : Int32) &&& 0x3f).toInt64) ||| ((e8 &&& (255 : Int32)).toInt64)) = S2_0) (s3_3 : (((0 : Int64) <<< ((8 : Int32) &&& 0x3f).toInt64) ||| ((e15 &&& (255 : Int32)).toInt64)) = S3_3) (s3_2 : ((S3_3 <<< ((8 : Int32) &&& 0x3f).toInt64) ||| ((e14 &&& (255 : Int32)).toInt64)) = S3_2) (s3_1 : ((S3_2 <<< ((8 : Int32) &&& 0x3f).toInt64) ||| ((e13 &&& (255 : Int32)).toInt64)) = S3_1) (s3_0 : ((S3_1 <<< ((8 : Int32) &&& 0x3f).toInt64) ||| ((e12 &&& (255 : Int32)).toInt64)) = S3_0) : Met l Z (⟨"com/example/parley/parley/KeySketch", "read", "([BIII)[J"⟩ : MethodName) prog_15_method_11_code 7 (some (.array .long)) R_read_4_4 #[(.ref a), (.int o), (.int (4 : Int32)), (.int (4 : Int32))] h0 n0 (Q_read_4_4 Z h0 a o bs e0 e1 e2 e3 e4 e5 e6 e7 e8 e9 e10 e11 e12 e13 e14 e15 S0_0 S0_1 S0_2 S0_3 S1_0 S1_1 S1_2 S1_3 S2_0 S2_1 S2_2 S2_3 S3_0 S3_1 S3_2 S3_3) := by
  refine Met.of (plainFor_of_name pn1) (fun m => ef9 m a o) ?_
  intro p e s m args below meth c C
  have ql := O_a.len
  refine G.iloadN C d2_0 rfl (n := 1) rfl ?_
  refine G.newarrayJ C (ty := .long) (cap := 4) (wd hw 10 rfl) rfl rfl rfl (by decide) (by decide) (by decide) d2_1 (n := 3) rfl (c' := 1) (s' := 4) rfl rfl (by decide) (by decide) ?_
  intro h1 b2 q3 E4 O5
  have O6 : Longs Z h1 b2 [0, 0, 0, 0] := O5
  have ne7 : a ≠ b2 := Nat.ne_of_lt (Nat.lt_of_lt_of_le O_a.lt (Nat.le_of_eq q3.symm))
  have g8 : n0 ≤ b2 := Nat.le_trans Z0 (Nat.le_of_eq q3.symm)
  have f9 : h0.size ≤ b2 := Nat.le_trans (Keep.refl h0 []).1 (Nat.le_of_eq q3.symm)
  have K10 := kext E4
  have O11 := O_a.keep K10 nin0
  have Z12 : n0 ≤ h1.size := Nat.le_trans Z0 K10.1
  have K13 : Keep h0 h1 [] := Keep.tr (Keep.refl h0 _) K10 all0
  refine G.astore C d2_3 rfl (l' := #[.val (.ref a), .val (.int o), .val (.int (4 : Int32)), .val (.int (4 : Int32)), .val (.ref b2), .unset, .unset]) rfl (n := 5) rfl ?_
  refine G.iconst C (v := (0 : Int32)) d2_5 (by decide) (n := 6) rfl ?_
  refine G.istore C d2_6 (l' := #[.val (.ref a), .val (.int o), .val (.int (4 : Int32)), .val (.int (4 : Int32)), .val (.ref b2), .val (.int (0 : Int32)), .unset]) rfl (n := 8) rfl ?_
  refine G.iload C d2_8 rfl (n := 10) rfl ?_
  refine G.iloadN C d2_10 rfl (n := 11) rfl ?_
  refine G.icmp_ge C (A := 0) (B := 4) (by decide) (by decide) d2_11 (by decide) (by decide) (n := 14) (n' := 66) rfl (fun c11_14 => ?_) (fun c11_14 => ?_)
  · exact absurd c11_14 (by decide)
  refine G.iloadN C d2_14 rfl (n := 15) rfl ?_
  refine G.iconst C (v := (1 : Int32)) d2_15 (by decide) (n := 16) rfl ?_
  refine G.isub C d2_16 (n := 17) rfl ?_
  refine G.fold_int (z := (3 : Int32)) (by decide) ?_
  refine G.istore C d2_17 (l' := #[.val (.ref a), .val (.int o), .val (.int (4 : Int32)), .val (.int (4 : Int32)), .val (.ref b2), .val (.int (0 : Int32)), .val (.int (3 : Int32))]) rfl (n := 19) rfl ?_
  refine G.iload C d2_19 rfl (n := 21) rfl ?_
  refine G.if_lt C (A := 3) (by decide) d2_21 (by decide) (by decide) (n := 24) (n' := 60) rfl (fun c21_15 => ?_) (fun c21_15 => ?_)
  · exact absurd c21_15 (by decide)
  refine G.aload C d2_24 rfl rfl (n := 26) rfl ?_
  refine G.iload C d2_26 rfl (n := 28) rfl ?_
  refine G.aload C d2_28 rfl rfl (n := 30) rfl ?_
  refine G.iload C d2_30 rfl (n := 32) rfl ?_
  refine G.laload C (x := 0) O6 (by decide) rfl d2_32 (n := 33) rfl ?_
  refine G.bipush C (v := (8 : Int32)) d2_33 (by decide) (n := 35) rfl ?_
  refine G.lshl C d2_35 (n := 36) rfl ?_
  refine G.aloadN C d2_36 rfl rfl (n := 37) rfl ?_
  refine G.iloadN C d2_37 rfl (n := 38) rfl ?_
  refine G.iload C d2_38 rfl (n := 40) rfl ?_
  refine G.iloadN C d2_40 rfl (n := 41) rfl ?_
  refine G.imul C d2_41 (n := 42) rfl ?_
  refine G.fold_int (z := (0 : Int32)) (by decide) ?_
  refine G.iadd C d2_42 (n := 43) rfl ?_
  refine G.iload C d2_43 rfl (n := 45) rfl ?_
  refine G.iadd C d2_45 (n := 46) rfl ?_
  have x16 : (((o + (0 : Int32)) + (3 : Int32))).toInt = o.toInt + ((3 : Nat) : Int) := ixb (A := 0) (B := 3) (by decide) (by decide) (by decide) (by decide) (by decide) q_0 (bnd q_1 ql (by decide))
  refine G.baload C (x := e3) O11 (nn_of x16 q_0) (at_of x16 q_0 p3) d2_46 (n := 47) rfl ?_
  refine G.sipush C (v := (255 : Int32)) d2_47 (by decide) (n := 50) rfl ?_
  refine G.iand C d2_50 (n := 51) rfl ?_
  refine G.i2l C d2_51 (n := 52) rfl ?_
  refine G.lor C d2_52 (n := 53) rfl ?_
  refine G.fold_long (z := S0_3) s0_3 ?_
  refine G.lastore C O6 (by decide) (show (0 : Int32).toInt < ((4 : Nat) : Int) by decide) g8 d2_53 (n := 54) rfl ?_
  intro h17 K18 W19 O20
  have O21 : Longs Z h17 b2 [S0_3, 0, 0, 0] := O20
  have O22 := O11.keep K18 (ninS ne7 nin0)
  have Z23 : n0 ≤ h17.size := Nat.le_trans Z12 K18.1
  have K24 : Keep h0 h17 [] := Keep.tr K13 K18 (allS (Or.inr f9) all0)
  refine G.iincK C (v := (-1 : Int32)) (z := (2 : Int32)) d2_54 (by decide) rfl (by decide) (l' := #[.val (.ref a), .val (.int o), .val (.int (4 : Int32)), .val (.int (4 : Int32)), .val (.ref b2), .val (.int (0 : Int32)), .val (.int (2 : Int32))]) rfl (n := 57) rfl ?_
  refine G.goto C d2_57 (by decide) (n := 19) (by decide) ?_
  refine G.iload C d2_19 rfl (n := 21) rfl ?_
  refine G.if_lt C (A := 2) (by decide) d2_21 (by decide) (by decide) (n := 24) (n' := 60) rfl (fun c21_25 => ?_) (fun c21_25 => ?_)
  · exact absurd c21_25 (by decide)
  refine G.aload C d2_24 rfl rfl (n := 26) rfl ?_
  refine G.iload C d2_26 rfl (n := 28) rfl ?_
  refine G.aload C d2_28 rfl rfl (n := 30) rfl ?_
  refine G.iload C d2_30 rfl (n := 32) rfl ?_
  refine G.laload C (x := S0_3) O21 (by decide) rfl d2_32 (n := 33) rfl ?_
  refine G.bipush C (v := (8 : Int32)) d2_33 (by decide) (n := 35) rfl ?_
  refine G.lshl C d2_35 (n := 36) rfl ?_
  refine G.aloadN C d2_36 rfl rfl (n := 37) rfl ?_
  refine G.iloadN C d2_37 rfl (n := 38) rfl ?_
  refine G.iload C d2_38 rfl (n := 40) rfl ?_
  refine G.iloadN C d2_40 rfl (n := 41) rfl ?_
  refine G.imul C d2_41 (n := 42) rfl ?_
  refine G.fold_int (z := (0 : Int32)) (by decide) ?_
  refine G.iadd C d2_42 (n := 43) rfl ?_
  refine G.iload C d2_43 rfl (n := 45) rfl ?_
  refine G.iadd C d2_45 (n := 46) rfl ?_
  have x26 : (((o + (0 : Int32)) + (2 : Int32))).toInt = o.toInt + ((2 : Nat) : Int) := ixb (A := 0) (B := 2) (by decide) (by decide) (by decide) (by decide) (by decide) q_0 (bnd q_1 ql (by decide))
  refine G.baload C (x := e2) O22 (nn_of x26 q_0) (at_of x26 q_0 p2) d2_46 (n := 47) rfl ?_
  refine G.sipush C (v := (255 : Int32)) d2_47 (by decide) (n := 50) rfl ?_
  refine G.iand C d2_50 (n := 51) rfl ?_
  refine G.i2l C d2_51 (n := 52) rfl ?_
  refine G.lor C d2_52 (n := 53) rfl ?_
  refine G.fold_long (z := S0_2) s0_2 ?_
  refine G.lastore C O21 (by decide) (show (0 : Int32).toInt < ((4 : Nat) : Int) by decide) g8 d2_53 (n := 54) rfl ?_
  intro h27 K28 W29 O30
  have O31 : Longs Z h27 b2 [S0_2, 0, 0, 0] := O30
  have O32 := O22.keep K28 (ninS ne7 nin0)
  have Z33 : n0 ≤ h27.size := Nat.le_trans Z23 K28.1
  have K34 : Keep h0 h27 [] := Keep.tr K24 K28 (allS (Or.inr f9) all0)
  refine G.iincK C (v := (-1 : Int32)) (z := (1 : Int32)) d2_54 (by decide) rfl (by decide) (l' := #[.val (.ref a), .val (.int o), .val (.int (4 : Int32)), .val (.int (4 : Int32)), .val (.ref b2), .val (.int (0 : Int32)), .val (.int (1 : Int32))]) rfl (n := 57) rfl ?_
  refine G.goto C d2_57 (by decide) (n := 19) (by decide) ?_
  refine G.iload C d2_19 rfl (n := 21) rfl ?_
  refine G.if_lt C (A := 1) (by decide) d2_21 (by decide) (by decide) (n := 24) (n' := 60) rfl (fun c21_35 => ?_) (fun c21_35 => ?_)
  · exact absurd c21_35 (by decide)
  refine G.aload C d2_24 rfl rfl (n := 26) rfl ?_
  refine G.iload C d2_26 rfl (n := 28) rfl ?_
  refine G.aload C d2_28 rfl rfl (n := 30) rfl ?_
  refine G.iload C d2_30 rfl (n := 32) rfl ?_
  refine G.laload C (x := S0_2) O31 (by decide) rfl d2_32 (n := 33) rfl ?_
  refine G.bipush C (v := (8 : Int32)) d2_33 (by decide) (n := 35) rfl ?_
  refine G.lshl C d2_35 (n := 36) rfl ?_
  refine G.aloadN C d2_36 rfl rfl (n := 37) rfl ?_
  refine G.iloadN C d2_37 rfl (n := 38) rfl ?_
  refine G.iload C d2_38 rfl (n := 40) rfl ?_
  refine G.iloadN C d2_40 rfl (n := 41) rfl ?_
  refine G.imul C d2_41 (n := 42) rfl ?_
  refine G.fold_int (z := (0 : Int32)) (by decide) ?_
  refine G.iadd C d2_42 (n := 43) rfl ?_
  refine G.iload C d2_43 rfl (n := 45) rfl ?_
  refine G.iadd C d2_45 (n := 46) rfl ?_
  have x36 : (((o + (0 : Int32)) + (1 : Int32))).toInt = o.toInt + ((1 : Nat) : Int) := ixb (A := 0) (B := 1) (by decide) (by decide) (by decide) (by decide) (by decide) q_0 (bnd q_1 ql (by decide))
  refine G.baload C (x := e1) O32 (nn_of x36 q_0) (at_of x36 q_0 p1) d2_46 (n := 47) rfl ?_
  refine G.sipush C (v := (255 : Int32)) d2_47 (by decide) (n := 50) rfl ?_
  refine G.iand C d2_50 (n := 51) rfl ?_
  refine G.i2l C d2_51 (n := 52) rfl ?_
  refine G.lor C d2_52 (n := 53) rfl ?_
  refine G.fold_long (z := S0_1) s0_1 ?_
  refine G.lastore C O31 (by decide) (show (0 : Int32).toInt < ((4 : Nat) : Int) by decide) g8 d2_53 (n := 54) rfl ?_
  intro h37 K38 W39 O40
  have O41 : Longs Z h37 b2 [S0_1, 0, 0, 0] := O40
  have O42 := O32.keep K38 (ninS ne7 nin0)
  have Z43 : n0 ≤ h37.size := Nat.le_trans Z33 K38.1
  have K44 : Keep h0 h37 [] := Keep.tr K34 K38 (allS (Or.inr f9) all0)
  refine G.iincK C (v := (-1 : Int32)) (z := (0 : Int32)) d2_54 (by decide) rfl (by decide) (l' := #[.val (.ref a), .val (.int o), .val (.int (4 : Int32)), .val (.int (4 : Int32)), .val (.ref b2), .val (.int (0 : Int32)), .val (.int (0 : Int32))]) rfl (n := 57) rfl ?_
  refine G.goto C d2_57 (by decide) (n := 19) (by decide) ?_
  refine G.iload C d2_19 rfl (n := 21) rfl ?_
  refine G.if_lt C (A := 0) (by decide) d2_21 (by decide) (by decide) (n := 24) (n' := 60) rfl (fun c21_45 => ?_) (fun c21_45 => ?_)
  · exact absurd c21_45 (by decide)
  refine G.aload C d2_24 rfl rfl (n := 26) rfl ?_
  refine G.iload C d2_26 rfl (n := 28) rfl ?_
  refine G.aload C d2_28 rfl rfl (n := 30) rfl ?_
  refine G.iload C d2_30 rfl (n := 32) rfl ?_
  refine G.laload C (x := S0_1) O41 (by decide) rfl d2_32 (n := 33) rfl ?_
  refine G.bipush C (v := (8 : Int32)) d2_33 (by decide) (n := 35) rfl ?_
  refine G.lshl C d2_35 (n := 36) rfl ?_
  refine G.aloadN C d2_36 rfl rfl (n := 37) rfl ?_
  refine G.iloadN C d2_37 rfl (n := 38) rfl ?_
  refine G.iload C d2_38 rfl (n := 40) rfl ?_
  refine G.iloadN C d2_40 rfl (n := 41) rfl ?_
  refine G.imul C d2_41 (n := 42) rfl ?_
  refine G.fold_int (z := (0 : Int32)) (by decide) ?_
  refine G.iadd C d2_42 (n := 43) rfl ?_
  refine G.iload C d2_43 rfl (n := 45) rfl ?_
  refine G.iadd C d2_45 (n := 46) rfl ?_
  have x46 : (((o + (0 : Int32)) + (0 : Int32))).toInt = o.toInt + ((0 : Nat) : Int) := ixb (A := 0) (B := 0) (by decide) (by decide) (by decide) (by decide) (by decide) q_0 (bnd q_1 ql (by decide))
  refine G.baload C (x := e0) O42 (nn_of x46 q_0) (at_of x46 q_0 p0) d2_46 (n := 47) rfl ?_
  refine G.sipush C (v := (255 : Int32)) d2_47 (by decide) (n := 50) rfl ?_
  refine G.iand C d2_50 (n := 51) rfl ?_
  refine G.i2l C d2_51 (n := 52) rfl ?_
  refine G.lor C d2_52 (n := 53) rfl ?_
  refine G.fold_long (z := S0_0) s0_0 ?_
  refine G.lastore C O41 (by decide) (show (0 : Int32).toInt < ((4 : Nat) : Int) by decide) g8 d2_53 (n := 54) rfl ?_
  intro h47 K48 W49 O50
  have O51 : Longs Z h47 b2 [S0_0, 0, 0, 0] := O50
  have O52 := O42.keep K48 (ninS ne7 nin0)
  have Z53 : n0 ≤ h47.size := Nat.le_trans Z43 K48.1
  have K54 : Keep h0 h47 [] := Keep.tr K44 K48 (allS (Or.inr f9) all0)
  refine G.iincK C (v := (-1 : Int32)) (z := (-1 : Int32)) d2_54 (by decide) rfl (by decide) (l' := #[.val (.ref a), .val (.int o), .val (.int (4 : Int32)), .val (.int (4 : Int32)), .val (.ref b2), .val (.int (0 : Int32)), .val (.int (-1 : Int32))]) rfl (n := 57) rfl ?_
  refine G.goto C d2_57 (by decide) (n := 19) (by decide) ?_
  refine G.iload C d2_19 rfl (n := 21) rfl ?_
  refine G.if_lt C (A := (-1)) (by decide) d2_21 (by decide) (by decide) (n := 24) (n' := 60) rfl (fun c21_55 => ?_) (fun c21_55 => ?_)
  rotate_left
  · exact absurd c21_55 (by decide)
  refine G.iincK C (v := (1 : Int32)) (z := (1 : Int32)) d2_60 (by decide) rfl (by decide) (l' := #[.val (.ref a), .val (.int o), .val (.int (4 : Int32)), .val (.int (4 : Int32)), .val (.ref b2), .val (.int (1 : Int32)), .val (.int (-1 : Int32))]) rfl (n := 63) rfl ?_
  refine G.goto C d2_63 (by decide) (n := 8) (by decide) ?_
  refine G.iload C d2_8 rfl (n := 10) rfl ?_
  refine G.iloadN C d2_10 rfl (n := 11) rfl ?_
  refine G.icmp_ge C (A := 1) (B := 4) (by decide) (by decide) d2_11 (by decide) (by decide) (n := 14) (n' := 66) rfl (fun c11_56 => ?_) (fun c11_56 => ?_)
  · exact absurd c11_56 (by decide)
  refine G.iloadN C d2_14 rfl (n := 15) rfl ?_
  refine G.iconst C (v := (1 : Int32)) d2_15 (by decide) (n := 16) rfl ?_
  refine G.isub C d2_16 (n := 17) rfl ?_
  refine G.fold_int (z := (3 : Int32)) (by decide) ?_
  refine G.istore C d2_17 (l' := #[.val (.ref a), .val (.int o), .val (.int (4 : Int32)), .val (.int (4 : Int32)), .val (.ref b2), .val (.int (1 : Int32)), .val (.int (3 : Int32))]) rfl (n := 19) rfl ?_
  refine G.iload C d2_19 rfl (n := 21) rfl ?_
  refine G.if_lt C (A := 3) (by decide) d2_21 (by decide) (by decide) (n := 24) (n' := 60) rfl (fun c21_57 => ?_) (fun c21_57 => ?_)
  · exact absurd c21_57 (by decide)
  refine G.aload C d2_24 rfl rfl (n := 26) rfl ?_
  refine G.iload C d2_26 rfl (n := 28) rfl ?_
  refine G.aload C d2_28 rfl rfl (n := 30) rfl ?_
  refine G.iload C d2_30 rfl (n := 32) rfl ?_
  refine G.laload C (x := 0) O51 (by decide) rfl d2_32 (n := 33) rfl ?_
  refine G.bipush C (v := (8 : Int32)) d2_33 (by decide) (n := 35) rfl ?_
  refine G.lshl C d2_35 (n := 36) rfl ?_
  refine G.aloadN C d2_36 rfl rfl (n := 37) rfl ?_
  refine G.iloadN C d2_37 rfl (n := 38) rfl ?_
  refine G.iload C d2_38 rfl (n := 40) rfl ?_
  refine G.iloadN C d2_40 rfl (n := 41) rfl ?_
  refine G.imul C d2_41 (n := 42) rfl ?_
  refine G.fold_int (z := (4 : Int32)) (by decide) ?_
  refine G.iadd C d2_42 (n := 43) rfl ?_
  refine G.iload C d2_43 rfl (n := 45) rfl ?_
  refine G.iadd C d2_45 (n := 46) rfl ?_
  have x58 : (((o + (4 : Int32)) + (3 : Int32))).toInt = o.toInt + ((7 : Nat) : Int) := ixb (A := 4) (B := 3) (by decide) (by decide) (by decide) (by decide) (by decide) q_0 (bnd q_1 ql (by decide))
  refine G.baload C (x := e7) O52 (nn_of x58 q_0) (at_of x58 q_0 p7) d2_46 (n := 47) rfl ?_
  refine G.sipush C (v := (255 : Int32)) d2_47 (by decide) (n := 50) rfl ?_
  refine G.iand C d2_50 (n := 51) rfl ?_
  refine G.i2l C d2_51 (n := 52) rfl ?_
  refine G.lor C d2_52 (n := 53) rfl ?_
  refine G.fold_long (z := S1_3) s1_3 ?_
  refine G.lastore C O51 (by decide) (show (1 : Int32).toInt < ((4 : Nat) : Int) by decide) g8 d2_53 (n := 54) rfl ?_
  intro h59 K60 W61 O62
  have O63 : Longs Z h59 b2 [S0_0, S1_3, 0, 0] := O62
  have O64 := O52.keep K60 (ninS ne7 nin0)
  have Z65 : n0 ≤ h59.size := Nat.le_trans Z53 K60.1
  have K66 : Keep h0 h59 [] := Keep.tr K54 K60 (allS (Or.inr f9) all0)
  refine G.iincK C (v := (-1 : Int32)) (z := (2 : Int32)) d2_54 (by decide) rfl (by decide) (l' := #[.val (.ref a), .val (.int o), .val (.int (4 : Int32)), .val (.int (4 : Int32)), .val (.ref b2), .val (.int (1 : Int32)), .val (.int (2 : Int32))]) rfl (n := 57) rfl ?_
  refine G.goto C d2_57 (by decide) (n := 19) (by decide) ?_
  refine G.iload C d2_19 rfl (n := 21) rfl ?_
  refine G.if_lt C (A := 2) (by decide) d2_21 (by decide) (by decide) (n := 24) (n' := 60) rfl (fun c21_67 => ?_) (fun c21_67 => ?_)
  · exact absurd c21_67 (by decide)
  refine G.aload C d2_24 rfl rfl (n := 26) rfl ?_
  refine G.iload C d2_26 rfl (n := 28) rfl ?_
  refine G.aload C d2_28 rfl rfl (n := 30) rfl ?_
  refine G.iload C d2_30 rfl (n := 32) rfl ?_
  refine G.laload C (x := S1_3) O63 (by decide) rfl d2_32 (n := 33) rfl ?_
  refine G.bipush C (v := (8 : Int32)) d2_33 (by decide) (n := 35) rfl ?_
  refine G.lshl C d2_35 (n := 36) rfl ?_
  refine G.aloadN C d2_36 rfl rfl (n := 37) rfl ?_
  refine G.iloadN C d2_37 rfl (n := 38) rfl ?_
  refine G.iload C d2_38 rfl (n := 40) rfl ?_
  refine G.iloadN C d2_40 rfl (n := 41) rfl ?_
  refine G.imul C d2_41 (n := 42) rfl ?_
  refine G.fold_int (z := (4 : Int32)) (by decide) ?_
  refine G.iadd C d2_42 (n := 43) rfl ?_
  refine G.iload C d2_43 rfl (n := 45) rfl ?_
  refine G.iadd C d2_45 (n := 46) rfl ?_
  have x68 : (((o + (4 : Int32)) + (2 : Int32))).toInt = o.toInt + ((6 : Nat) : Int) := ixb (A := 4) (B := 2) (by decide) (by decide) (by decide) (by decide) (by decide) q_0 (bnd q_1 ql (by decide))
  refine G.baload C (x := e6) O64 (nn_of x68 q_0) (at_of x68 q_0 p6) d2_46 (n := 47) rfl ?_
  refine G.sipush C (v := (255 : Int32)) d2_47 (by decide) (n := 50) rfl ?_
  refine G.iand C d2_50 (n := 51) rfl ?_
  refine G.i2l C d2_51 (n := 52) rfl ?_
  refine G.lor C d2_52 (n := 53) rfl ?_
  refine G.fold_long (z := S1_2) s1_2 ?_
  refine G.lastore C O63 (by decide) (show (1 : Int32).toInt < ((4 : Nat) : Int) by decide) g8 d2_53 (n := 54) rfl ?_
  intro h69 K70 W71 O72
  have O73 : Longs Z h69 b2 [S0_0, S1_2, 0, 0] := O72
  have O74 := O64.keep K70 (ninS ne7 nin0)
  have Z75 : n0 ≤ h69.size := Nat.le_trans Z65 K70.1
  have K76 : Keep h0 h69 [] := Keep.tr K66 K70 (allS (Or.inr f9) all0)
  refine G.iincK C (v := (-1 : Int32)) (z := (1 : Int32)) d2_54 (by decide) rfl (by decide) (l' := #[.val (.ref a), .val (.int o), .val (.int (4 : Int32)), .val (.int (4 : Int32)), .val (.ref b2), .val (.int (1 : Int32)), .val (.int (1 : Int32))]) rfl (n := 57) rfl ?_
  refine G.goto C d2_57 (by decide) (n := 19) (by decide) ?_
  refine G.iload C d2_19 rfl (n := 21) rfl ?_
  refine G.if_lt C (A := 1) (by decide) d2_21 (by decide) (by decide) (n := 24) (n' := 60) rfl (fun c21_77 => ?_) (fun c21_77 => ?_)
  · exact absurd c21_77 (by decide)
  refine G.aload C d2_24 rfl rfl (n := 26) rfl ?_
  refine G.iload C d2_26 rfl (n := 28) rfl ?_
  refine G.aload C d2_28 rfl rfl (n := 30) rfl ?_
  refine G.iload C d2_30 rfl (n := 32) rfl ?_
  refine G.laload C (x := S1_2) O73 (by decide) rfl d2_32 (n := 33) rfl ?_
  refine G.bipush C (v := (8 : Int32)) d2_33 (by decide) (n := 35) rfl ?_
  refine G.lshl C d2_35 (n := 36) rfl ?_
  refine G.aloadN C d2_36 rfl rfl (n := 37) rfl ?_
  refine G.iloadN C d2_37 rfl (n := 38) rfl ?_
  refine G.iload C d2_38 rfl (n := 40) rfl ?_
  refine G.iloadN C d2_40 rfl (n := 41) rfl ?_
  refine G.imul C d2_41 (n := 42) rfl ?_
  refine G.fold_int (z := (4 : Int32)) (by decide) ?_
  refine G.iadd C d2_42 (n := 43) rfl ?_
  refine G.iload C d2_43 rfl (n := 45) rfl ?_
  refine G.iadd C d2_45 (n := 46) rfl ?_
  have x78 : (((o + (4 : Int32)) + (1 : Int32))).toInt = o.toInt + ((5 : Nat) : Int) := ixb (A := 4) (B := 1) (by decide) (by decide) (by decide) (by decide) (by decide) q_0 (bnd q_1 ql (by decide))
  refine G.baload C (x := e5) O74 (nn_of x78 q_0) (at_of x78 q_0 p5) d2_46 (n := 47) rfl ?_
  refine G.sipush C (v := (255 : Int32)) d2_47 (by decide) (n := 50) rfl ?_
  refine G.iand C d2_50 (n := 51) rfl ?_
  refine G.i2l C d2_51 (n := 52) rfl ?_
  refine G.lor C d2_52 (n := 53) rfl ?_
  refine G.fold_long (z := S1_1) s1_1 ?_
  refine G.lastore C O73 (by decide) (show (1 : Int32).toInt < ((4 : Nat) : Int) by decide) g8 d2_53 (n := 54) rfl ?_
  intro h79 K80 W81 O82
  have O83 : Longs Z h79 b2 [S0_0, S1_1, 0, 0] := O82
  have O84 := O74.keep K80 (ninS ne7 nin0)
  have Z85 : n0 ≤ h79.size := Nat.le_trans Z75 K80.1
  have K86 : Keep h0 h79 [] := Keep.tr K76 K80 (allS (Or.inr f9) all0)
  refine G.iincK C (v := (-1 : Int32)) (z := (0 : Int32)) d2_54 (by decide) rfl (by decide) (l' := #[.val (.ref a), .val (.int o), .val (.int (4 : Int32)), .val (.int (4 : Int32)), .val (.ref b2), .val (.int (1 : Int32)), .val (.int (0 : Int32))]) rfl (n := 57) rfl ?_
  refine G.goto C d2_57 (by decide) (n := 19) (by decide) ?_
  refine G.iload C d2_19 rfl (n := 21) rfl ?_
  refine G.if_lt C (A := 0) (by decide) d2_21 (by decide) (by decide) (n := 24) (n' := 60) rfl (fun c21_87 => ?_) (fun c21_87 => ?_)
  · exact absurd c21_87 (by decide)
  refine G.aload C d2_24 rfl rfl (n := 26) rfl ?_
  refine G.iload C d2_26 rfl (n := 28) rfl ?_
  refine G.aload C d2_28 rfl rfl (n := 30) rfl ?_
  refine G.iload C d2_30 rfl (n := 32) rfl ?_
  refine G.laload C (x := S1_1) O83 (by decide) rfl d2_32 (n := 33) rfl ?_
  refine G.bipush C (v := (8 : Int32)) d2_33 (by decide) (n := 35) rfl ?_
  refine G.lshl C d2_35 (n := 36) rfl ?_
  refine G.aloadN C d2_36 rfl rfl (n := 37) rfl ?_
  refine G.iloadN C d2_37 rfl (n := 38) rfl ?_
  refine G.iload C d2_38 rfl (n := 40) rfl ?_
  refine G.iloadN C d2_40 rfl (n := 41) rfl ?_
  refine G.imul C d2_41 (n := 42) rfl ?_
  refine G.fold_int (z := (4 : Int32)) (by decide) ?_
  refine G.iadd C d2_42 (n := 43) rfl ?_
  refine G.iload C d2_43 rfl (n := 45) rfl ?_
  refine G.iadd C d2_45 (n := 46) rfl ?_
  have x88 : (((o + (4 : Int32)) + (0 : Int32))).toInt = o.toInt + ((4 : Nat) : Int) := ixb (A := 4) (B := 0) (by decide) (by decide) (by decide) (by decide) (by decide) q_0 (bnd q_1 ql (by decide))
  refine G.baload C (x := e4) O84 (nn_of x88 q_0) (at_of x88 q_0 p4) d2_46 (n := 47) rfl ?_
  refine G.sipush C (v := (255 : Int32)) d2_47 (by decide) (n := 50) rfl ?_
  refine G.iand C d2_50 (n := 51) rfl ?_
  refine G.i2l C d2_51 (n := 52) rfl ?_
  refine G.lor C d2_52 (n := 53) rfl ?_
  refine G.fold_long (z := S1_0) s1_0 ?_
  refine G.lastore C O83 (by decide) (show (1 : Int32).toInt < ((4 : Nat) : Int) by decide) g8 d2_53 (n := 54) rfl ?_
  intro h89 K90 W91 O92
  have O93 : Longs Z h89 b2 [S0_0, S1_0, 0, 0] := O92
  have O94 := O84.keep K90 (ninS ne7 nin0)
  have Z95 : n0 ≤ h89.size := Nat.le_trans Z85 K90.1
  have K96 : Keep h0 h89 [] := Keep.tr K86 K90 (allS (Or.inr f9) all0)
  refine G.iincK C (v := (-1 : Int32)) (z := (-1 : Int32)) d2_54 (by decide) rfl (by decide) (l' := #[.val (.ref a), .val (.int o), .val (.int (4 : Int32)), .val (.int (4 : Int32)), .val (.ref b2), .val (.int (1 : Int32)), .val (.int (-1 : Int32))]) rfl (n := 57) rfl ?_
  refine G.goto C d2_57 (by decide) (n := 19) (by decide) ?_
  refine G.iload C d2_19 rfl (n := 21) rfl ?_
  refine G.if_lt C (A := (-1)) (by decide) d2_21 (by decide) (by decide) (n := 24) (n' := 60) rfl (fun c21_97 => ?_) (fun c21_97 => ?_)
  rotate_left
  · exact absurd c21_97 (by decide)
  refine G.iincK C (v := (1 : Int32)) (z := (2 : Int32)) d2_60 (by decide) rfl (by decide) (l' := #[.val (.ref a), .val (.int o), .val (.int (4 : Int32)), .val (.int (4 : Int32)), .val (.ref b2), .val (.int (2 : Int32)), .val (.int (-1 : Int32))]) rfl (n := 63) rfl ?_
  refine G.goto C d2_63 (by decide) (n := 8) (by decide) ?_
  refine G.iload C d2_8 rfl (n := 10) rfl ?_
  refine G.iloadN C d2_10 rfl (n := 11) rfl ?_
  refine G.icmp_ge C (A := 2) (B := 4) (by decide) (by decide) d2_11 (by decide) (by decide) (n := 14) (n' := 66) rfl (fun c11_98 => ?_) (fun c11_98 => ?_)
  · exact absurd c11_98 (by decide)
  refine G.iloadN C d2_14 rfl (n := 15) rfl ?_
  refine G.iconst C (v := (1 : Int32)) d2_15 (by decide) (n := 16) rfl ?_
  refine G.isub C d2_16 (n := 17) rfl ?_
  refine G.fold_int (z := (3 : Int32)) (by decide) ?_
  refine G.istore C d2_17 (l' := #[.val (.ref a), .val (.int o), .val (.int (4 : Int32)), .val (.int (4 : Int32)), .val (.ref b2), .val (.int (2 : Int32)), .val (.int (3 : Int32))]) rfl (n := 19) rfl ?_
  refine G.iload C d2_19 rfl (n := 21) rfl ?_
  refine G.if_lt C (A := 3) (by decide) d2_21 (by decide) (by decide) (n := 24) (n' := 60) rfl (fun c21_99 => ?_) (fun c21_99 => ?_)
  · exact absurd c21_99 (by decide)
  refine G.aload C d2_24 rfl rfl (n := 26) rfl ?_
  refine G.iload C d2_26 rfl (n := 28) rfl ?_
  refine G.aload C d2_28 rfl rfl (n := 30) rfl ?_
  refine G.iload C d2_30 rfl (n := 32) rfl ?_
  refine G.laload C (x := 0) O93 (by decide) rfl d2_32 (n := 33) rfl ?_
  refine G.bipush C (v := (8 : Int32)) d2_33 (by decide) (n := 35) rfl ?_
  refine G.lshl C d2_35 (n := 36) rfl ?_
  refine G.aloadN C d2_36 rfl rfl (n := 37) rfl ?_
  refine G.iloadN C d2_37 rfl (n := 38) rfl ?_
  refine G.iload C d2_38 rfl (n := 40) rfl ?_
  refine G.iloadN C d2_40 rfl (n := 41) rfl ?_
  refine G.imul C d2_41 (n := 42) rfl ?_
  refine G.fold_int (z := (8 : Int32)) (by decide) ?_
  refine G.iadd C d2_42 (n := 43) rfl ?_
  refine G.iload C d2_43 rfl (n := 45) rfl ?_
  refine G.iadd C d2_45 (n := 46) rfl ?_
  have x100 : (((o + (8 : Int32)) + (3 : Int32))).toInt = o.toInt + ((11 : Nat) : Int) := ixb (A := 8) (B := 3) (by decide) (by decide) (by decide) (by decide) (by decide) q_0 (bnd q_1 ql (by decide))
  refine G.baload C (x := e11) O94 (nn_of x100 q_0) (at_of x100 q_0 p11) d2_46 (n := 47) rfl ?_
  refine G.sipush C (v := (255 : Int32)) d2_47 (by decide) (n := 50) rfl ?_
  refine G.iand C d2_50 (n := 51) rfl ?_
  refine G.i2l C d2_51 (n := 52) rfl ?_
  refine G.lor C d2_52 (n := 53) rfl ?_
  refine G.fold_long (z := S2_3) s2_3 ?_
  refine G.lastore C O93 (by decide) (show (2 : Int32).toInt < ((4 : Nat) : Int) by decide) g8 d2_53 (n := 54) rfl ?_
  intro h101 K102 W103 O104
  have O105 : Longs Z h101 b2 [S0_0, S1_0, S2_3, 0] := O104
  have O106 := O94.keep K102 (ninS ne7 nin0)
  have Z107 : n0 ≤ h101.size := Nat.le_trans Z95 K102.1
  have K108 : Keep h0 h101 [] := Keep.tr K96 K102 (allS (Or.inr f9) all0)
  refine G.iincK C (v := (-1 : Int32)) (z := (2 : Int32)) d2_54 (by decide) rfl (by decide) (l' := #[.val (.ref a), .val (.int o), .val (.int (4 : Int32)), .val (.int (4 : Int32)), .val (.ref b2), .val (.int (2 : Int32)), .val (.int (2 : Int32))]) rfl (n := 57) rfl ?_
  refine G.goto C d2_57 (by decide) (n := 19) (by decide) ?_
  refine G.iload C d2_19 rfl (n := 21) rfl ?_
  refine G.if_lt C (A := 2) (by decide) d2_21 (by decide) (by decide) (n := 24) (n' := 60) rfl (fun c21_109 => ?_) (fun c21_109 => ?_)
  · exact absurd c21_109 (by decide)
  refine G.aload C d2_24 rfl rfl (n := 26) rfl ?_
  refine G.iload C d2_26 rfl (n := 28) rfl ?_
  refine G.aload C d2_28 rfl rfl (n := 30) rfl ?_
  refine G.iload C d2_30 rfl (n := 32) rfl ?_
  refine G.laload C (x := S2_3) O105 (by decide) rfl d2_32 (n := 33) rfl ?_
  refine G.bipush C (v := (8 : Int32)) d2_33 (by decide) (n := 35) rfl ?_
  refine G.lshl C d2_35 (n := 36) rfl ?_
  refine G.aloadN C d2_36 rfl rfl (n := 37) rfl ?_
  refine G.iloadN C d2_37 rfl (n := 38) rfl ?_
  refine G.iload C d2_38 rfl (n := 40) rfl ?_
  refine G.iloadN C d2_40 rfl (n := 41) rfl ?_
  refine G.imul C d2_41 (n := 42) rfl ?_
  refine G.fold_int (z := (8 : Int32)) (by decide) ?_
  refine G.iadd C d2_42 (n := 43) rfl ?_
  refine G.iload C d2_43 rfl (n := 45) rfl ?_
  refine G.iadd C d2_45 (n := 46) rfl ?_
  have x110 : (((o + (8 : Int32)) + (2 : Int32))).toInt = o.toInt + ((10 : Nat) : Int) := ixb (A := 8) (B := 2) (by decide) (by decide) (by decide) (by decide) (by decide) q_0 (bnd q_1 ql (by decide))
  refine G.baload C (x := e10) O106 (nn_of x110 q_0) (at_of x110 q_0 p10) d2_46 (n := 47) rfl ?_
  refine G.sipush C (v := (255 : Int32)) d2_47 (by decide) (n := 50) rfl ?_
  refine G.iand C d2_50 (n := 51) rfl ?_
  refine G.i2l C d2_51 (n := 52) rfl ?_
  refine G.lor C d2_52 (n := 53) rfl ?_
  refine G.fold_long (z := S2_2) s2_2 ?_
  refine G.lastore C O105 (by decide) (show (2 : Int32).toInt < ((4 : Nat) : Int) by decide) g8 d2_53 (n := 54) rfl ?_
  intro h111 K112 W113 O114
  have O115 : Longs Z h111 b2 [S0_0, S1_0, S2_2, 0] := O114
  have O116 := O106.keep K112 (ninS ne7 nin0)
  have Z117 : n0 ≤ h111.size := Nat.le_trans Z107 K112.1
  have K118 : Keep h0 h111 [] := Keep.tr K108 K112 (allS (Or.inr f9) all0)
  refine G.iincK C (v := (-1 : Int32)) (z := (1 : Int32)) d2_54 (by decide) rfl (by decide) (l' := #[.val (.ref a), .val (.int o), .val (.int (4 : Int32)), .val (.int (4 : Int32)), .val (.ref b2), .val (.int (2 : Int32)), .val (.int (1 : Int32))]) rfl (n := 57) rfl ?_
  refine G.goto C d2_57 (by decide) (n := 19) (by decide) ?_
  refine G.iload C d2_19 rfl (n := 21) rfl ?_
  refine G.if_lt C (A := 1) (by decide) d2_21 (by decide) (by decide) (n := 24) (n' := 60) rfl (fun c21_119 => ?_) (fun c21_119 => ?_)
  · exact absurd c21_119 (by decide)
  refine G.aload C d2_24 rfl rfl (n := 26) rfl ?_
  refine G.iload C d2_26 rfl (n := 28) rfl ?_
  refine G.aload C d2_28 rfl rfl (n := 30) rfl ?_
  refine G.iload C d2_30 rfl (n := 32) rfl ?_
  refine G.laload C (x := S2_2) O115 (by decide) rfl d2_32 (n := 33) rfl ?_
  refine G.bipush C (v := (8 : Int32)) d2_33 (by decide) (n := 35) rfl ?_
  refine G.lshl C d2_35 (n := 36) rfl ?_
  refine G.aloadN C d2_36 rfl rfl (n := 37) rfl ?_
  refine G.iloadN C d2_37 rfl (n := 38) rfl ?_
  refine G.iload C d2_38 rfl (n := 40) rfl ?_
  refine G.iloadN C d2_40 rfl (n := 41) rfl ?_
  refine G.imul C d2_41 (n := 42) rfl ?_
  refine G.fold_int (z := (8 : Int32)) (by decide) ?_
  refine G.iadd C d2_42 (n := 43) rfl ?_
  refine G.iload C d2_43 rfl (n := 45) rfl ?_
  refine G.iadd C d2_45 (n := 46) rfl ?_
  have x120 : (((o + (8 : Int32)) + (1 : Int32))).toInt = o.toInt + ((9 : Nat) : Int) := ixb (A := 8) (B := 1) (by decide) (by decide) (by decide) (by decide) (by decide) q_0 (bnd q_1 ql (by decide))
  refine G.baload C (x := e9) O116 (nn_of x120 q_0) (at_of x120 q_0 p9) d2_46 (n := 47) rfl ?_
  refine G.sipush C (v := (255 : Int32)) d2_47 (by decide) (n := 50) rfl ?_
  refine G.iand C d2_50 (n := 51) rfl ?_
  refine G.i2l C d2_51 (n := 52) rfl ?_
  refine G.lor C d2_52 (n := 53) rfl ?_
  refine G.fold_long (z := S2_1) s2_1 ?_
  refine G.lastore C O115 (by decide) (show (2 : Int32).toInt < ((4 : Nat) : Int) by decide) g8 d2_53 (n := 54) rfl ?_
  intro h121 K122 W123 O124
  have O125 : Longs Z h121 b2 [S0_0, S1_0, S2_1, 0] := O124
  have O126 := O116.keep K122 (ninS ne7 nin0)
  have Z127 : n0 ≤ h121.size := Nat.le_trans Z117 K122.1
  have K128 : Keep h0 h121 [] := Keep.tr K118 K122 (allS (Or.inr f9) all0)
  refine G.iincK C (v := (-1 : Int32)) (z := (0 : Int32)) d2_54 (by decide) rfl (by decide) (l' := #[.val (.ref a), .val (.int o), .val (.int (4 : Int32)), .val (.int (4 : Int32)), .val (.ref b2), .val (.int (2 : Int32)), .val (.int (0 : Int32))]) rfl (n := 57) rfl ?_
  refine G.goto C d2_57 (by decide) (n := 19) (by decide) ?_
  refine G.iload C d2_19 rfl (n := 21) rfl ?_
  refine G.if_lt C (A := 0) (by decide) d2_21 (by decide) (by decide) (n := 24) (n' := 60) rfl (fun c21_129 => ?_) (fun c21_129 => ?_)
  · exact absurd c21_129 (by decide)
  refine G.aload C d2_24 rfl rfl (n := 26) rfl ?_
  refine G.iload C d2_26 rfl (n := 28) rfl ?_
  refine G.aload C d2_28 rfl rfl (n := 30) rfl ?_
  refine G.iload C d2_30 rfl (n := 32) rfl ?_
  refine G.laload C (x := S2_1) O125 (by decide) rfl d2_32 (n := 33) rfl ?_
  refine G.bipush C (v := (8 : Int32)) d2_33 (by decide) (n := 35) rfl ?_
  refine G.lshl C d2_35 (n := 36) rfl ?_
  refine G.aloadN C d2_36 rfl rfl (n := 37) rfl ?_
  refine G.iloadN C d2_37 rfl (n := 38) rfl ?_
  refine G.iload C d2_38 rfl (n := 40) rfl ?_
  refine G.iloadN C d2_40 rfl (n := 41) rfl ?_
  refine G.imul C d2_41 (n := 42) rfl ?_
  refine G.fold_int (z := (8 : Int32)) (by decide) ?_
  refine G.iadd C d2_42 (n := 43) rfl ?_
  refine G.iload C d2_43 rfl (n := 45) rfl ?_
  refine G.iadd C d2_45 (n := 46) rfl ?_
  have x130 : (((o + (8 : Int32)) + (0 : Int32))).toInt = o.toInt + ((8 : Nat) : Int) := ixb (A := 8) (B := 0) (by decide) (by decide) (by decide) (by decide) (by decide) q_0 (bnd q_1 ql (by decide))
  refine G.baload C (x := e8) O126 (nn_of x130 q_0) (at_of x130 q_0 p8) d2_46 (n := 47) rfl ?_
  refine G.sipush C (v := (255 : Int32)) d2_47 (by decide) (n := 50) rfl ?_
  refine G.iand C d2_50 (n := 51) rfl ?_
  refine G.i2l C d2_51 (n := 52) rfl ?_
  refine G.lor C d2_52 (n := 53) rfl ?_
  refine G.fold_long (z := S2_0) s2_0 ?_
  refine G.lastore C O125 (by decide) (show (2 : Int32).toInt < ((4 : Nat) : Int) by decide) g8 d2_53 (n := 54) rfl ?_
  intro h131 K132 W133 O134
  have O135 : Longs Z h131 b2 [S0_0, S1_0, S2_0, 0] := O134
  have O136 := O126.keep K132 (ninS ne7 nin0)
  have Z137 : n0 ≤ h131.size := Nat.le_trans Z127 K132.1
  have K138 : Keep h0 h131 [] := Keep.tr K128 K132 (allS (Or.inr f9) all0)
  refine G.iincK C (v := (-1 : Int32)) (z := (-1 : Int32)) d2_54 (by decide) rfl (by decide) (l' := #[.val (.ref a), .val (.int o), .val (.int (4 : Int32)), .val (.int (4 : Int32)), .val (.ref b2), .val (.int (2 : Int32)), .val (.int (-1 : Int32))]) rfl (n := 57) rfl ?_
  refine G.goto C d2_57 (by decide) (n := 19) (by decide) ?_
  refine G.iload C d2_19 rfl (n := 21) rfl ?_
  refine G.if_lt C (A := (-1)) (by decide) d2_21 (by decide) (by decide) (n := 24) (n' := 60) rfl (fun c21_139 => ?_) (fun c21_139 => ?_)
  rotate_left
  · exact absurd c21_139 (by decide)
  refine G.iincK C (v := (1 : Int32)) (z := (3 : Int32)) d2_60 (by decide) rfl (by decide) (l' := #[.val (.ref a), .val (.int o), .val (.int (4 : Int32)), .val (.int (4 : Int32)), .val (.ref b2), .val (.int (3 : Int32)), .val (.int (-1 : Int32))]) rfl (n := 63) rfl ?_
  refine G.goto C d2_63 (by decide) (n := 8) (by decide) ?_
  refine G.iload C d2_8 rfl (n := 10) rfl ?_
  refine G.iloadN C d2_10 rfl (n := 11) rfl ?_
  refine G.icmp_ge C (A := 3) (B := 4) (by decide) (by decide) d2_11 (by decide) (by decide) (n := 14) (n' := 66) rfl (fun c11_140 => ?_) (fun c11_140 => ?_)
  · exact absurd c11_140 (by decide)
  refine G.iloadN C d2_14 rfl (n := 15) rfl ?_
  refine G.iconst C (v := (1 : Int32)) d2_15 (by decide) (n := 16) rfl ?_
  refine G.isub C d2_16 (n := 17) rfl ?_
  refine G.fold_int (z := (3 : Int32)) (by decide) ?_
  refine G.istore C d2_17 (l' := #[.val (.ref a), .val (.int o), .val (.int (4 : Int32)), .val (.int (4 : Int32)), .val (.ref b2), .val (.int (3 : Int32)), .val (.int (3 : Int32))]) rfl (n := 19) rfl ?_
  refine G.iload C d2_19 rfl (n := 21) rfl ?_
  refine G.if_lt C (A := 3) (by decide) d2_21 (by decide) (by decide) (n := 24) (n' := 60) rfl (fun c21_141 => ?_) (fun c21_141 => ?_)
  · exact absurd c21_141 (by decide)
  refine G.aload C d2_24 rfl rfl (n := 26) rfl ?_
  refine G.iload C d2_26 rfl (n := 28) rfl ?_
  refine G.aload C d2_28 rfl rfl (n := 30) rfl ?_
  refine G.iload C d2_30 rfl (n := 32) rfl ?_
  refine G.laload C (x := 0) O135 (by decide) rfl d2_32 (n := 33) rfl ?_
  refine G.bipush C (v := (8 : Int32)) d2_33 (by decide) (n := 35) rfl ?_
  refine G.lshl C d2_35 (n := 36) rfl ?_
  refine G.aloadN C d2_36 rfl rfl (n := 37) rfl ?_
  refine G.iloadN C d2_37 rfl (n := 38) rfl ?_
  refine G.iload C d2_38 rfl (n := 40) rfl ?_
  refine G.iloadN C d2_40 rfl (n := 41) rfl ?_
  refine G.imul C d2_41 (n := 42) rfl ?_
  refine G.fold_int (z := (12 : Int32)) (by decide) ?_
  refine G.iadd C d2_42 (n := 43) rfl ?_
  refine G.iload C d2_43 rfl (n := 45) rfl ?_
  refine G.iadd C d2_45 (n := 46) rfl ?_
  have x142 : (((o + (12 : Int32)) + (3 : Int32))).toInt = o.toInt + ((15 : Nat) : Int) := ixb (A := 12) (B := 3) (by decide) (by decide) (by decide) (by decide) (by decide) q_0 (bnd q_1 ql (by decide))
  refine G.baload C (x := e15) O136 (nn_of x142 q_0) (at_of x142 q_0 p15) d2_46 (n := 47) rfl ?_
  refine G.sipush C (v := (255 : Int32)) d2_47 (by decide) (n := 50) rfl ?_
  refine G.iand C d2_50 (n := 51) rfl ?_
  refine G.i2l C d2_51 (n := 52) rfl ?_
  refine G.lor C d2_52 (n := 53) rfl ?_
  refine G.fold_long (z := S3_3) s3_3 ?_
  refine G.lastore C O135 (by decide) (show (3 : Int32).toInt < ((4 : Nat) : Int) by decide) g8 d2_53 (n := 54) rfl ?_
  intro h143 K144 W145 O146
  have O147 : Longs Z h143 b2 [S0_0, S1_0, S2_0, S3_3] := O146
  have O148 := O136.keep K144 (ninS ne7 nin0)
  have Z149 : n0 ≤ h143.size := Nat.le_trans Z137 K144.1
  have K150 : Keep h0 h143 [] := Keep.tr K138 K144 (allS (Or.inr f9) all0)
  refine G.iincK C (v := (-1 : Int32)) (z := (2 : Int32)) d2_54 (by decide) rfl (by decide) (l' := #[.val (.ref a), .val (.int o), .val (.int (4 : Int32)), .val (.int (4 : Int32)), .val (.ref b2), .val (.int (3 : Int32)), .val (.int (2 : Int32))]) rfl (n := 57) rfl ?_
  refine G.goto C d2_57 (by decide) (n := 19) (by decide) ?_
  refine G.iload C d2_19 rfl (n := 21) rfl ?_
  refine G.if_lt C (A := 2) (by decide) d2_21 (by decide) (by decide) (n := 24) (n' := 60) rfl (fun c21_151 => ?_) (fun c21_151 => ?_)
  · exact absurd c21_151 (by decide)
  refine G.aload C d2_24 rfl rfl (n := 26) rfl ?_
  refine G.iload C d2_26 rfl (n := 28) rfl ?_
  refine G.aload C d2_28 rfl rfl (n := 30) rfl ?_
  refine G.iload C d2_30 rfl (n := 32) rfl ?_
  refine G.laload C (x := S3_3) O147 (by decide) rfl d2_32 (n := 33) rfl ?_
  refine G.bipush C (v := (8 : Int32)) d2_33 (by decide) (n := 35) rfl ?_
  refine G.lshl C d2_35 (n := 36) rfl ?_
  refine G.aloadN C d2_36 rfl rfl (n := 37) rfl ?_
  refine G.iloadN C d2_37 rfl (n := 38) rfl ?_
  refine G.iload C d2_38 rfl (n := 40) rfl ?_
  refine G.iloadN C d2_40 rfl (n := 41) rfl ?_
  refine G.imul C d2_41 (n := 42) rfl ?_
  refine G.fold_int (z := (12 : Int32)) (by decide) ?_
  refine G.iadd C d2_42 (n := 43) rfl ?_
  refine G.iload C d2_43 rfl (n := 45) rfl ?_
  refine G.iadd C d2_45 (n := 46) rfl ?_
  have x152 : (((o + (12 : Int32)) + (2 : Int32))).toInt = o.toInt + ((14 : Nat) : Int) := ixb (A := 12) (B := 2) (by decide) (by decide) (by decide) (by decide) (by decide) q_0 (bnd q_1 ql (by decide))
  refine G.baload C (x := e14) O148 (nn_of x152 q_0) (at_of x152 q_0 p14) d2_46 (n := 47) rfl ?_
  refine G.sipush C (v := (255 : Int32)) d2_47 (by decide) (n := 50) rfl ?_
  refine G.iand C d2_50 (n := 51) rfl ?_
  refine G.i2l C d2_51 (n := 52) rfl ?_
  refine G.lor C d2_52 (n := 53) rfl ?_
  refine G.fold_long (z := S3_2) s3_2 ?_
  refine G.lastore C O147 (by decide) (show (3 : Int32).toInt < ((4 : Nat) : Int) by decide) g8 d2_53 (n := 54) rfl ?_
  intro h153 K154 W155 O156
  have O157 : Longs Z h153 b2 [S0_0, S1_0, S2_0, S3_2] := O156
  have O158 := O148.keep K154 (ninS ne7 nin0)
  have Z159 : n0 ≤ h153.size := Nat.le_trans Z149 K154.1
  have K160 : Keep h0 h153 [] := Keep.tr K150 K154 (allS (Or.inr f9) all0)
  refine G.iincK C (v := (-1 : Int32)) (z := (1 : Int32)) d2_54 (by decide) rfl (by decide) (l' := #[.val (.ref a), .val (.int o), .val (.int (4 : Int32)), .val (.int (4 : Int32)), .val (.ref b2), .val (.int (3 : Int32)), .val (.int (1 : Int32))]) rfl (n := 57) rfl ?_
  refine G.goto C d2_57 (by decide) (n := 19) (by decide) ?_
  refine G.iload C d2_19 rfl (n := 21) rfl ?_
  refine G.if_lt C (A := 1) (by decide) d2_21 (by decide) (by decide) (n := 24) (n' := 60) rfl (fun c21_161 => ?_) (fun c21_161 => ?_)
  · exact absurd c21_161 (by decide)
  refine G.aload C d2_24 rfl rfl (n := 26) rfl ?_
  refine G.iload C d2_26 rfl (n := 28) rfl ?_
  refine G.aload C d2_28 rfl rfl (n := 30) rfl ?_
  refine G.iload C d2_30 rfl (n := 32) rfl ?_
  refine G.laload C (x := S3_2) O157 (by decide) rfl d2_32 (n := 33) rfl ?_
  refine G.bipush C (v := (8 : Int32)) d2_33 (by decide) (n := 35) rfl ?_
  refine G.lshl C d2_35 (n := 36) rfl ?_
  refine G.aloadN C d2_36 rfl rfl (n := 37) rfl ?_
  refine G.iloadN C d2_37 rfl (n := 38) rfl ?_
  refine G.iload C d2_38 rfl (n := 40) rfl ?_
  refine G.iloadN C d2_40 rfl (n := 41) rfl ?_
  refine G.imul C d2_41 (n := 42) rfl ?_
  refine G.fold_int (z := (12 : Int32)) (by decide) ?_
  refine G.iadd C d2_42 (n := 43) rfl ?_
  refine G.iload C d2_43 rfl (n := 45) rfl ?_
  refine G.iadd C d2_45 (n := 46) rfl ?_
  have x162 : (((o + (12 : Int32)) + (1 : Int32))).toInt = o.toInt + ((13 : Nat) : Int) := ixb (A := 12) (B := 1) (by decide) (by decide) (by decide) (by decide) (by decide) q_0 (bnd q_1 ql (by decide))
  refine G.baload C (x := e13) O158 (nn_of x162 q_0) (at_of x162 q_0 p13) d2_46 (n := 47) rfl ?_
  refine G.sipush C (v := (255 : Int32)) d2_47 (by decide) (n := 50) rfl ?_
  refine G.iand C d2_50 (n := 51) rfl ?_
  refine G.i2l C d2_51 (n := 52) rfl ?_
  refine G.lor C d2_52 (n := 53) rfl ?_
  refine G.fold_long (z := S3_1) s3_1 ?_
  refine G.lastore C O157 (by decide) (show (3 : Int32).toInt < ((4 : Nat) : Int) by decide) g8 d2_53 (n := 54) rfl ?_
  intro h163 K164 W165 O166
  have O167 : Longs Z h163 b2 [S0_0, S1_0, S2_0, S3_1] := O166
  have O168 := O158.keep K164 (ninS ne7 nin0)
  have Z169 : n0 ≤ h163.size := Nat.le_trans Z159 K164.1
  have K170 : Keep h0 h163 [] := Keep.tr K160 K164 (allS (Or.inr f9) all0)
  refine G.iincK C (v := (-1 : Int32)) (z := (0 : Int32)) d2_54 (by decide) rfl (by decide) (l' := #[.val (.ref a), .val (.int o), .val (.int (4 : Int32)), .val (.int (4 : Int32)), .val (.ref b2), .val (.int (3 : Int32)), .val (.int (0 : Int32))]) rfl (n := 57) rfl ?_
  refine G.goto C d2_57 (by decide) (n := 19) (by decide) ?_
  refine G.iload C d2_19 rfl (n := 21) rfl ?_
  refine G.if_lt C (A := 0) (by decide) d2_21 (by decide) (by decide) (n := 24) (n' := 60) rfl (fun c21_171 => ?_) (fun c21_171 => ?_)
  · exact absurd c21_171 (by decide)
  refine G.aload C d2_24 rfl rfl (n := 26) rfl ?_
  refine G.iload C d2_26 rfl (n := 28) rfl ?_
  refine G.aload C d2_28 rfl rfl (n := 30) rfl ?_
  refine G.iload C d2_30 rfl (n := 32) rfl ?_
  refine G.laload C (x := S3_1) O167 (by decide) rfl d2_32 (n := 33) rfl ?_
  refine G.bipush C (v := (8 : Int32)) d2_33 (by decide) (n := 35) rfl ?_
  refine G.lshl C d2_35 (n := 36) rfl ?_
  refine G.aloadN C d2_36 rfl rfl (n := 37) rfl ?_
  refine G.iloadN C d2_37 rfl (n := 38) rfl ?_
  refine G.iload C d2_38 rfl (n := 40) rfl ?_
  refine G.iloadN C d2_40 rfl (n := 41) rfl ?_
  refine G.imul C d2_41 (n := 42) rfl ?_
  refine G.fold_int (z := (12 : Int32)) (by decide) ?_
  refine G.iadd C d2_42 (n := 43) rfl ?_
  refine G.iload C d2_43 rfl (n := 45) rfl ?_
  refine G.iadd C d2_45 (n := 46) rfl ?_
  have x172 : (((o + (12 : Int32)) + (0 : Int32))).toInt = o.toInt + ((12 : Nat) : Int) := ixb (A := 12) (B := 0) (by decide) (by decide) (by decide) (by decide) (by decide) q_0 (bnd q_1 ql (by decide))
  refine G.baload C (x := e12) O168 (nn_of x172 q_0) (at_of x172 q_0 p12) d2_46 (n := 47) rfl ?_
  refine G.sipush C (v := (255 : Int32)) d2_47 (by decide) (n := 50) rfl ?_
  refine G.iand C d2_50 (n := 51) rfl ?_
  refine G.i2l C d2_51 (n := 52) rfl ?_
  refine G.lor C d2_52 (n := 53) rfl ?_
  refine G.fold_long (z := S3_0) s3_0 ?_
  refine G.lastore C O167 (by decide) (show (3 : Int32).toInt < ((4 : Nat) : Int) by decide) g8 d2_53 (n := 54) rfl ?_
  intro h173 K174 W175 O176
  have O177 : Longs Z h173 b2 [S0_0, S1_0, S2_0, S3_0] := O176
  have O178 := O168.keep K174 (ninS ne7 nin0)
  have Z179 : n0 ≤ h173.size := Nat.le_trans Z169 K174.1
  have K180 : Keep h0 h173 [] := Keep.tr K170 K174 (allS (Or.inr f9) all0)
  refine G.iincK C (v := (-1 : Int32)) (z := (-1 : Int32)) d2_54 (by decide) rfl (by decide) (l' := #[.val (.ref a), .val (.int o), .val (.int (4 : Int32)), .val (.int (4 : Int32)), .val (.ref b2), .val (.int (3 : Int32)), .val (.int (-1 : Int32))]) rfl (n := 57) rfl ?_
  refine G.goto C d2_57 (by decide) (n := 19) (by decide) ?_
  refine G.iload C d2_19 rfl (n := 21) rfl ?_
  refine G.if_lt C (A := (-1)) (by decide) d2_21 (by decide) (by decide) (n := 24) (n' := 60) rfl (fun c21_181 => ?_) (fun c21_181 => ?_)
  rotate_left
  · exact absurd c21_181 (by decide)
  refine G.iincK C (v := (1 : Int32)) (z := (4 : Int32)) d2_60 (by decide) rfl (by decide) (l' := #[.val (.ref a), .val (.int o), .val (.int (4 : Int32)), .val (.int (4 : Int32)), .val (.ref b2), .val (.int (4 : Int32)), .val (.int (-1 : Int32))]) rfl (n := 63) rfl ?_
  refine G.goto C d2_63 (by decide) (n := 8) (by decide) ?_
  refine G.iload C d2_8 rfl (n := 10) rfl ?_
  refine G.iloadN C d2_10 rfl (n := 11) rfl ?_
  refine G.icmp_ge C (A := 4) (B := 4) (by decide) (by decide) d2_11 (by decide) (by decide) (n := 14) (n' := 66) rfl (fun c11_182 => ?_) (fun c11_182 => ?_)
  rotate_left
  · exact absurd c11_182 (by decide)
  refine G.aload C d2_66 rfl rfl (n := 68) rfl ?_
  refine G.areturn C d2_68 rfl rfl rfl (by decide) (by decide) ?_
  exact ⟨b2, rfl, f9, K180, O177⟩
theorem pd0 : parseMethodDescriptor "([BIJ)V" = some ⟨[(.array .byte), .int, .long], none⟩ := by decide +kernel
theorem pd1 : parseMethodDescriptor "([BIII)[J" = some ⟨[(.array .byte), .int, .int, .int], some (.array .long)⟩ := by decide +kernel
theorem ef10 (m : MethodId) (i0 : Int64) (i1 : Int64) (i2 : Int64) (i3 : Int32) (i4 : Int32) : entryFrame m #[(.long i0), (.long i1), (.long i2), (.int i3), (.int i4)] 22 = mkF m 0 #[.val (.long i0), .second, .val (.long i1), .second, .val (.long i2), .second, .val (.int i3), .val (.int i4), .unset, .unset, .unset, .unset, .unset, .unset, .unset, .unset, .unset, .unset, .unset, .unset, .unset, .unset] [] := by first | (simp [entryFrame, mkF, argsToLocals, Value.category]; done) | rfl
abbrev Q_law (Z : State) (h0 : Heap) (i0 : Int64) (i1 : Int64) (i2 : Int64) (i3 : Int32) (i4 : Int32) : Option Value → Heap → Prop := fun v h' => v = some (.int 1)
set_option maxRecDepth 65536 in
set_option maxHeartbeats 40000000 in
theorem m_law (l : Launch) (Z : State) (a0 : Array Value) (hw : ∀ d ∈ tables_1, d.before a0 Z = true) (i0 : Int64) (i1 : Int64) (i2 : Int64) (i3 : Int32) (i4 : Int32) (h0 : Heap) (n0 : Nat) (Z0 : n0 ≤ h0.size)  : Met l Z (⟨"com/example/parley/parley/KeySketchReadPinLaw", "law", "(JJJII)Z"⟩ : MethodName) code 22 (some .boolean) room_1 #[(.long i0), (.long i1), (.long i2), (.int i3), (.int i4)] h0 n0 (Q_law Z h0 i0 i1 i2 i3 i4) := by
  refine Met.of (plainFor_of_name pn0) (fun m => ef10 m i0 i1 i2 i3 i4) ?_
  intro p e s m args below meth c C
  refine G.iload C at_0 rfl (n := 2) rfl ?_
  refine G.iconst C (v := (1 : Int32)) at_2 (by decide) (n := 3) rfl ?_
  refine G.iand C at_3 (n := 4) rfl ?_
  refine G.if_eq C (A := (i4 &&& (1 : Int32)).toInt) rfl at_4 (by decide) (by decide) (n := 7) (n' := 12) rfl (fun c4_1 c4_1i => ?_) (fun c4_1 c4_1i => ?_)
  · refine G.iconst C (v := (4 : Int32)) at_12 (by decide) (n := 13) rfl ?_
    refine G.istore C at_13 (l' := #[.val (.long i0), .second, .val (.long i1), .second, .val (.long i2), .second, .val (.int i3), .val (.int i4), .val (.int (4 : Int32)), .unset, .unset, .unset, .unset, .unset, .unset, .unset, .unset, .unset, .unset, .unset, .unset, .unset]) rfl (n := 15) rfl ?_
    refine G.iload C at_15 rfl (n := 17) rfl ?_
    refine G.iconst C (v := (1 : Int32)) at_17 (by decide) (n := 18) rfl ?_
    refine G.iushr C at_18 (n := 19) rfl ?_
    refine G.ldc C (v := (2147483647 : Int32)) (wd hw 0 rfl) at_19 (n := 21) rfl ?_
    refine G.iand C at_21 (n := 22) rfl ?_
    refine G.iconst C (v := (5 : Int32)) at_22 (by decide) (n := 23) rfl ?_
    refine G.irem C at_23 (by decide) (n := 24) rfl ?_
    refine G.istoreZ C at_24 (l' := fun z => #[.val (.long i0), .second, .val (.long i1), .second, .val (.long i2), .second, .val (.int i3), .val (.int i4), .val (.int (4 : Int32)), .val (.int z), .unset, .unset, .unset, .unset, .unset, .unset, .unset, .unset, .unset, .unset, .unset, .unset]) (fun _ => rfl) (n := 26) rfl ?_
    intro v2 hv2
    refine G.iload C at_26 rfl (n := 28) rfl ?_
    refine G.bipush C (v := (8 : Int32)) at_28 (by decide) (n := 30) rfl ?_
    refine G.icmp_ne C (A := 4) (B := 8) (by decide) (by decide) at_30 (by decide) (by decide) (n := 33) (n' := 40) rfl (fun c30_3 c30_3i => ?_) (fun c30_3 c30_3i => ?_)
    rotate_left
    · exact absurd c30_3 (by decide)
    refine G.iload C at_40 rfl (n := 42) rfl ?_
    refine G.istore C at_42 (l' := #[.val (.long i0), .second, .val (.long i1), .second, .val (.long i2), .second, .val (.int i3), .val (.int i4), .val (.int (4 : Int32)), .val (.int v2), .val (.int v2), .unset, .unset, .unset, .unset, .unset, .unset, .unset, .unset, .unset, .unset, .unset]) rfl (n := 44) rfl ?_
    have qc0 := c_irem (((i4.toUInt32 >>> ((1 : Int32) &&& 31).toUInt32).toInt32) &&& (2147483647 : Int32)) (5 : Int32) 5 (by decide)
    have qc1 := (c_and ((i4.toUInt32 >>> ((1 : Int32) &&& 31).toUInt32).toInt32) (2147483647 : Int32) (by decide)).1
    rw [← hv2] at qc0
    have qz : ∀ k : Int32, v2.toInt = k.toInt → v2 = k := fun k h => Int32.toInt_inj.mp h
    have hc4 : v2 = (0 : Int32) ∨ v2 = (1 : Int32) ∨ v2 = (2 : Int32) ∨ v2 = (3 : Int32) ∨ v2 = (4 : Int32) := by
      have hr : v2.toInt = 0 ∨ v2.toInt = 1 ∨ v2.toInt = 2 ∨ v2.toInt = 3 ∨ v2.toInt = 4 := by omega
      rcases hr with h | h | h | h | h
      · exact Or.inl (qz _ h)
      · exact Or.inr (Or.inl (qz _ h))
      · exact Or.inr (Or.inr (Or.inl (qz _ h)))
      · exact Or.inr (Or.inr (Or.inr (Or.inl (qz _ h))))
      · exact Or.inr (Or.inr (Or.inr (Or.inr (qz _ h))))
    rcases hc4 with rfl | rfl | rfl | rfl | rfl
    · refine G.iload C at_44 rfl (n := 46) rfl ?_
      refine G.iconst C (v := (3 : Int32)) at_46 (by decide) (n := 47) rfl ?_
      refine G.iand C at_47 (n := 48) rfl ?_
      refine G.istoreZ C at_48 (l' := fun z => #[.val (.long i0), .second, .val (.long i1), .second, .val (.long i2), .second, .val (.int i3), .val (.int i4), .val (.int (4 : Int32)), .val (.int (0 : Int32)), .val (.int (0 : Int32)), .val (.int z), .unset, .unset, .unset, .unset, .unset, .unset, .unset, .unset, .unset, .unset]) (fun _ => rfl) (n := 50) rfl ?_
      intro v5 hv5
      refine G.bipush C (v := (19 : Int32)) at_50 (by decide) (n := 52) rfl ?_
      refine G.newarray C (ty := .byte) (cap := 19) (wd hw 1 rfl) rfl rfl (by decide) (by decide) (by decide) at_52 (n := 54) rfl (c' := 1) (s' := 19) rfl rfl (by decide) (by decide) ?_
      intro h6 b7 q8 E9 O10
      have O11 : Ints Z h6 b7 .byte [0, 0, 0, 0, 0, 0, 0, 0, 0, 0, 0, 0, 0, 0, 0, 0, 0, 0, 0] := O10
      have g12 : n0 ≤ b7 := Nat.le_trans Z0 (Nat.le_of_eq q8.symm)
      have K13 := kext E9
      have Z14 : n0 ≤ h6.size := Nat.le_trans Z0 K13.1
      refine G.astore C at_54 rfl (l' := #[.val (.long i0), .second, .val (.long i1), .second, .val (.long i2), .second, .val (.int i3), .val (.int i4), .val (.int (4 : Int32)), .val (.int (0 : Int32)), .val (.int (0 : Int32)), .val (.int v5), .val (.ref b7), .unset, .unset, .unset, .unset, .unset, .unset, .unset, .unset, .unset]) rfl (n := 56) rfl ?_
      refine G.aload C at_56 rfl rfl (n := 58) rfl ?_
      refine G.iconst C (v := (0 : Int32)) at_58 (by decide) (n := 59) rfl ?_
      refine G.lload C at_59 rfl (n := 61) rfl ?_
      refine G.l2i C at_61 (n := 62) rfl ?_
      refine G.i2b C at_62 (n := 63) rfl ?_
      refine G.bastore C O11 (by decide) (show (0 : Int32).toInt < ((19 : Nat) : Int) by decide) g12 at_63 (n := 64) rfl ?_
      intro h15 K16 W17 O18
      have O19 : Ints Z h15 b7 .byte [(nar .byte ((i2.toInt32).toInt8.toInt32)), 0, 0, 0, 0, 0, 0, 0, 0, 0, 0, 0, 0, 0, 0, 0, 0, 0, 0] := O18
      have Z20 : n0 ≤ h15.size := Nat.le_trans Z14 K16.1
      refine G.aload C at_64 rfl rfl (n := 66) rfl ?_
      refine G.iconst C (v := (1 : Int32)) at_66 (by decide) (n := 67) rfl ?_
      refine G.lload C at_67 rfl (n := 69) rfl ?_
      refine G.bipush C (v := (8 : Int32)) at_69 (by decide) (n := 71) rfl ?_
      refine G.lushr C at_71 (n := 72) rfl ?_
      refine G.l2i C at_72 (n := 73) rfl ?_
      refine G.i2b C at_73 (n := 74) rfl ?_
      refine G.bastore C O19 (by decide) (show (1 : Int32).toInt < ((19 : Nat) : Int) by decide) g12 at_74 (n := 75) rfl ?_
      intro h21 K22 W23 O24
      have O25 : Ints Z h21 b7 .byte [(nar .byte ((i2.toInt32).toInt8.toInt32)), (nar .byte ((((i2.toUInt64 >>> ((8 : Int32) &&& 0x3f).toInt64.toUInt64).toInt64).toInt32).toInt8.toInt32)), 0, 0, 0, 0, 0, 0, 0, 0, 0, 0, 0, 0, 0, 0, 0, 0, 0] := O24
      have Z26 : n0 ≤ h21.size := Nat.le_trans Z20 K22.1
      refine G.aload C at_75 rfl rfl (n := 77) rfl ?_
      refine G.iconst C (v := (2 : Int32)) at_77 (by decide) (n := 78) rfl ?_
      refine G.lload C at_78 rfl (n := 80) rfl ?_
      refine G.bipush C (v := (16 : Int32)) at_80 (by decide) (n := 82) rfl ?_
      refine G.lushr C at_82 (n := 83) rfl ?_
      refine G.l2i C at_83 (n := 84) rfl ?_
      refine G.i2b C at_84 (n := 85) rfl ?_
      refine G.bastore C O25 (by decide) (show (2 : Int32).toInt < ((19 : Nat) : Int) by decide) g12 at_85 (n := 86) rfl ?_
      intro h27 K28 W29 O30
      have O31 : Ints Z h27 b7 .byte [(nar .byte ((i2.toInt32).toInt8.toInt32)), (nar .byte ((((i2.toUInt64 >>> ((8 : Int32) &&& 0x3f).toInt64.toUInt64).toInt64).toInt32).toInt8.toInt32)), (nar .byte ((((i2.toUInt64 >>> ((16 : Int32) &&& 0x3f).toInt64.toUInt64).toInt64).toInt32).toInt8.toInt32)), 0, 0, 0, 0, 0, 0, 0, 0, 0, 0, 0, 0, 0, 0, 0, 0] := O30
      have Z32 : n0 ≤ h27.size := Nat.le_trans Z26 K28.1
      refine G.aload C at_86 rfl rfl (n := 88) rfl ?_
      refine G.bipush C (v := (16 : Int32)) at_88 (by decide) (n := 90) rfl ?_
      refine G.lload C at_90 rfl (n := 92) rfl ?_
      refine G.bipush C (v := (24 : Int32)) at_92 (by decide) (n := 94) rfl ?_
      refine G.lushr C at_94 (n := 95) rfl ?_
      refine G.l2i C at_95 (n := 96) rfl ?_
      refine G.i2b C at_96 (n := 97) rfl ?_
      refine G.bastore C O31 (by decide) (show (16 : Int32).toInt < ((19 : Nat) : Int) by decide) g12 at_97 (n := 98) rfl ?_
      intro h33 K34 W35 O36
      have O37 : Ints Z h33 b7 .byte [(nar .byte ((i2.toInt32).toInt8.toInt32)), (nar .byte ((((i2.toUInt64 >>> ((8 : Int32) &&& 0x3f).toInt64.toUInt64).toInt64).toInt32).toInt8.toInt32)), (nar .byte ((((i2.toUInt64 >>> ((16 : Int32) &&& 0x3f).toInt64.toUInt64).toInt64).toInt32).toInt8.toInt32)), 0, 0, 0, 0, 0, 0, 0, 0, 0, 0, 0, 0, 0, (nar .byte ((((i2.toUInt64 >>> ((24 : Int32) &&& 0x3f).toInt64.toUInt64).toInt64).toInt32).toInt8.toInt32)), 0, 0] := O36
      have Z38 : n0 ≤ h33.size := Nat.le_trans Z32 K34.1
      refine G.aload C at_98 rfl rfl (n := 100) rfl ?_
      refine G.bipush C (v := (17 : Int32)) at_100 (by decide) (n := 102) rfl ?_
      refine G.lload C at_102 rfl (n := 104) rfl ?_
      refine G.bipush C (v := (32 : Int32)) at_104 (by decide) (n := 106) rfl ?_
      refine G.lushr C at_106 (n := 107) rfl ?_
      refine G.l2i C at_107 (n := 108) rfl ?_
      refine G.i2b C at_108 (n := 109) rfl ?_
      refine G.bastore C O37 (by decide) (show (17 : Int32).toInt < ((19 : Nat) : Int) by decide) g12 at_109 (n := 110) rfl ?_
      intro h39 K40 W41 O42
      have O43 : Ints Z h39 b7 .byte [(nar .byte ((i2.toInt32).toInt8.toInt32)), (nar .byte ((((i2.toUInt64 >>> ((8 : Int32) &&& 0x3f).toInt64.toUInt64).toInt64).toInt32).toInt8.toInt32)), (nar .byte ((((i2.toUInt64 >>> ((16 : Int32) &&& 0x3f).toInt64.toUInt64).toInt64).toInt32).toInt8.toInt32)), 0, 0, 0, 0, 0, 0, 0, 0, 0, 0, 0, 0, 0, (nar .byte ((((i2.toUInt64 >>> ((24 : Int32) &&& 0x3f).toInt64.toUInt64).toInt64).toInt32).toInt8.toInt32)), (nar .byte ((((i2.toUInt64 >>> ((32 : Int32) &&& 0x3f).toInt64.toUInt64).toInt64).toInt32).toInt8.toInt32)), 0] := O42
      have Z44 : n0 ≤ h39.size := Nat.le_trans Z38 K40.1
      refine G.aload C at_110 rfl rfl (n := 112) rfl ?_
      refine G.bipush C (v := (18 : Int32)) at_112 (by decide) (n := 114) rfl ?_
      refine G.lload C at_114 rfl (n := 116) rfl ?_
      refine G.bipush C (v := (40 : Int32)) at_116 (by decide) (n := 118) rfl ?_
      refine G.lushr C at_118 (n := 119) rfl ?_
      refine G.l2i C at_119 (n := 120) rfl ?_
      refine G.i2b C at_120 (n := 121) rfl ?_
      refine G.bastore C O43 (by decide) (show (18 : Int32).toInt < ((19 : Nat) : Int) by decide) g12 at_121 (n := 122) rfl ?_
      intro h45 K46 W47 O48
      have O49 : Ints Z h45 b7 .byte [(nar .byte ((i2.toInt32).toInt8.toInt32)), (nar .byte ((((i2.toUInt64 >>> ((8 : Int32) &&& 0x3f).toInt64.toUInt64).toInt64).toInt32).toInt8.toInt32)), (nar .byte ((((i2.toUInt64 >>> ((16 : Int32) &&& 0x3f).toInt64.toUInt64).toInt64).toInt32).toInt8.toInt32)), 0, 0, 0, 0, 0, 0, 0, 0, 0, 0, 0, 0, 0, (nar .byte ((((i2.toUInt64 >>> ((24 : Int32) &&& 0x3f).toInt64.toUInt64).toInt64).toInt32).toInt8.toInt32)), (nar .byte ((((i2.toUInt64 >>> ((32 : Int32) &&& 0x3f).toInt64.toUInt64).toInt64).toInt32).toInt8.toInt32)), (nar .byte ((((i2.toUInt64 >>> ((40 : Int32) &&& 0x3f).toInt64.toUInt64).toInt64).toInt32).toInt8.toInt32))] := O48
      have Z50 : n0 ≤ h45.size := Nat.le_trans Z44 K46.1
      have qo := c_and i3 (3 : Int32) (by decide)
      rw [← hv5, show (3 : Int32).toInt = 3 from rfl] at qo
      have qo8 : (v5 + (8 : Int32)).toInt = v5.toInt + 8 := ixa (by decide) (by omega) (by decide) (by omega)
      refine G.aload C at_122 rfl rfl (n := 124) rfl ?_
      refine G.iload C at_124 rfl (n := 126) rfl ?_
      refine G.lloadN C at_126 rfl (n := 127) rfl ?_
      refine G.callS C (argsL := [(.ref b7), (.int v5), (.long i0)]) (yc := (⟨"com/example/parley/parley/KeySketchReadPinLaw", "put", "([BIJ)V"⟩ : MethodName)) (wd hw 2 rfl) (wd hw 3 rfl) (wd hw 4 rfl) (wd hw 5 rfl) (by decide) (m_put l Z a0 hw b7 v5 i0 [(nar .byte ((i2.toInt32).toInt8.toInt32)), (nar .byte ((((i2.toUInt64 >>> ((8 : Int32) &&& 0x3f).toInt64.toUInt64).toInt64).toInt32).toInt8.toInt32)), (nar .byte ((((i2.toUInt64 >>> ((16 : Int32) &&& 0x3f).toInt64.toUInt64).toInt64).toInt32).toInt8.toInt32)), 0, 0, 0, 0, 0, 0, 0, 0, 0, 0, 0, 0, 0, (nar .byte ((((i2.toUInt64 >>> ((24 : Int32) &&& 0x3f).toInt64.toUInt64).toInt64).toInt32).toInt8.toInt32)), (nar .byte ((((i2.toUInt64 >>> ((32 : Int32) &&& 0x3f).toInt64.toUInt64).toInt64).toInt32).toInt8.toInt32)), (nar .byte ((((i2.toUInt64 >>> ((40 : Int32) &&& 0x3f).toInt64.toUInt64).toInt64).toInt32).toInt8.toInt32))] h45 n0 Z50 O49 g12 (by omega) (by show _ + 8 ≤ ((19 : Nat) : Int); omega)) rfl (by decide) (W := 0) rfl (by decide) (c' := 1) (s' := 19) rfl rfl (by decide) (by decide) at_127 (n := 130) rfl pd0 rfl rfl ?_
      rintro _ h55 ⟨rfl, K51, bs52, O53, bs52_0, bs52_1, bs52_2, bs52_3, bs52_4, bs52_5, bs52_6, bs52_7, bs52_8, bs52_9⟩
      have Z56 : n0 ≤ h55.size := Nat.le_trans Z50 K51.1
      refine G.aload C at_130 rfl rfl (n := 132) rfl ?_
      refine G.iload C at_132 rfl (n := 134) rfl ?_
      refine G.bipush C (v := (8 : Int32)) at_134 (by decide) (n := 136) rfl ?_
      refine G.iadd C at_136 (n := 137) rfl ?_
      refine G.lloadN C at_137 rfl (n := 138) rfl ?_
      refine G.callS C (argsL := [(.ref b7), (.int (v5 + (8 : Int32))), (.long i1)]) (yc := (⟨"com/example/parley/parley/KeySketchReadPinLaw", "put", "([BIJ)V"⟩ : MethodName)) (wd hw 2 rfl) (wd hw 3 rfl) (wd hw 4 rfl) (wd hw 5 rfl) (by decide) (m_put l Z a0 hw b7 (v5 + (8 : Int32)) i1 bs52 h55 n0 Z56 O53 g12 (by omega) (by rw [bs52_0]; show _ + 8 ≤ ((19 : Nat) : Int); omega)) rfl (by decide) (W := 0) rfl (by decide) (c' := 1) (s' := 19) rfl rfl (by decide) (by decide) at_138 (n := 141) rfl pd0 rfl rfl ?_
      rintro _ h61 ⟨rfl, K57, bs58, O59, bs58_0, bs58_1, bs58_2, bs58_3, bs58_4, bs58_5, bs58_6, bs58_7, bs58_8, bs58_9⟩
      have Z62 : n0 ≤ h61.size := Nat.le_trans Z56 K57.1
      refine G.aload C at_141 rfl rfl (n := 143) rfl ?_
      refine G.iload C at_143 rfl (n := 145) rfl ?_
      refine G.iload C at_145 rfl (n := 147) rfl ?_
      refine G.iload C at_147 rfl (n := 149) rfl ?_
      refine G.callS C (argsL := [(.ref b7), (.int v5), (.int (0 : Int32)), (.int (4 : Int32))]) (yc := (⟨"com/example/parley/parley/KeySketch", "read", "([BIII)[J"⟩ : MethodName)) (wd hw 6 rfl) (wd hw 7 rfl) (wd hw 8 rfl) (wd hw 9 rfl) (by decide) (m_read_4_0 l Z a0 hw b7 v5 bs58   h61 n0 Z62 O59 (by omega) (by rw [bs58_0, bs52_0]; show _ + 0 ≤ ((19 : Nat) : Int); omega)  ) rfl (by decide) (W := 0) rfl (by decide) (c' := 2) (s' := 19) rfl rfl (by decide) (by decide) at_149 (n := 152) rfl pd1 rfl rfl ?_
      rintro _ h68 ⟨b63, rfl, f64, K65, O66⟩
      have ne69 : b7 ≠ b63 := Nat.ne_of_lt (Nat.lt_of_lt_of_le O59.lt f64)
      have g70 : n0 ≤ b63 := Nat.le_trans Z62 f64
      have O71 := O59.keep K65 nin0
      have Z72 : n0 ≤ h68.size := Nat.le_trans Z62 K65.1
      refine G.astore C at_152 rfl (l' := #[.val (.long i0), .second, .val (.long i1), .second, .val (.long i2), .second, .val (.int i3), .val (.int i4), .val (.int (4 : Int32)), .val (.int (0 : Int32)), .val (.int (0 : Int32)), .val (.int v5), .val (.ref b7), .val (.ref b63), .unset, .unset, .unset, .unset, .unset, .unset, .unset, .unset]) rfl (n := 154) rfl ?_
      refine G.iload C at_154 rfl (n := 156) rfl ?_
      refine G.bipush C (v := (8 : Int32)) at_156 (by decide) (n := 158) rfl ?_
      refine G.icmp_ne C (A := 4) (B := 8) (by decide) (by decide) at_158 (by decide) (by decide) (n := 161) (n' := 165) rfl (fun c158_73 c158_73i => ?_) (fun c158_73 c158_73i => ?_)
      rotate_left
      · exact absurd c158_73 (by decide)
      refine G.lloadN C at_165 rfl (n := 166) rfl ?_
      refine G.ldc2 C (v := (4294967295 : Int64)) (wd hw 11 rfl) at_166 (n := 169) rfl ?_
      refine G.land C at_169 (n := 170) rfl ?_
      refine G.lstoreZ C at_170 (l' := fun z => #[.val (.long i0), .second, .val (.long i1), .second, .val (.long i2), .second, .val (.int i3), .val (.int i4), .val (.int (4 : Int32)), .val (.int (0 : Int32)), .val (.int (0 : Int32)), .val (.int v5), .val (.ref b7), .val (.ref b63), .val (.long z), .second, .unset, .unset, .unset, .unset, .unset, .unset]) (fun _ => rfl) (n := 172) rfl ?_
      intro v74 hv74
      refine G.iload C at_172 rfl (n := 174) rfl ?_
      refine G.bipush C (v := (8 : Int32)) at_174 (by decide) (n := 176) rfl ?_
      refine G.icmp_ne C (A := 4) (B := 8) (by decide) (by decide) at_176 (by decide) (by decide) (n := 179) (n' := 183) rfl (fun c176_75 c176_75i => ?_) (fun c176_75 c176_75i => ?_)
      rotate_left
      · exact absurd c176_75 (by decide)
      refine G.lloadN C at_183 rfl (n := 184) rfl ?_
      refine G.bipush C (v := (32 : Int32)) at_184 (by decide) (n := 186) rfl ?_
      refine G.lushr C at_186 (n := 187) rfl ?_
      refine G.lstoreZ C at_187 (l' := fun z => #[.val (.long i0), .second, .val (.long i1), .second, .val (.long i2), .second, .val (.int i3), .val (.int i4), .val (.int (4 : Int32)), .val (.int (0 : Int32)), .val (.int (0 : Int32)), .val (.int v5), .val (.ref b7), .val (.ref b63), .val (.long v74), .second, .val (.long z), .second, .unset, .unset, .unset, .unset]) (fun _ => rfl) (n := 189) rfl ?_
      intro v76 hv76
      refine G.lloadN C at_189 rfl (n := 190) rfl ?_
      refine G.ldc2 C (v := (4294967295 : Int64)) (wd hw 11 rfl) at_190 (n := 193) rfl ?_
      refine G.land C at_193 (n := 194) rfl ?_
      refine G.lstoreZ C at_194 (l' := fun z => #[.val (.long i0), .second, .val (.long i1), .second, .val (.long i2), .second, .val (.int i3), .val (.int i4), .val (.int (4 : Int32)), .val (.int (0 : Int32)), .val (.int (0 : Int32)), .val (.int v5), .val (.ref b7), .val (.ref b63), .val (.long v74), .second, .val (.long v76), .second, .val (.long z), .second, .unset, .unset]) (fun _ => rfl) (n := 196) rfl ?_
      intro v77 hv77
      refine G.lloadN C at_196 rfl (n := 197) rfl ?_
      refine G.bipush C (v := (32 : Int32)) at_197 (by decide) (n := 199) rfl ?_
      refine G.lushr C at_199 (n := 200) rfl ?_
      refine G.lstoreZ C at_200 (l' := fun z => #[.val (.long i0), .second, .val (.long i1), .second, .val (.long i2), .second, .val (.int i3), .val (.int i4), .val (.int (4 : Int32)), .val (.int (0 : Int32)), .val (.int (0 : Int32)), .val (.int v5), .val (.ref b7), .val (.ref b63), .val (.long v74), .second, .val (.long v76), .second, .val (.long v77), .second, .val (.long z), .second]) (fun _ => rfl) (n := 202) rfl ?_
      intro v78 hv78
      refine G.aload C at_202 rfl rfl (n := 204) rfl ?_
      refine G.arraylengthL C (len := (0 : Int32)) O66 rfl at_204 (n := 205) rfl ?_
      refine G.iload C at_205 rfl (n := 207) rfl ?_
      refine G.icmp_ne C (A := 0) (B := 0) (by decide) (by decide) at_207 (by decide) (by decide) (n := 210) (n' := 278) rfl (fun c207_79 c207_79i => ?_) (fun c207_79 c207_79i => ?_)
      · exact absurd c207_79 (by decide)
      refine G.iload C at_210 rfl (n := 212) rfl ?_
      refine G.iconst C (v := (1 : Int32)) at_212 (by decide) (n := 213) rfl ?_
      refine G.icmp_lt C (A := 0) (B := 1) (by decide) (by decide) at_213 (by decide) (by decide) (n := 216) (n' := 226) rfl (fun c213_80 => ?_) (fun c213_80 => ?_)
      rotate_left
      · exact absurd c213_80 (by decide)
      refine G.iload C at_226 rfl (n := 228) rfl ?_
      refine G.iconst C (v := (2 : Int32)) at_228 (by decide) (n := 229) rfl ?_
      refine G.icmp_lt C (A := 0) (B := 2) (by decide) (by decide) at_229 (by decide) (by decide) (n := 232) (n' := 242) rfl (fun c229_81 => ?_) (fun c229_81 => ?_)
      rotate_left
      · exact absurd c229_81 (by decide)
      refine G.iload C at_242 rfl (n := 244) rfl ?_
      refine G.iconst C (v := (3 : Int32)) at_244 (by decide) (n := 245) rfl ?_
      refine G.icmp_lt C (A := 0) (B := 3) (by decide) (by decide) at_245 (by decide) (by decide) (n := 248) (n' := 258) rfl (fun c245_82 => ?_) (fun c245_82 => ?_)
      rotate_left
      · exact absurd c245_82 (by decide)
      refine G.iload C at_258 rfl (n := 260) rfl ?_
      refine G.iconst C (v := (4 : Int32)) at_260 (by decide) (n := 261) rfl ?_
      refine G.icmp_lt C (A := 0) (B := 4) (by decide) (by decide) at_261 (by decide) (by decide) (n := 264) (n' := 274) rfl (fun c261_83 => ?_) (fun c261_83 => ?_)
      rotate_left
      · exact absurd c261_83 (by decide)
      refine G.iconst C (v := (1 : Int32)) at_274 (by decide) (n := 275) rfl ?_
      refine G.goto C at_275 (by decide) (n := 279) (by decide) ?_
      refine G.ireturn C at_279 (rfl) (by simp) (by decide) (by decide) ?_
      exact rfl
    · refine G.iload C at_44 rfl (n := 46) rfl ?_
      refine G.iconst C (v := (3 : Int32)) at_46 (by decide) (n := 47) rfl ?_
      refine G.iand C at_47 (n := 48) rfl ?_
      refine G.istoreZ C at_48 (l' := fun z => #[.val (.long i0), .second, .val (.long i1), .second, .val (.long i2), .second, .val (.int i3), .val (.int i4), .val (.int (4 : Int32)), .val (.int (1 : Int32)), .val (.int (1 : Int32)), .val (.int z), .unset, .unset, .unset, .unset, .unset, .unset, .unset, .unset, .unset, .unset]) (fun _ => rfl) (n := 50) rfl ?_
      intro v84 hv84
      refine G.bipush C (v := (19 : Int32)) at_50 (by decide) (n := 52) rfl ?_
      refine G.newarray C (ty := .byte) (cap := 19) (wd hw 1 rfl) rfl rfl (by decide) (by decide) (by decide) at_52 (n := 54) rfl (c' := 1) (s' := 19) rfl rfl (by decide) (by decide) ?_
      intro h85 b86 q87 E88 O89
      have O90 : Ints Z h85 b86 .byte [0, 0, 0, 0, 0, 0, 0, 0, 0, 0, 0, 0, 0, 0, 0, 0, 0, 0, 0] := O89
      have g91 : n0 ≤ b86 := Nat.le_trans Z0 (Nat.le_of_eq q87.symm)
      have K92 := kext E88
      have Z93 : n0 ≤ h85.size := Nat.le_trans Z0 K92.1
      refine G.astore C at_54 rfl (l' := #[.val (.long i0), .second, .val (.long i1), .second, .val (.long i2), .second, .val (.int i3), .val (.int i4), .val (.int (4 : Int32)), .val (.int (1 : Int32)), .val (.int (1 : Int32)), .val (.int v84), .val (.ref b86), .unset, .unset, .unset, .unset, .unset, .unset, .unset, .unset, .unset]) rfl (n := 56) rfl ?_
      refine G.aload C at_56 rfl rfl (n := 58) rfl ?_
      refine G.iconst C (v := (0 : Int32)) at_58 (by decide) (n := 59) rfl ?_
      refine G.lload C at_59 rfl (n := 61) rfl ?_
      refine G.l2i C at_61 (n := 62) rfl ?_
      refine G.i2b C at_62 (n := 63) rfl ?_
      refine G.bastore C O90 (by decide) (show (0 : Int32).toInt < ((19 : Nat) : Int) by decide) g91 at_63 (n := 64) rfl ?_
      intro h94 K95 W96 O97
      have O98 : Ints Z h94 b86 .byte [(nar .byte ((i2.toInt32).toInt8.toInt32)), 0, 0, 0, 0, 0, 0, 0, 0, 0, 0, 0, 0, 0, 0, 0, 0, 0, 0] := O97
      have Z99 : n0 ≤ h94.size := Nat.le_trans Z93 K95.1
      refine G.aload C at_64 rfl rfl (n := 66) rfl ?_
      refine G.iconst C (v := (1 : Int32)) at_66 (by decide) (n := 67) rfl ?_
      refine G.lload C at_67 rfl (n := 69) rfl ?_
      refine G.bipush C (v := (8 : Int32)) at_69 (by decide) (n := 71) rfl ?_
      refine G.lushr C at_71 (n := 72) rfl ?_
      refine G.l2i C at_72 (n := 73) rfl ?_
      refine G.i2b C at_73 (n := 74) rfl ?_
      refine G.bastore C O98 (by decide) (show (1 : Int32).toInt < ((19 : Nat) : Int) by decide) g91 at_74 (n := 75) rfl ?_
      intro h100 K101 W102 O103
      have O104 : Ints Z h100 b86 .byte [(nar .byte ((i2.toInt32).toInt8.toInt32)), (nar .byte ((((i2.toUInt64 >>> ((8 : Int32) &&& 0x3f).toInt64.toUInt64).toInt64).toInt32).toInt8.toInt32)), 0, 0, 0, 0, 0, 0, 0, 0, 0, 0, 0, 0, 0, 0, 0, 0, 0] := O103
      have Z105 : n0 ≤ h100.size := Nat.le_trans Z99 K101.1
      refine G.aload C at_75 rfl rfl (n := 77) rfl ?_
      refine G.iconst C (v := (2 : Int32)) at_77 (by decide) (n := 78) rfl ?_
      refine G.lload C at_78 rfl (n := 80) rfl ?_
      refine G.bipush C (v := (16 : Int32)) at_80 (by decide) (n := 82) rfl ?_
      refine G.lushr C at_82 (n := 83) rfl ?_
      refine G.l2i C at_83 (n := 84) rfl ?_
      refine G.i2b C at_84 (n := 85) rfl ?_
      refine G.bastore C O104 (by decide) (show (2 : Int32).toInt < ((19 : Nat) : Int) by decide) g91 at_85 (n := 86) rfl ?_
      intro h106 K107 W108 O109
      have O110 : Ints Z h106 b86 .byte [(nar .byte ((i2.toInt32).toInt8.toInt32)), (nar .byte ((((i2.toUInt64 >>> ((8 : Int32) &&& 0x3f).toInt64.toUInt64).toInt64).toInt32).toInt8.toInt32)), (nar .byte ((((i2.toUInt64 >>> ((16 : Int32) &&& 0x3f).toInt64.toUInt64).toInt64).toInt32).toInt8.toInt32)), 0, 0, 0, 0, 0, 0, 0, 0, 0, 0, 0, 0, 0, 0, 0, 0] := O109
      have Z111 : n0 ≤ h106.size := Nat.le_trans Z105 K107.1
      refine G.aload C at_86 rfl rfl (n := 88) rfl ?_
      refine G.bipush C (v := (16 : Int32)) at_88 (by decide) (n := 90) rfl ?_
      refine G.lload C at_90 rfl (n := 92) rfl ?_
      refine G.bipush C (v := (24 : Int32)) at_92 (by decide) (n := 94) rfl ?_
      refine G.lushr C at_94 (n := 95) rfl ?_
      refine G.l2i C at_95 (n := 96) rfl ?_
      refine G.i2b C at_96 (n := 97) rfl ?_
      refine G.bastore C O110 (by decide) (show (16 : Int32).toInt < ((19 : Nat) : Int) by decide) g91 at_97 (n := 98) rfl ?_
      intro h112 K113 W114 O115
      have O116 : Ints Z h112 b86 .byte [(nar .byte ((i2.toInt32).toInt8.toInt32)), (nar .byte ((((i2.toUInt64 >>> ((8 : Int32) &&& 0x3f).toInt64.toUInt64).toInt64).toInt32).toInt8.toInt32)), (nar .byte ((((i2.toUInt64 >>> ((16 : Int32) &&& 0x3f).toInt64.toUInt64).toInt64).toInt32).toInt8.toInt32)), 0, 0, 0, 0, 0, 0, 0, 0, 0, 0, 0, 0, 0, (nar .byte ((((i2.toUInt64 >>> ((24 : Int32) &&& 0x3f).toInt64.toUInt64).toInt64).toInt32).toInt8.toInt32)), 0, 0] := O115
      have Z117 : n0 ≤ h112.size := Nat.le_trans Z111 K113.1
      refine G.aload C at_98 rfl rfl (n := 100) rfl ?_
      refine G.bipush C (v := (17 : Int32)) at_100 (by decide) (n := 102) rfl ?_
      refine G.lload C at_102 rfl (n := 104) rfl ?_
      refine G.bipush C (v := (32 : Int32)) at_104 (by decide) (n := 106) rfl ?_
      refine G.lushr C at_106 (n := 107) rfl ?_
      refine G.l2i C at_107 (n := 108) rfl ?_
      refine G.i2b C at_108 (n := 109) rfl ?_
      refine G.bastore C O116 (by decide) (show (17 : Int32).toInt < ((19 : Nat) : Int) by decide) g91 at_109 (n := 110) rfl ?_
      intro h118 K119 W120 O121
      have O122 : Ints Z h118 b86 .byte [(nar .byte ((i2.toInt32).toInt8.toInt32)), (nar .byte ((((i2.toUInt64 >>> ((8 : Int32) &&& 0x3f).toInt64.toUInt64).toInt64).toInt32).toInt8.toInt32)), (nar .byte ((((i2.toUInt64 >>> ((16 : Int32) &&& 0x3f).toInt64.toUInt64).toInt64).toInt32).toInt8.toInt32)), 0, 0, 0, 0, 0, 0, 0, 0, 0, 0, 0, 0, 0, (nar .byte ((((i2.toUInt64 >>> ((24 : Int32) &&& 0x3f).toInt64.toUInt64).toInt64).toInt32).toInt8.toInt32)), (nar .byte ((((i2.toUInt64 >>> ((32 : Int32) &&& 0x3f).toInt64.toUInt64).toInt64).toInt32).toInt8.toInt32)), 0] := O121
      have Z123 : n0 ≤ h118.size := Nat.le_trans Z117 K119.1
      refine G.aload C at_110 rfl rfl (n := 112) rfl ?_
      refine G.bipush C (v := (18 : Int32)) at_112 (by decide) (n := 114) rfl ?_
      refine G.lload C at_114 rfl (n := 116) rfl ?_
      refine G.bipush C (v := (40 : Int32)) at_116 (by decide) (n := 118) rfl ?_
      refine G.lushr C at_118 (n := 119) rfl ?_
      refine G.l2i C at_119 (n := 120) rfl ?_
      refine G.i2b C at_120 (n := 121) rfl ?_
      refine G.bastore C O122 (by decide) (show (18 : Int32).toInt < ((19 : Nat) : Int) by decide) g91 at_121 (n := 122) rfl ?_
      intro h124 K125 W126 O127
      have O128 : Ints Z h124 b86 .byte [(nar .byte ((i2.toInt32).toInt8.toInt32)), (nar .byte ((((i2.toUInt64 >>> ((8 : Int32) &&& 0x3f).toInt64.toUInt64).toInt64).toInt32).toInt8.toInt32)), (nar .byte ((((i2.toUInt64 >>> ((16 : Int32) &&& 0x3f).toInt64.toUInt64).toInt64).toInt32).toInt8.toInt32)), 0, 0, 0, 0, 0, 0, 0, 0, 0, 0, 0, 0, 0, (nar .byte ((((i2.toUInt64 >>> ((24 : Int32) &&& 0x3f).toInt64.toUInt64).toInt64).toInt32).toInt8.toInt32)), (nar .byte ((((i2.toUInt64 >>> ((32 : Int32) &&& 0x3f).toInt64.toUInt64).toInt64).toInt32).toInt8.toInt32)), (nar .byte ((((i2.toUInt64 >>> ((40 : Int32) &&& 0x3f).toInt64.toUInt64).toInt64).toInt32).toInt8.toInt32))] := O127
      have Z129 : n0 ≤ h124.size := Nat.le_trans Z123 K125.1
      have qo := c_and i3 (3 : Int32) (by decide)
      rw [← hv84, show (3 : Int32).toInt = 3 from rfl] at qo
      have qo8 : (v84 + (8 : Int32)).toInt = v84.toInt + 8 := ixa (by decide) (by omega) (by decide) (by omega)
      refine G.aload C at_122 rfl rfl (n := 124) rfl ?_
      refine G.iload C at_124 rfl (n := 126) rfl ?_
      refine G.lloadN C at_126 rfl (n := 127) rfl ?_
      refine G.callS C (argsL := [(.ref b86), (.int v84), (.long i0)]) (yc := (⟨"com/example/parley/parley/KeySketchReadPinLaw", "put", "([BIJ)V"⟩ : MethodName)) (wd hw 2 rfl) (wd hw 3 rfl) (wd hw 4 rfl) (wd hw 5 rfl) (by decide) (m_put l Z a0 hw b86 v84 i0 [(nar .byte ((i2.toInt32).toInt8.toInt32)), (nar .byte ((((i2.toUInt64 >>> ((8 : Int32) &&& 0x3f).toInt64.toUInt64).toInt64).toInt32).toInt8.toInt32)), (nar .byte ((((i2.toUInt64 >>> ((16 : Int32) &&& 0x3f).toInt64.toUInt64).toInt64).toInt32).toInt8.toInt32)), 0, 0, 0, 0, 0, 0, 0, 0, 0, 0, 0, 0, 0, (nar .byte ((((i2.toUInt64 >>> ((24 : Int32) &&& 0x3f).toInt64.toUInt64).toInt64).toInt32).toInt8.toInt32)), (nar .byte ((((i2.toUInt64 >>> ((32 : Int32) &&& 0x3f).toInt64.toUInt64).toInt64).toInt32).toInt8.toInt32)), (nar .byte ((((i2.toUInt64 >>> ((40 : Int32) &&& 0x3f).toInt64.toUInt64).toInt64).toInt32).toInt8.toInt32))] h124 n0 Z129 O128 g91 (by omega) (by show _ + 8 ≤ ((19 : Nat) : Int); omega)) rfl (by decide) (W := 0) rfl (by decide) (c' := 1) (s' := 19) rfl rfl (by decide) (by decide) at_127 (n := 130) rfl pd0 rfl rfl ?_
      rintro _ h134 ⟨rfl, K130, bs131, O132, bs131_0, bs131_1, bs131_2, bs131_3, bs131_4, bs131_5, bs131_6, bs131_7, bs131_8, bs131_9⟩
      have Z135 : n0 ≤ h134.size := Nat.le_trans Z129 K130.1
      refine G.aload C at_130 rfl rfl (n := 132) rfl ?_
      refine G.iload C at_132 rfl (n := 134) rfl ?_
      refine G.bipush C (v := (8 : Int32)) at_134 (by decide) (n := 136) rfl ?_
      refine G.iadd C at_136 (n := 137) rfl ?_
      refine G.lloadN C at_137 rfl (n := 138) rfl ?_
      refine G.callS C (argsL := [(.ref b86), (.int (v84 + (8 : Int32))), (.long i1)]) (yc := (⟨"com/example/parley/parley/KeySketchReadPinLaw", "put", "([BIJ)V"⟩ : MethodName)) (wd hw 2 rfl) (wd hw 3 rfl) (wd hw 4 rfl) (wd hw 5 rfl) (by decide) (m_put l Z a0 hw b86 (v84 + (8 : Int32)) i1 bs131 h134 n0 Z135 O132 g91 (by omega) (by rw [bs131_0]; show _ + 8 ≤ ((19 : Nat) : Int); omega)) rfl (by decide) (W := 0) rfl (by decide) (c' := 1) (s' := 19) rfl rfl (by decide) (by decide) at_138 (n := 141) rfl pd0 rfl rfl ?_
      rintro _ h140 ⟨rfl, K136, bs137, O138, bs137_0, bs137_1, bs137_2, bs137_3, bs137_4, bs137_5, bs137_6, bs137_7, bs137_8, bs137_9⟩
      have Z141 : n0 ≤ h140.size := Nat.le_trans Z135 K136.1
      refine G.aload C at_141 rfl rfl (n := 143) rfl ?_
      refine G.iload C at_143 rfl (n := 145) rfl ?_
      refine G.iload C at_145 rfl (n := 147) rfl ?_
      refine G.iload C at_147 rfl (n := 149) rfl ?_
      refine G.callS C (argsL := [(.ref b86), (.int v84), (.int (1 : Int32)), (.int (4 : Int32))]) (yc := (⟨"com/example/parley/parley/KeySketch", "read", "([BIII)[J"⟩ : MethodName)) (wd hw 6 rfl) (wd hw 7 rfl) (wd hw 8 rfl) (wd hw 9 rfl) (by decide) (m_read_4_1 l Z a0 hw b86 v84 bs137 (byt i0) (byt (shu i0 8)) (byt (shu i0 16)) (byt (shu i0 24)) (i0 &&& (4294967295 : Int64)) (shu (i0 &&& (4294967295 : Int64)) 8) (shu (i0 &&& (4294967295 : Int64)) 16) (shu (i0 &&& (4294967295 : Int64)) 24) h140 n0 Z141 O138 (by omega) (by rw [bs137_0, bs131_0]; show _ + 4 ≤ ((19 : Nat) : Int); omega) (by rw [bs137_9 _ (Or.inl (by omega))]; exact bs131_1) (by rw [bs137_9 _ (Or.inl (by omega))]; exact bs131_2) (by rw [bs137_9 _ (Or.inl (by omega))]; exact bs131_3) (by rw [bs137_9 _ (Or.inl (by omega))]; exact bs131_4) (rdB_3 i0) (rdB_2 i0) (rdB_1 i0) (rdB_0 i0)) rfl (by decide) (W := 0) rfl (by decide) (c' := 2) (s' := 20) rfl rfl (by decide) (by decide) at_149 (n := 152) rfl pd1 rfl rfl ?_
      rintro _ h147 ⟨b142, rfl, f143, K144, O145⟩
      have ne148 : b86 ≠ b142 := Nat.ne_of_lt (Nat.lt_of_lt_of_le O138.lt f143)
      have g149 : n0 ≤ b142 := Nat.le_trans Z141 f143
      have O150 := O138.keep K144 nin0
      have Z151 : n0 ≤ h147.size := Nat.le_trans Z141 K144.1
      refine G.astore C at_152 rfl (l' := #[.val (.long i0), .second, .val (.long i1), .second, .val (.long i2), .second, .val (.int i3), .val (.int i4), .val (.int (4 : Int32)), .val (.int (1 : Int32)), .val (.int (1 : Int32)), .val (.int v84), .val (.ref b86), .val (.ref b142), .unset, .unset, .unset, .unset, .unset, .unset, .unset, .unset]) rfl (n := 154) rfl ?_
      refine G.iload C at_154 rfl (n := 156) rfl ?_
      refine G.bipush C (v := (8 : Int32)) at_156 (by decide) (n := 158) rfl ?_
      refine G.icmp_ne C (A := 4) (B := 8) (by decide) (by decide) at_158 (by decide) (by decide) (n := 161) (n' := 165) rfl (fun c158_152 c158_152i => ?_) (fun c158_152 c158_152i => ?_)
      rotate_left
      · exact absurd c158_152 (by decide)
      refine G.lloadN C at_165 rfl (n := 166) rfl ?_
      refine G.ldc2 C (v := (4294967295 : Int64)) (wd hw 11 rfl) at_166 (n := 169) rfl ?_
      refine G.land C at_169 (n := 170) rfl ?_
      refine G.lstoreZ C at_170 (l' := fun z => #[.val (.long i0), .second, .val (.long i1), .second, .val (.long i2), .second, .val (.int i3), .val (.int i4), .val (.int (4 : Int32)), .val (.int (1 : Int32)), .val (.int (1 : Int32)), .val (.int v84), .val (.ref b86), .val (.ref b142), .val (.long z), .second, .unset, .unset, .unset, .unset, .unset, .unset]) (fun _ => rfl) (n := 172) rfl ?_
      intro v153 hv153
      refine G.iload C at_172 rfl (n := 174) rfl ?_
      refine G.bipush C (v := (8 : Int32)) at_174 (by decide) (n := 176) rfl ?_
      refine G.icmp_ne C (A := 4) (B := 8) (by decide) (by decide) at_176 (by decide) (by decide) (n := 179) (n' := 183) rfl (fun c176_154 c176_154i => ?_) (fun c176_154 c176_154i => ?_)
      rotate_left
      · exact absurd c176_154 (by decide)
      refine G.lloadN C at_183 rfl (n := 184) rfl ?_
      refine G.bipush C (v := (32 : Int32)) at_184 (by decide) (n := 186) rfl ?_
      refine G.lushr C at_186 (n := 187) rfl ?_
      refine G.lstoreZ C at_187 (l' := fun z => #[.val (.long i0), .second, .val (.long i1), .second, .val (.long i2), .second, .val (.int i3), .val (.int i4), .val (.int (4 : Int32)), .val (.int (1 : Int32)), .val (.int (1 : Int32)), .val (.int v84), .val (.ref b86), .val (.ref b142), .val (.long v153), .second, .val (.long z), .second, .unset, .unset, .unset, .unset]) (fun _ => rfl) (n := 189) rfl ?_
      intro v155 hv155
      refine G.lloadN C at_189 rfl (n := 190) rfl ?_
      refine G.ldc2 C (v := (4294967295 : Int64)) (wd hw 11 rfl) at_190 (n := 193) rfl ?_
      refine G.land C at_193 (n := 194) rfl ?_
      refine G.lstoreZ C at_194 (l' := fun z => #[.val (.long i0), .second, .val (.long i1), .second, .val (.long i2), .second, .val (.int i3), .val (.int i4), .val (.int (4 : Int32)), .val (.int (1 : Int32)), .val (.int (1 : Int32)), .val (.int v84), .val (.ref b86), .val (.ref b142), .val (.long v153), .second, .val (.long v155), .second, .val (.long z), .second, .unset, .unset]) (fun _ => rfl) (n := 196) rfl ?_
      intro v156 hv156
      refine G.lloadN C at_196 rfl (n := 197) rfl ?_
      refine G.bipush C (v := (32 : Int32)) at_197 (by decide) (n := 199) rfl ?_
      refine G.lushr C at_199 (n := 200) rfl ?_
      refine G.lstoreZ C at_200 (l' := fun z => #[.val (.long i0), .second, .val (.long i1), .second, .val (.long i2), .second, .val (.int i3), .val (.int i4), .val (.int (4 : Int32)), .val (.int (1 : Int32)), .val (.int (1 : Int32)), .val (.int v84), .val (.ref b86), .val (.ref b142), .val (.long v153), .second, .val (.long v155), .second, .val (.long v156), .second, .val (.long z), .second]) (fun _ => rfl) (n := 202) rfl ?_
      intro v157 hv157
      refine G.aload C at_202 rfl rfl (n := 204) rfl ?_
      refine G.arraylengthL C (len := (1 : Int32)) O145 rfl at_204 (n := 205) rfl ?_
      refine G.iload C at_205 rfl (n := 207) rfl ?_
      refine G.icmp_ne C (A := 1) (B := 1) (by decide) (by decide) at_207 (by decide) (by decide) (n := 210) (n' := 278) rfl (fun c207_158 c207_158i => ?_) (fun c207_158 c207_158i => ?_)
      · exact absurd c207_158 (by decide)
      refine G.iload C at_210 rfl (n := 212) rfl ?_
      refine G.iconst C (v := (1 : Int32)) at_212 (by decide) (n := 213) rfl ?_
      refine G.icmp_lt C (A := 1) (B := 1) (by decide) (by decide) at_213 (by decide) (by decide) (n := 216) (n' := 226) rfl (fun c213_159 => ?_) (fun c213_159 => ?_)
      · exact absurd c213_159 (by decide)
      refine G.aload C at_216 rfl rfl (n := 218) rfl ?_
      refine G.iconst C (v := (0 : Int32)) at_218 (by decide) (n := 219) rfl ?_
      refine G.laload C (x := (i0 &&& (4294967295 : Int64))) O145 (by decide) rfl at_219 (n := 220) rfl ?_
      refine G.lload C at_220 rfl (n := 222) rfl ?_
      refine G.lcmp_ne C (A := (i0 &&& (4294967295 : Int64)).toInt) (B := v153.toInt) rfl rfl at_222 at_223 (by decide) (by decide) (n := 226) (n' := 278) rfl (fun c223_160 c223_160i => ?_) (fun c223_160 c223_160i => ?_)
      · exact absurd hv153.symm c223_160
      refine G.iload C at_226 rfl (n := 228) rfl ?_
      refine G.iconst C (v := (2 : Int32)) at_228 (by decide) (n := 229) rfl ?_
      refine G.icmp_lt C (A := 1) (B := 2) (by decide) (by decide) at_229 (by decide) (by decide) (n := 232) (n' := 242) rfl (fun c229_161 => ?_) (fun c229_161 => ?_)
      rotate_left
      · exact absurd c229_161 (by decide)
      refine G.iload C at_242 rfl (n := 244) rfl ?_
      refine G.iconst C (v := (3 : Int32)) at_244 (by decide) (n := 245) rfl ?_
      refine G.icmp_lt C (A := 1) (B := 3) (by decide) (by decide) at_245 (by decide) (by decide) (n := 248) (n' := 258) rfl (fun c245_162 => ?_) (fun c245_162 => ?_)
      rotate_left
      · exact absurd c245_162 (by decide)
      refine G.iload C at_258 rfl (n := 260) rfl ?_
      refine G.iconst C (v := (4 : Int32)) at_260 (by decide) (n := 261) rfl ?_
      refine G.icmp_lt C (A := 1) (B := 4) (by decide) (by decide) at_261 (by decide) (by decide) (n := 264) (n' := 274) rfl (fun c261_163 => ?_) (fun c261_163 => ?_)
      rotate_left
      · exact absurd c261_163 (by decide)
      refine G.iconst C (v := (1 : Int32)) at_274 (by decide) (n := 275) rfl ?_
      refine G.goto C at_275 (by decide) (n := 279) (by decide) ?_
      refine G.ireturn C at_279 (rfl) (by simp) (by decide) (by decide) ?_
      exact rfl
    · refine G.iload C at_44 rfl (n := 46) rfl ?_
      refine G.iconst C (v := (3 : Int32)) at_46 (by decide) (n := 47) rfl ?_
      refine G.iand C at_47 (n := 48) rfl ?_
      refine G.istoreZ C at_48 (l' := fun z => #[.val (.long i0), .second, .val (.long i1), .second, .val (.long i2), .second, .val (.int i3), .val (.int i4), .val (.int (4 : Int32)), .val (.int (2 : Int32)), .val (.int (2 : Int32)), .val (.int z), .unset, .unset, .unset, .unset, .unset, .unset, .unset, .unset, .unset, .unset]) (fun _ => rfl) (n := 50) rfl ?_
      intro v164 hv164
      refine G.bipush C (v := (19 : Int32)) at_50 (by decide) (n := 52) rfl ?_
      refine G.newarray C (ty := .byte) (cap := 19) (wd hw 1 rfl) rfl rfl (by decide) (by decide) (by decide) at_52 (n := 54) rfl (c' := 1) (s' := 19) rfl rfl (by decide) (by decide) ?_
      intro h165 b166 q167 E168 O169
      have O170 : Ints Z h165 b166 .byte [0, 0, 0, 0, 0, 0, 0, 0, 0, 0, 0, 0, 0, 0, 0, 0, 0, 0, 0] := O169
      have g171 : n0 ≤ b166 := Nat.le_trans Z0 (Nat.le_of_eq q167.symm)
      have K172 := kext E168
      have Z173 : n0 ≤ h165.size := Nat.le_trans Z0 K172.1
      refine G.astore C at_54 rfl (l' := #[.val (.long i0), .second, .val (.long i1), .second, .val (.long i2), .second, .val (.int i3), .val (.int i4), .val (.int (4 : Int32)), .val (.int (2 : Int32)), .val (.int (2 : Int32)), .val (.int v164), .val (.ref b166), .unset, .unset, .unset, .unset, .unset, .unset, .unset, .unset, .unset]) rfl (n := 56) rfl ?_
      refine G.aload C at_56 rfl rfl (n := 58) rfl ?_
      refine G.iconst C (v := (0 : Int32)) at_58 (by decide) (n := 59) rfl ?_
      refine G.lload C at_59 rfl (n := 61) rfl ?_
      refine G.l2i C at_61 (n := 62) rfl ?_
      refine G.i2b C at_62 (n := 63) rfl ?_
      refine G.bastore C O170 (by decide) (show (0 : Int32).toInt < ((19 : Nat) : Int) by decide) g171 at_63 (n := 64) rfl ?_
      intro h174 K175 W176 O177
      have O178 : Ints Z h174 b166 .byte [(nar .byte ((i2.toInt32).toInt8.toInt32)), 0, 0, 0, 0, 0, 0, 0, 0, 0, 0, 0, 0, 0, 0, 0, 0, 0, 0] := O177
      have Z179 : n0 ≤ h174.size := Nat.le_trans Z173 K175.1
      refine G.aload C at_64 rfl rfl (n := 66) rfl ?_
      refine G.iconst C (v := (1 : Int32)) at_66 (by decide) (n := 67) rfl ?_
      refine G.lload C at_67 rfl (n := 69) rfl ?_
      refine G.bipush C (v := (8 : Int32)) at_69 (by decide) (n := 71) rfl ?_
      refine G.lushr C at_71 (n := 72) rfl ?_
      refine G.l2i C at_72 (n := 73) rfl ?_
      refine G.i2b C at_73 (n := 74) rfl ?_
      refine G.bastore C O178 (by decide) (show (1 : Int32).toInt < ((19 : Nat) : Int) by decide) g171 at_74 (n := 75) rfl ?_
      intro h180 K181 W182 O183
      have O184 : Ints Z h180 b166 .byte [(nar .byte ((i2.toInt32).toInt8.toInt32)), (nar .byte ((((i2.toUInt64 >>> ((8 : Int32) &&& 0x3f).toInt64.toUInt64).toInt64).toInt32).toInt8.toInt32)), 0, 0, 0, 0, 0, 0, 0, 0, 0, 0, 0, 0, 0, 0, 0, 0, 0] := O183
      have Z185 : n0 ≤ h180.size := Nat.le_trans Z179 K181.1
      refine G.aload C at_75 rfl rfl (n := 77) rfl ?_
      refine G.iconst C (v := (2 : Int32)) at_77 (by decide) (n := 78) rfl ?_
      refine G.lload C at_78 rfl (n := 80) rfl ?_
      refine G.bipush C (v := (16 : Int32)) at_80 (by decide) (n := 82) rfl ?_
      refine G.lushr C at_82 (n := 83) rfl ?_
      refine G.l2i C at_83 (n := 84) rfl ?_
      refine G.i2b C at_84 (n := 85) rfl ?_
      refine G.bastore C O184 (by decide) (show (2 : Int32).toInt < ((19 : Nat) : Int) by decide) g171 at_85 (n := 86) rfl ?_
      intro h186 K187 W188 O189
      have O190 : Ints Z h186 b166 .byte [(nar .byte ((i2.toInt32).toInt8.toInt32)), (nar .byte ((((i2.toUInt64 >>> ((8 : Int32) &&& 0x3f).toInt64.toUInt64).toInt64).toInt32).toInt8.toInt32)), (nar .byte ((((i2.toUInt64 >>> ((16 : Int32) &&& 0x3f).toInt64.toUInt64).toInt64).toInt32).toInt8.toInt32)), 0, 0, 0, 0, 0, 0, 0, 0, 0, 0, 0, 0, 0, 0, 0, 0] := O189
      have Z191 : n0 ≤ h186.size := Nat.le_trans Z185 K187.1
      refine G.aload C at_86 rfl rfl (n := 88) rfl ?_
      refine G.bipush C (v := (16 : Int32)) at_88 (by decide) (n := 90) rfl ?_
      refine G.lload C at_90 rfl (n := 92) rfl ?_
      refine G.bipush C (v := (24 : Int32)) at_92 (by decide) (n := 94) rfl ?_
      refine G.lushr C at_94 (n := 95) rfl ?_
      refine G.l2i C at_95 (n := 96) rfl ?_
      refine G.i2b C at_96 (n := 97) rfl ?_
      refine G.bastore C O190 (by decide) (show (16 : Int32).toInt < ((19 : Nat) : Int) by decide) g171 at_97 (n := 98) rfl ?_
      intro h192 K193 W194 O195
      have O196 : Ints Z h192 b166 .byte [(nar .byte ((i2.toInt32).toInt8.toInt32)), (nar .byte ((((i2.toUInt64 >>> ((8 : Int32) &&& 0x3f).toInt64.toUInt64).toInt64).toInt32).toInt8.toInt32)), (nar .byte ((((i2.toUInt64 >>> ((16 : Int32) &&& 0x3f).toInt64.toUInt64).toInt64).toInt32).toInt8.toInt32)), 0, 0, 0, 0, 0, 0, 0, 0, 0, 0, 0, 0, 0, (nar .byte ((((i2.toUInt64 >>> ((24 : Int32) &&& 0x3f).toInt64.toUInt64).toInt64).toInt32).toInt8.toInt32)), 0, 0] := O195
      have Z197 : n0 ≤ h192.size := Nat.le_trans Z191 K193.1
      refine G.aload C at_98 rfl rfl (n := 100) rfl ?_
      refine G.bipush C (v := (17 : Int32)) at_100 (by decide) (n := 102) rfl ?_
      refine G.lload C at_102 rfl (n := 104) rfl ?_
      refine G.bipush C (v := (32 : Int32)) at_104 (by decide) (n := 106) rfl ?_
      refine G.lushr C at_106 (n := 107) rfl ?_
      refine G.l2i C at_107 (n := 108) rfl ?_
      refine G.i2b C at_108 (n := 109) rfl ?_
      refine G.bastore C O196 (by decide) (show (17 : Int32).toInt < ((19 : Nat) : Int) by decide) g171 at_109 (n := 110) rfl ?_
      intro h198 K199 W200 O201
      have O202 : Ints Z h198 b166 .byte [(nar .byte ((i2.toInt32).toInt8.toInt32)), (nar .byte ((((i2.toUInt64 >>> ((8 : Int32) &&& 0x3f).toInt64.toUInt64).toInt64).toInt32).toInt8.toInt32)), (nar .byte ((((i2.toUInt64 >>> ((16 : Int32) &&& 0x3f).toInt64.toUInt64).toInt64).toInt32).toInt8.toInt32)), 0, 0, 0, 0, 0, 0, 0, 0, 0, 0, 0, 0, 0, (nar .byte ((((i2.toUInt64 >>> ((24 : Int32) &&& 0x3f).toInt64.toUInt64).toInt64).toInt32).toInt8.toInt32)), (nar .byte ((((i2.toUInt64 >>> ((32 : Int32) &&& 0x3f).toInt64.toUInt64).toInt64).toInt32).toInt8.toInt32)), 0] := O201
      have Z203 : n0 ≤ h198.size := Nat.le_trans Z197 K199.1
      refine G.aload C at_110 rfl rfl (n := 112) rfl ?_
      refine G.bipush C (v := (18 : Int32)) at_112 (by decide) (n := 114) rfl ?_
      refine G.lload C at_114 rfl (n := 116) rfl ?_
      refine G.bipush C (v := (40 : Int32)) at_116 (by decide) (n := 118) rfl ?_
      refine G.lushr C at_118 (n := 119) rfl ?_
      refine G.l2i C at_119 (n := 120) rfl ?_
      refine G.i2b C at_120 (n := 121) rfl ?_
      refine G.bastore C O202 (by decide) (show (18 : Int32).toInt < ((19 : Nat) : Int) by decide) g171 at_121 (n := 122) rfl ?_
      intro h204 K205 W206 O207
      have O208 : Ints Z h204 b166 .byte [(nar .byte ((i2.toInt32).toInt8.toInt32)), (nar .byte ((((i2.toUInt64 >>> ((8 : Int32) &&& 0x3f).toInt64.toUInt64).toInt64).toInt32).toInt8.toInt32)), (nar .byte ((((i2.toUInt64 >>> ((16 : Int32) &&& 0x3f).toInt64.toUInt64).toInt64).toInt32).toInt8.toInt32)), 0, 0, 0, 0, 0, 0, 0, 0, 0, 0, 0, 0, 0, (nar .byte ((((i2.toUInt64 >>> ((24 : Int32) &&& 0x3f).toInt64.toUInt64).toInt64).toInt32).toInt8.toInt32)), (nar .byte ((((i2.toUInt64 >>> ((32 : Int32) &&& 0x3f).toInt64.toUInt64).toInt64).toInt32).toInt8.toInt32)), (nar .byte ((((i2.toUInt64 >>> ((40 : Int32) &&& 0x3f).toInt64.toUInt64).toInt64).toInt32).toInt8.toInt32))] := O207
      have Z209 : n0 ≤ h204.size := Nat.le_trans Z203 K205.1
      have qo := c_and i3 (3 : Int32) (by decide)
      rw [← hv164, show (3 : Int32).toInt = 3 from rfl] at qo
      have qo8 : (v164 + (8 : Int32)).toInt = v164.toInt + 8 := ixa (by decide) (by omega) (by decide) (by omega)
      refine G.aload C at_122 rfl rfl (n := 124) rfl ?_
      refine G.iload C at_124 rfl (n := 126) rfl ?_
      refine G.lloadN C at_126 rfl (n := 127) rfl ?_
      refine G.callS C (argsL := [(.ref b166), (.int v164), (.long i0)]) (yc := (⟨"com/example/parley/parley/KeySketchReadPinLaw", "put", "([BIJ)V"⟩ : MethodName)) (wd hw 2 rfl) (wd hw 3 rfl) (wd hw 4 rfl) (wd hw 5 rfl) (by decide) (m_put l Z a0 hw b166 v164 i0 [(nar .byte ((i2.toInt32).toInt8.toInt32)), (nar .byte ((((i2.toUInt64 >>> ((8 : Int32) &&& 0x3f).toInt64.toUInt64).toInt64).toInt32).toInt8.toInt32)), (nar .byte ((((i2.toUInt64 >>> ((16 : Int32) &&& 0x3f).toInt64.toUInt64).toInt64).toInt32).toInt8.toInt32)), 0, 0, 0, 0, 0, 0, 0, 0, 0, 0, 0, 0, 0, (nar .byte ((((i2.toUInt64 >>> ((24 : Int32) &&& 0x3f).toInt64.toUInt64).toInt64).toInt32).toInt8.toInt32)), (nar .byte ((((i2.toUInt64 >>> ((32 : Int32) &&& 0x3f).toInt64.toUInt64).toInt64).toInt32).toInt8.toInt32)), (nar .byte ((((i2.toUInt64 >>> ((40 : Int32) &&& 0x3f).toInt64.toUInt64).toInt64).toInt32).toInt8.toInt32))] h204 n0 Z209 O208 g171 (by omega) (by show _ + 8 ≤ ((19 : Nat) : Int); omega)) rfl (by decide) (W := 0) rfl (by decide) (c' := 1) (s' := 19) rfl rfl (by decide) (by decide) at_127 (n := 130) rfl pd0 rfl rfl ?_
      rintro _ h214 ⟨rfl, K210, bs211, O212, bs211_0, bs211_1, bs211_2, bs211_3, bs211_4, bs211_5, bs211_6, bs211_7, bs211_8, bs211_9⟩
      have Z215 : n0 ≤ h214.size := Nat.le_trans Z209 K210.1
      refine G.aload C at_130 rfl rfl (n := 132) rfl ?_
      refine G.iload C at_132 rfl (n := 134) rfl ?_
      refine G.bipush C (v := (8 : Int32)) at_134 (by decide) (n := 136) rfl ?_
      refine G.iadd C at_136 (n := 137) rfl ?_
      refine G.lloadN C at_137 rfl (n := 138) rfl ?_
      refine G.callS C (argsL := [(.ref b166), (.int (v164 + (8 : Int32))), (.long i1)]) (yc := (⟨"com/example/parley/parley/KeySketchReadPinLaw", "put", "([BIJ)V"⟩ : MethodName)) (wd hw 2 rfl) (wd hw 3 rfl) (wd hw 4 rfl) (wd hw 5 rfl) (by decide) (m_put l Z a0 hw b166 (v164 + (8 : Int32)) i1 bs211 h214 n0 Z215 O212 g171 (by omega) (by rw [bs211_0]; show _ + 8 ≤ ((19 : Nat) : Int); omega)) rfl (by decide) (W := 0) rfl (by decide) (c' := 1) (s' := 19) rfl rfl (by decide) (by decide) at_138 (n := 141) rfl pd0 rfl rfl ?_
      rintro _ h220 ⟨rfl, K216, bs217, O218, bs217_0, bs217_1, bs217_2, bs217_3, bs217_4, bs217_5, bs217_6, bs217_7, bs217_8, bs217_9⟩
      have Z221 : n0 ≤ h220.size := Nat.le_trans Z215 K216.1
      refine G.aload C at_141 rfl rfl (n := 143) rfl ?_
      refine G.iload C at_143 rfl (n := 145) rfl ?_
      refine G.iload C at_145 rfl (n := 147) rfl ?_
      refine G.iload C at_147 rfl (n := 149) rfl ?_
      refine G.callS C (argsL := [(.ref b166), (.int v164), (.int (2 : Int32)), (.int (4 : Int32))]) (yc := (⟨"com/example/parley/parley/KeySketch", "read", "([BIII)[J"⟩ : MethodName)) (wd hw 6 rfl) (wd hw 7 rfl) (wd hw 8 rfl) (wd hw 9 rfl) (by decide) (m_read_4_2 l Z a0 hw b166 v164 bs217 (byt i0) (byt (shu i0 8)) (byt (shu i0 16)) (byt (shu i0 24)) (byt (shu i0 32)) (byt (shu i0 40)) (byt (shu i0 48)) (byt (shu i0 56)) (i0 &&& (4294967295 : Int64)) (shu (i0 &&& (4294967295 : Int64)) 8) (shu (i0 &&& (4294967295 : Int64)) 16) (shu (i0 &&& (4294967295 : Int64)) 24) (shu i0 32) (shu (shu i0 32) 8) (shu (shu i0 32) 16) (shu (shu i0 32) 24) h220 n0 Z221 O218 (by omega) (by rw [bs217_0, bs211_0]; show _ + 8 ≤ ((19 : Nat) : Int); omega) (by rw [bs217_9 _ (Or.inl (by omega))]; exact bs211_1) (by rw [bs217_9 _ (Or.inl (by omega))]; exact bs211_2) (by rw [bs217_9 _ (Or.inl (by omega))]; exact bs211_3) (by rw [bs217_9 _ (Or.inl (by omega))]; exact bs211_4) (by rw [bs217_9 _ (Or.inl (by omega))]; exact bs211_5) (by rw [bs217_9 _ (Or.inl (by omega))]; exact bs211_6) (by rw [bs217_9 _ (Or.inl (by omega))]; exact bs211_7) (by rw [bs217_9 _ (Or.inl (by omega))]; exact bs211_8) (rdB_3 i0) (rdB_2 i0) (rdB_1 i0) (rdB_0 i0) (rdC_3 i0) (rdC_2 i0) (rdC_1 i0) (rdC_0 i0)) rfl (by decide) (W := 0) rfl (by decide) (c' := 2) (s' := 21) rfl rfl (by decide) (by decide) at_149 (n := 152) rfl pd1 rfl rfl ?_
      rintro _ h227 ⟨b222, rfl, f223, K224, O225⟩
      have ne228 : b166 ≠ b222 := Nat.ne_of_lt (Nat.lt_of_lt_of_le O218.lt f223)
      have g229 : n0 ≤ b222 := Nat.le_trans Z221 f223
      have O230 := O218.keep K224 nin0
      have Z231 : n0 ≤ h227.size := Nat.le_trans Z221 K224.1
      refine G.astore C at_152 rfl (l' := #[.val (.long i0), .second, .val (.long i1), .second, .val (.long i2), .second, .val (.int i3), .val (.int i4), .val (.int (4 : Int32)), .val (.int (2 : Int32)), .val (.int (2 : Int32)), .val (.int v164), .val (.ref b166), .val (.ref b222), .unset, .unset, .unset, .unset, .unset, .unset, .unset, .unset]) rfl (n := 154) rfl ?_
      refine G.iload C at_154 rfl (n := 156) rfl ?_
      refine G.bipush C (v := (8 : Int32)) at_156 (by decide) (n := 158) rfl ?_
      refine G.icmp_ne C (A := 4) (B := 8) (by decide) (by decide) at_158 (by decide) (by decide) (n := 161) (n' := 165) rfl (fun c158_232 c158_232i => ?_) (fun c158_232 c158_232i => ?_)
      rotate_left
      · exact absurd c158_232 (by decide)
      refine G.lloadN C at_165 rfl (n := 166) rfl ?_
      refine G.ldc2 C (v := (4294967295 : Int64)) (wd hw 11 rfl) at_166 (n := 169) rfl ?_
      refine G.land C at_169 (n := 170) rfl ?_
      refine G.lstoreZ C at_170 (l' := fun z => #[.val (.long i0), .second, .val (.long i1), .second, .val (.long i2), .second, .val (.int i3), .val (.int i4), .val (.int (4 : Int32)), .val (.int (2 : Int32)), .val (.int (2 : Int32)), .val (.int v164), .val (.ref b166), .val (.ref b222), .val (.long z), .second, .unset, .unset, .unset, .unset, .unset, .unset]) (fun _ => rfl) (n := 172) rfl ?_
      intro v233 hv233
      refine G.iload C at_172 rfl (n := 174) rfl ?_
      refine G.bipush C (v := (8 : Int32)) at_174 (by decide) (n := 176) rfl ?_
      refine G.icmp_ne C (A := 4) (B := 8) (by decide) (by decide) at_176 (by decide) (by decide) (n := 179) (n' := 183) rfl (fun c176_234 c176_234i => ?_) (fun c176_234 c176_234i => ?_)
      rotate_left
      · exact absurd c176_234 (by decide)
      refine G.lloadN C at_183 rfl (n := 184) rfl ?_
      refine G.bipush C (v := (32 : Int32)) at_184 (by decide) (n := 186) rfl ?_
      refine G.lushr C at_186 (n := 187) rfl ?_
      refine G.lstoreZ C at_187 (l' := fun z => #[.val (.long i0), .second, .val (.long i1), .second, .val (.long i2), .second, .val (.int i3), .val (.int i4), .val (.int (4 : Int32)), .val (.int (2 : Int32)), .val (.int (2 : Int32)), .val (.int v164), .val (.ref b166), .val (.ref b222), .val (.long v233), .second, .val (.long z), .second, .unset, .unset, .unset, .unset]) (fun _ => rfl) (n := 189) rfl ?_
      intro v235 hv235
      refine G.lloadN C at_189 rfl (n := 190) rfl ?_
      refine G.ldc2 C (v := (4294967295 : Int64)) (wd hw 11 rfl) at_190 (n := 193) rfl ?_
      refine G.land C at_193 (n := 194) rfl ?_
      refine G.lstoreZ C at_194 (l' := fun z => #[.val (.long i0), .second, .val (.long i1), .second, .val (.long i2), .second, .val (.int i3), .val (.int i4), .val (.int (4 : Int32)), .val (.int (2 : Int32)), .val (.int (2 : Int32)), .val (.int v164), .val (.ref b166), .val (.ref b222), .val (.long v233), .second, .val (.long v235), .second, .val (.long z), .second, .unset, .unset]) (fun _ => rfl) (n := 196) rfl ?_
      intro v236 hv236
      refine G.lloadN C at_196 rfl (n := 197) rfl ?_
      refine G.bipush C (v := (32 : Int32)) at_197 (by decide) (n := 199) rfl ?_
      refine G.lushr C at_199 (n := 200) rfl ?_
      refine G.lstoreZ C at_200 (l' := fun z => #[.val (.long i0), .second, .val (.long i1), .second, .val (.long i2), .second, .val (.int i3), .val (.int i4), .val (.int (4 : Int32)), .val (.int (2 : Int32)), .val (.int (2 : Int32)), .val (.int v164), .val (.ref b166), .val (.ref b222), .val (.long v233), .second, .val (.long v235), .second, .val (.long v236), .second, .val (.long z), .second]) (fun _ => rfl) (n := 202) rfl ?_
      intro v237 hv237
      refine G.aload C at_202 rfl rfl (n := 204) rfl ?_
      refine G.arraylengthL C (len := (2 : Int32)) O225 rfl at_204 (n := 205) rfl ?_
      refine G.iload C at_205 rfl (n := 207) rfl ?_
      refine G.icmp_ne C (A := 2) (B := 2) (by decide) (by decide) at_207 (by decide) (by decide) (n := 210) (n' := 278) rfl (fun c207_238 c207_238i => ?_) (fun c207_238 c207_238i => ?_)
      · exact absurd c207_238 (by decide)
      refine G.iload C at_210 rfl (n := 212) rfl ?_
      refine G.iconst C (v := (1 : Int32)) at_212 (by decide) (n := 213) rfl ?_
      refine G.icmp_lt C (A := 2) (B := 1) (by decide) (by decide) at_213 (by decide) (by decide) (n := 216) (n' := 226) rfl (fun c213_239 => ?_) (fun c213_239 => ?_)
      · exact absurd c213_239 (by decide)
      refine G.aload C at_216 rfl rfl (n := 218) rfl ?_
      refine G.iconst C (v := (0 : Int32)) at_218 (by decide) (n := 219) rfl ?_
      refine G.laload C (x := (i0 &&& (4294967295 : Int64))) O225 (by decide) rfl at_219 (n := 220) rfl ?_
      refine G.lload C at_220 rfl (n := 222) rfl ?_
      refine G.lcmp_ne C (A := (i0 &&& (4294967295 : Int64)).toInt) (B := v233.toInt) rfl rfl at_222 at_223 (by decide) (by decide) (n := 226) (n' := 278) rfl (fun c223_240 c223_240i => ?_) (fun c223_240 c223_240i => ?_)
      · exact absurd hv233.symm c223_240
      refine G.iload C at_226 rfl (n := 228) rfl ?_
      refine G.iconst C (v := (2 : Int32)) at_228 (by decide) (n := 229) rfl ?_
      refine G.icmp_lt C (A := 2) (B := 2) (by decide) (by decide) at_229 (by decide) (by decide) (n := 232) (n' := 242) rfl (fun c229_241 => ?_) (fun c229_241 => ?_)
      · exact absurd c229_241 (by decide)
      refine G.aload C at_232 rfl rfl (n := 234) rfl ?_
      refine G.iconst C (v := (1 : Int32)) at_234 (by decide) (n := 235) rfl ?_
      refine G.laload C (x := ((i0.toUInt64 >>> ((32 : Int32) &&& 0x3f).toInt64.toUInt64).toInt64)) O225 (by decide) rfl at_235 (n := 236) rfl ?_
      refine G.lload C at_236 rfl (n := 238) rfl ?_
      refine G.lcmp_ne C (A := ((i0.toUInt64 >>> ((32 : Int32) &&& 0x3f).toInt64.toUInt64).toInt64).toInt) (B := v235.toInt) rfl rfl at_238 at_239 (by decide) (by decide) (n := 242) (n' := 278) rfl (fun c239_242 c239_242i => ?_) (fun c239_242 c239_242i => ?_)
      · exact absurd hv235.symm c239_242
      refine G.iload C at_242 rfl (n := 244) rfl ?_
      refine G.iconst C (v := (3 : Int32)) at_244 (by decide) (n := 245) rfl ?_
      refine G.icmp_lt C (A := 2) (B := 3) (by decide) (by decide) at_245 (by decide) (by decide) (n := 248) (n' := 258) rfl (fun c245_243 => ?_) (fun c245_243 => ?_)
      rotate_left
      · exact absurd c245_243 (by decide)
      refine G.iload C at_258 rfl (n := 260) rfl ?_
      refine G.iconst C (v := (4 : Int32)) at_260 (by decide) (n := 261) rfl ?_
      refine G.icmp_lt C (A := 2) (B := 4) (by decide) (by decide) at_261 (by decide) (by decide) (n := 264) (n' := 274) rfl (fun c261_244 => ?_) (fun c261_244 => ?_)
      rotate_left
      · exact absurd c261_244 (by decide)
      refine G.iconst C (v := (1 : Int32)) at_274 (by decide) (n := 275) rfl ?_
      refine G.goto C at_275 (by decide) (n := 279) (by decide) ?_
      refine G.ireturn C at_279 (rfl) (by simp) (by decide) (by decide) ?_
      exact rfl
    · refine G.iload C at_44 rfl (n := 46) rfl ?_
      refine G.iconst C (v := (3 : Int32)) at_46 (by decide) (n := 47) rfl ?_
      refine G.iand C at_47 (n := 48) rfl ?_
      refine G.istoreZ C at_48 (l' := fun z => #[.val (.long i0), .second, .val (.long i1), .second, .val (.long i2), .second, .val (.int i3), .val (.int i4), .val (.int (4 : Int32)), .val (.int (3 : Int32)), .val (.int (3 : Int32)), .val (.int z), .unset, .unset, .unset, .unset, .unset, .unset, .unset, .unset, .unset, .unset]) (fun _ => rfl) (n := 50) rfl ?_
      intro v245 hv245
      refine G.bipush C (v := (19 : Int32)) at_50 (by decide) (n := 52) rfl ?_
      refine G.newarray C (ty := .byte) (cap := 19) (wd hw 1 rfl) rfl rfl (by decide) (by decide) (by decide) at_52 (n := 54) rfl (c' := 1) (s' := 19) rfl rfl (by decide) (by decide) ?_
      intro h246 b247 q248 E249 O250
      have O251 : Ints Z h246 b247 .byte [0, 0, 0, 0, 0, 0, 0, 0, 0, 0, 0, 0, 0, 0, 0, 0, 0, 0, 0] := O250
      have g252 : n0 ≤ b247 := Nat.le_trans Z0 (Nat.le_of_eq q248.symm)
      have K253 := kext E249
      have Z254 : n0 ≤ h246.size := Nat.le_trans Z0 K253.1
      refine G.astore C at_54 rfl (l' := #[.val (.long i0), .second, .val (.long i1), .second, .val (.long i2), .second, .val (.int i3), .val (.int i4), .val (.int (4 : Int32)), .val (.int (3 : Int32)), .val (.int (3 : Int32)), .val (.int v245), .val (.ref b247), .unset, .unset, .unset, .unset, .unset, .unset, .unset, .unset, .unset]) rfl (n := 56) rfl ?_
      refine G.aload C at_56 rfl rfl (n := 58) rfl ?_
      refine G.iconst C (v := (0 : Int32)) at_58 (by decide) (n := 59) rfl ?_
      refine G.lload C at_59 rfl (n := 61) rfl ?_
      refine G.l2i C at_61 (n := 62) rfl ?_
      refine G.i2b C at_62 (n := 63) rfl ?_
      refine G.bastore C O251 (by decide) (show (0 : Int32).toInt < ((19 : Nat) : Int) by decide) g252 at_63 (n := 64) rfl ?_
      intro h255 K256 W257 O258
      have O259 : Ints Z h255 b247 .byte [(nar .byte ((i2.toInt32).toInt8.toInt32)), 0, 0, 0, 0, 0, 0, 0, 0, 0, 0, 0, 0, 0, 0, 0, 0, 0, 0] := O258
      have Z260 : n0 ≤ h255.size := Nat.le_trans Z254 K256.1
      refine G.aload C at_64 rfl rfl (n := 66) rfl ?_
      refine G.iconst C (v := (1 : Int32)) at_66 (by decide) (n := 67) rfl ?_
      refine G.lload C at_67 rfl (n := 69) rfl ?_
      refine G.bipush C (v := (8 : Int32)) at_69 (by decide) (n := 71) rfl ?_
      refine G.lushr C at_71 (n := 72) rfl ?_
      refine G.l2i C at_72 (n := 73) rfl ?_
      refine G.i2b C at_73 (n := 74) rfl ?_
      refine G.bastore C O259 (by decide) (show (1 : Int32).toInt < ((19 : Nat) : Int) by decide) g252 at_74 (n := 75) rfl ?_
      intro h261 K262 W263 O264
      have O265 : Ints Z h261 b247 .byte [(nar .byte ((i2.toInt32).toInt8.toInt32)), (nar .byte ((((i2.toUInt64 >>> ((8 : Int32) &&& 0x3f).toInt64.toUInt64).toInt64).toInt32).toInt8.toInt32)), 0, 0, 0, 0, 0, 0, 0, 0, 0, 0, 0, 0, 0, 0, 0, 0, 0] := O264
      have Z266 : n0 ≤ h261.size := Nat.le_trans Z260 K262.1
      refine G.aload C at_75 rfl rfl (n := 77) rfl ?_
      refine G.iconst C (v := (2 : Int32)) at_77 (by decide) (n := 78) rfl ?_
      refine G.lload C at_78 rfl (n := 80) rfl ?_
      refine G.bipush C (v := (16 : Int32)) at_80 (by decide) (n := 82) rfl ?_
      refine G.lushr C at_82 (n := 83) rfl ?_
      refine G.l2i C at_83 (n := 84) rfl ?_
      refine G.i2b C at_84 (n := 85) rfl ?_
      refine G.bastore C O265 (by decide) (show (2 : Int32).toInt < ((19 : Nat) : Int) by decide) g252 at_85 (n := 86) rfl ?_
      intro h267 K268 W269 O270
      have O271 : Ints Z h267 b247 .byte [(nar .byte ((i2.toInt32).toInt8.toInt32)), (nar .byte ((((i2.toUInt64 >>> ((8 : Int32) &&& 0x3f).toInt64.toUInt64).toInt64).toInt32).toInt8.toInt32)), (nar .byte ((((i2.toUInt64 >>> ((16 : Int32) &&& 0x3f).toInt64.toUInt64).toInt64).toInt32).toInt8.toInt32)), 0, 0, 0, 0, 0, 0, 0, 0, 0, 0, 0, 0, 0, 0, 0, 0] := O270
      have Z272 : n0 ≤ h267.size := Nat.le_trans Z266 K268.1
      refine G.aload C at_86 rfl rfl (n := 88) rfl ?_
      refine G.bipush C (v := (16 : Int32)) at_88 (by decide) (n := 90) rfl ?_
      refine G.lload C at_90 rfl (n := 92) rfl ?_
      refine G.bipush C (v := (24 : Int32)) at_92 (by decide) (n := 94) rfl ?_
      refine G.lushr C at_94 (n := 95) rfl ?_
      refine G.l2i C at_95 (n := 96) rfl ?_
      refine G.i2b C at_96 (n := 97) rfl ?_
      refine G.bastore C O271 (by decide) (show (16 : Int32).toInt < ((19 : Nat) : Int) by decide) g252 at_97 (n := 98) rfl ?_
      intro h273 K274 W275 O276
      have O277 : Ints Z h273 b247 .byte [(nar .byte ((i2.toInt32).toInt8.toInt32)), (nar .byte ((((i2.toUInt64 >>> ((8 : Int32) &&& 0x3f).toInt64.toUInt64).toInt64).toInt32).toInt8.toInt32)), (nar .byte ((((i2.toUInt64 >>> ((16 : Int32) &&& 0x3f).toInt64.toUInt64).toInt64).toInt32).toInt8.toInt32)), 0, 0, 0, 0, 0, 0, 0, 0, 0, 0, 0, 0, 0, (nar .byte ((((i2.toUInt64 >>> ((24 : Int32) &&& 0x3f).toInt64.toUInt64).toInt64).toInt32).toInt8.toInt32)), 0, 0] := O276
      have Z278 : n0 ≤ h273.size := Nat.le_trans Z272 K274.1
      refine G.aload C at_98 rfl rfl (n := 100) rfl ?_
      refine G.bipush C (v := (17 : Int32)) at_100 (by decide) (n := 102) rfl ?_
      refine G.lload C at_102 rfl (n := 104) rfl ?_
      refine G.bipush C (v := (32 : Int32)) at_104 (by decide) (n := 106) rfl ?_
      refine G.lushr C at_106 (n := 107) rfl ?_
      refine G.l2i C at_107 (n := 108) rfl ?_
      refine G.i2b C at_108 (n := 109) rfl ?_
      refine G.bastore C O277 (by decide) (show (17 : Int32).toInt < ((19 : Nat) : Int) by decide) g252 at_109 (n := 110) rfl ?_
      intro h279 K280 W281 O282
      have O283 : Ints Z h279 b247 .byte [(nar .byte ((i2.toInt32).toInt8.toInt32)), (nar .byte ((((i2.toUInt64 >>> ((8 : Int32) &&& 0x3f).toInt64.toUInt64).toInt64).toInt32).toInt8.toInt32)), (nar .byte ((((i2.toUInt64 >>> ((16 : Int32) &&& 0x3f).toInt64.toUInt64).toInt64).toInt32).toInt8.toInt32)), 0, 0, 0, 0, 0, 0, 0, 0, 0, 0, 0, 0, 0, (nar .byte ((((i2.toUInt64 >>> ((24 : Int32) &&& 0x3f).toInt64.toUInt64).toInt64).toInt32).toInt8.toInt32)), (nar .byte ((((i2.toUInt64 >>> ((32 : Int32) &&& 0x3f).toInt64.toUInt64).toInt64).toInt32).toInt8.toInt32)), 0] := O282
      have Z284 : n0 ≤ h279.size := Nat.le_trans Z278 K280.1
      refine G.aload C at_110 rfl rfl (n := 112) rfl ?_
      refine G.bipush C (v := (18 : Int32)) at_112 (by decide) (n := 114) rfl ?_
      refine G.lload C at_114 rfl (n := 116) rfl ?_
      refine G.bipush C (v := (40 : Int32)) at_116 (by decide) (n := 118) rfl ?_
      refine G.lushr C at_118 (n := 119) rfl ?_
      refine G.l2i C at_119 (n := 120) rfl ?_
      refine G.i2b C at_120 (n := 121) rfl ?_
      refine G.bastore C O283 (by decide) (show (18 : Int32).toInt < ((19 : Nat) : Int) by decide) g252 at_121 (n := 122) rfl ?_
      intro h285 K286 W287 O288
      have O289 : Ints Z h285 b247 .byte [(nar .byte ((i2.toInt32).toInt8.toInt32)), (nar .byte ((((i2.toUInt64 >>> ((8 : Int32) &&& 0x3f).toInt64.toUInt64).toInt64).toInt32).toInt8.toInt32)), (nar .byte ((((i2.toUInt64 >>> ((16 : Int32) &&& 0x3f).toInt64.toUInt64).toInt64).toInt32).toInt8.toInt32)), 0, 0, 0, 0, 0, 0, 0, 0, 0, 0, 0, 0, 0, (nar .byte ((((i2.toUInt64 >>> ((24 : Int32) &&& 0x3f).toInt64.toUInt64).toInt64).toInt32).toInt8.toInt32)), (nar .byte ((((i2.toUInt64 >>> ((32 : Int32) &&& 0x3f).toInt64.toUInt64).toInt64).toInt32).toInt8.toInt32)), (nar .byte ((((i2.toUInt64 >>> ((40 : Int32) &&& 0x3f).toInt64.toUInt64).toInt64).toInt32).toInt8.toInt32))] := O288
      have Z290 : n0 ≤ h285.size := Nat.le_trans Z284 K286.1
      have qo := c_and i3 (3 : Int32) (by decide)
      rw [← hv245, show (3 : Int32).toInt = 3 from rfl] at qo
      have qo8 : (v245 + (8 : Int32)).toInt = v245.toInt + 8 := ixa (by decide) (by omega) (by decide) (by omega)
      refine G.aload C at_122 rfl rfl (n := 124) rfl ?_
      refine G.iload C at_124 rfl (n := 126) rfl ?_
      refine G.lloadN C at_126 rfl (n := 127) rfl ?_
      refine G.callS C (argsL := [(.ref b247), (.int v245), (.long i0)]) (yc := (⟨"com/example/parley/parley/KeySketchReadPinLaw", "put", "([BIJ)V"⟩ : MethodName)) (wd hw 2 rfl) (wd hw 3 rfl) (wd hw 4 rfl) (wd hw 5 rfl) (by decide) (m_put l Z a0 hw b247 v245 i0 [(nar .byte ((i2.toInt32).toInt8.toInt32)), (nar .byte ((((i2.toUInt64 >>> ((8 : Int32) &&& 0x3f).toInt64.toUInt64).toInt64).toInt32).toInt8.toInt32)), (nar .byte ((((i2.toUInt64 >>> ((16 : Int32) &&& 0x3f).toInt64.toUInt64).toInt64).toInt32).toInt8.toInt32)), 0, 0, 0, 0, 0, 0, 0, 0, 0, 0, 0, 0, 0, (nar .byte ((((i2.toUInt64 >>> ((24 : Int32) &&& 0x3f).toInt64.toUInt64).toInt64).toInt32).toInt8.toInt32)), (nar .byte ((((i2.toUInt64 >>> ((32 : Int32) &&& 0x3f).toInt64.toUInt64).toInt64).toInt32).toInt8.toInt32)), (nar .byte ((((i2.toUInt64 >>> ((40 : Int32) &&& 0x3f).toInt64.toUInt64).toInt64).toInt32).toInt8.toInt32))] h285 n0 Z290 O289 g252 (by omega) (by show _ + 8 ≤ ((19 : Nat) : Int); omega)) rfl (by decide) (W := 0) rfl (by decide) (c' := 1) (s' := 19) rfl rfl (by decide) (by decide) at_127 (n := 130) rfl pd0 rfl rfl ?_
      rintro _ h295 ⟨rfl, K291, bs292, O293, bs292_0, bs292_1, bs292_2, bs292_3, bs292_4, bs292_5, bs292_6, bs292_7, bs292_8, bs292_9⟩
      have Z296 : n0 ≤ h295.size := Nat.le_trans Z290 K291.1
      refine G.aload C at_130 rfl rfl (n := 132) rfl ?_
      refine G.iload C at_132 rfl (n := 134) rfl ?_
      refine G.bipush C (v := (8 : Int32)) at_134 (by decide) (n := 136) rfl ?_
      refine G.iadd C at_136 (n := 137) rfl ?_
      refine G.lloadN C at_137 rfl (n := 138) rfl ?_
      refine G.callS C (argsL := [(.ref b247), (.int (v245 + (8 : Int32))), (.long i1)]) (yc := (⟨"com/example/parley/parley/KeySketchReadPinLaw", "put", "([BIJ)V"⟩ : MethodName)) (wd hw 2 rfl) (wd hw 3 rfl) (wd hw 4 rfl) (wd hw 5 rfl) (by decide) (m_put l Z a0 hw b247 (v245 + (8 : Int32)) i1 bs292 h295 n0 Z296 O293 g252 (by omega) (by rw [bs292_0]; show _ + 8 ≤ ((19 : Nat) : Int); omega)) rfl (by decide) (W := 0) rfl (by decide) (c' := 1) (s' := 19) rfl rfl (by decide) (by decide) at_138 (n := 141) rfl pd0 rfl rfl ?_
      rintro _ h301 ⟨rfl, K297, bs298, O299, bs298_0, bs298_1, bs298_2, bs298_3, bs298_4, bs298_5, bs298_6, bs298_7, bs298_8, bs298_9⟩
      have Z302 : n0 ≤ h301.size := Nat.le_trans Z296 K297.1
      refine G.aload C at_141 rfl rfl (n := 143) rfl ?_
      refine G.iload C at_143 rfl (n := 145) rfl ?_
      refine G.iload C at_145 rfl (n := 147) rfl ?_
      refine G.iload C at_147 rfl (n := 149) rfl ?_
      refine G.callS C (argsL := [(.ref b247), (.int v245), (.int (3 : Int32)), (.int (4 : Int32))]) (yc := (⟨"com/example/parley/parley/KeySketch", "read", "([BIII)[J"⟩ : MethodName)) (wd hw 6 rfl) (wd hw 7 rfl) (wd hw 8 rfl) (wd hw 9 rfl) (by decide) (m_read_4_3 l Z a0 hw b247 v245 bs298 (byt i0) (byt (shu i0 8)) (byt (shu i0 16)) (byt (shu i0 24)) (byt (shu i0 32)) (byt (shu i0 40)) (byt (shu i0 48)) (byt (shu i0 56)) (byt i1) (byt (shu i1 8)) (byt (shu i1 16)) (byt (shu i1 24)) (i0 &&& (4294967295 : Int64)) (shu (i0 &&& (4294967295 : Int64)) 8) (shu (i0 &&& (4294967295 : Int64)) 16) (shu (i0 &&& (4294967295 : Int64)) 24) (shu i0 32) (shu (shu i0 32) 8) (shu (shu i0 32) 16) (shu (shu i0 32) 24) (i1 &&& (4294967295 : Int64)) (shu (i1 &&& (4294967295 : Int64)) 8) (shu (i1 &&& (4294967295 : Int64)) 16) (shu (i1 &&& (4294967295 : Int64)) 24) h301 n0 Z302 O299 (by omega) (by rw [bs298_0, bs292_0]; show _ + 12 ≤ ((19 : Nat) : Int); omega) (by rw [bs298_9 _ (Or.inl (by omega))]; exact bs292_1) (by rw [bs298_9 _ (Or.inl (by omega))]; exact bs292_2) (by rw [bs298_9 _ (Or.inl (by omega))]; exact bs292_3) (by rw [bs298_9 _ (Or.inl (by omega))]; exact bs292_4) (by rw [bs298_9 _ (Or.inl (by omega))]; exact bs292_5) (by rw [bs298_9 _ (Or.inl (by omega))]; exact bs292_6) (by rw [bs298_9 _ (Or.inl (by omega))]; exact bs292_7) (by rw [bs298_9 _ (Or.inl (by omega))]; exact bs292_8) (by rw [show v245.toInt.toNat + 8 = (v245 + (8 : Int32)).toInt.toNat by omega]; exact bs298_1) (by rw [show v245.toInt.toNat + 9 = (v245 + (8 : Int32)).toInt.toNat + 1 by omega]; exact bs298_2) (by rw [show v245.toInt.toNat + 10 = (v245 + (8 : Int32)).toInt.toNat + 2 by omega]; exact bs298_3) (by rw [show v245.toInt.toNat + 11 = (v245 + (8 : Int32)).toInt.toNat + 3 by omega]; exact bs298_4) (rdB_3 i0) (rdB_2 i0) (rdB_1 i0) (rdB_0 i0) (rdC_3 i0) (rdC_2 i0) (rdC_1 i0) (rdC_0 i0) (rdB_3 i1) (rdB_2 i1) (rdB_1 i1) (rdB_0 i1)) rfl (by decide) (W := 0) rfl (by decide) (c' := 2) (s' := 22) rfl rfl (by decide) (by decide) at_149 (n := 152) rfl pd1 rfl rfl ?_
      rintro _ h308 ⟨b303, rfl, f304, K305, O306⟩
      have ne309 : b247 ≠ b303 := Nat.ne_of_lt (Nat.lt_of_lt_of_le O299.lt f304)
      have g310 : n0 ≤ b303 := Nat.le_trans Z302 f304
      have O311 := O299.keep K305 nin0
      have Z312 : n0 ≤ h308.size := Nat.le_trans Z302 K305.1
      refine G.astore C at_152 rfl (l' := #[.val (.long i0), .second, .val (.long i1), .second, .val (.long i2), .second, .val (.int i3), .val (.int i4), .val (.int (4 : Int32)), .val (.int (3 : Int32)), .val (.int (3 : Int32)), .val (.int v245), .val (.ref b247), .val (.ref b303), .unset, .unset, .unset, .unset, .unset, .unset, .unset, .unset]) rfl (n := 154) rfl ?_
      refine G.iload C at_154 rfl (n := 156) rfl ?_
      refine G.bipush C (v := (8 : Int32)) at_156 (by decide) (n := 158) rfl ?_
      refine G.icmp_ne C (A := 4) (B := 8) (by decide) (by decide) at_158 (by decide) (by decide) (n := 161) (n' := 165) rfl (fun c158_313 c158_313i => ?_) (fun c158_313 c158_313i => ?_)
      rotate_left
      · exact absurd c158_313 (by decide)
      refine G.lloadN C at_165 rfl (n := 166) rfl ?_
      refine G.ldc2 C (v := (4294967295 : Int64)) (wd hw 11 rfl) at_166 (n := 169) rfl ?_
      refine G.land C at_169 (n := 170) rfl ?_
      refine G.lstoreZ C at_170 (l' := fun z => #[.val (.long i0), .second, .val (.long i1), .second, .val (.long i2), .second, .val (.int i3), .val (.int i4), .val (.int (4 : Int32)), .val (.int (3 : Int32)), .val (.int (3 : Int32)), .val (.int v245), .val (.ref b247), .val (.ref b303), .val (.long z), .second, .unset, .unset, .unset, .unset, .unset, .unset]) (fun _ => rfl) (n := 172) rfl ?_
      intro v314 hv314
      refine G.iload C at_172 rfl (n := 174) rfl ?_
      refine G.bipush C (v := (8 : Int32)) at_174 (by decide) (n := 176) rfl ?_
      refine G.icmp_ne C (A := 4) (B := 8) (by decide) (by decide) at_176 (by decide) (by decide) (n := 179) (n' := 183) rfl (fun c176_315 c176_315i => ?_) (fun c176_315 c176_315i => ?_)
      rotate_left
      · exact absurd c176_315 (by decide)
      refine G.lloadN C at_183 rfl (n := 184) rfl ?_
      refine G.bipush C (v := (32 : Int32)) at_184 (by decide) (n := 186) rfl ?_
      refine G.lushr C at_186 (n := 187) rfl ?_
      refine G.lstoreZ C at_187 (l' := fun z => #[.val (.long i0), .second, .val (.long i1), .second, .val (.long i2), .second, .val (.int i3), .val (.int i4), .val (.int (4 : Int32)), .val (.int (3 : Int32)), .val (.int (3 : Int32)), .val (.int v245), .val (.ref b247), .val (.ref b303), .val (.long v314), .second, .val (.long z), .second, .unset, .unset, .unset, .unset]) (fun _ => rfl) (n := 189) rfl ?_
      intro v316 hv316
      refine G.lloadN C at_189 rfl (n := 190) rfl ?_
      refine G.ldc2 C (v := (4294967295 : Int64)) (wd hw 11 rfl) at_190 (n := 193) rfl ?_
      refine G.land C at_193 (n := 194) rfl ?_
      refine G.lstoreZ C at_194 (l' := fun z => #[.val (.long i0), .second, .val (.long i1), .second, .val (.long i2), .second, .val (.int i3), .val (.int i4), .val (.int (4 : Int32)), .val (.int (3 : Int32)), .val (.int (3 : Int32)), .val (.int v245), .val (.ref b247), .val (.ref b303), .val (.long v314), .second, .val (.long v316), .second, .val (.long z), .second, .unset, .unset]) (fun _ => rfl) (n := 196) rfl ?_
      intro v317 hv317
      refine G.lloadN C at_196 rfl (n := 197) rfl ?_
      refine G.bipush C (v := (32 : Int32)) at_197 (by decide) (n := 199) rfl ?_
      refine G.lushr C at_199 (n := 200) rfl ?_
      refine G.lstoreZ C at_200 (l' := fun z => #[.val (.long i0), .second, .val (.long i1), .second, .val (.long i2), .second, .val (.int i3), .val (.int i4), .val (.int (4 : Int32)), .val (.int (3 : Int32)), .val (.int (3 : Int32)), .val (.int v245), .val (.ref b247), .val (.ref b303), .val (.long v314), .second, .val (.long v316), .second, .val (.long v317), .second, .val (.long z), .second]) (fun _ => rfl) (n := 202) rfl ?_
      intro v318 hv318
      refine G.aload C at_202 rfl rfl (n := 204) rfl ?_
      refine G.arraylengthL C (len := (3 : Int32)) O306 rfl at_204 (n := 205) rfl ?_
      refine G.iload C at_205 rfl (n := 207) rfl ?_
      refine G.icmp_ne C (A := 3) (B := 3) (by decide) (by decide) at_207 (by decide) (by decide) (n := 210) (n' := 278) rfl (fun c207_319 c207_319i => ?_) (fun c207_319 c207_319i => ?_)
      · exact absurd c207_319 (by decide)
      refine G.iload C at_210 rfl (n := 212) rfl ?_
      refine G.iconst C (v := (1 : Int32)) at_212 (by decide) (n := 213) rfl ?_
      refine G.icmp_lt C (A := 3) (B := 1) (by decide) (by decide) at_213 (by decide) (by decide) (n := 216) (n' := 226) rfl (fun c213_320 => ?_) (fun c213_320 => ?_)
      · exact absurd c213_320 (by decide)
      refine G.aload C at_216 rfl rfl (n := 218) rfl ?_
      refine G.iconst C (v := (0 : Int32)) at_218 (by decide) (n := 219) rfl ?_
      refine G.laload C (x := (i0 &&& (4294967295 : Int64))) O306 (by decide) rfl at_219 (n := 220) rfl ?_
      refine G.lload C at_220 rfl (n := 222) rfl ?_
      refine G.lcmp_ne C (A := (i0 &&& (4294967295 : Int64)).toInt) (B := v314.toInt) rfl rfl at_222 at_223 (by decide) (by decide) (n := 226) (n' := 278) rfl (fun c223_321 c223_321i => ?_) (fun c223_321 c223_321i => ?_)
      · exact absurd hv314.symm c223_321
      refine G.iload C at_226 rfl (n := 228) rfl ?_
      refine G.iconst C (v := (2 : Int32)) at_228 (by decide) (n := 229) rfl ?_
      refine G.icmp_lt C (A := 3) (B := 2) (by decide) (by decide) at_229 (by decide) (by decide) (n := 232) (n' := 242) rfl (fun c229_322 => ?_) (fun c229_322 => ?_)
      · exact absurd c229_322 (by decide)
      refine G.aload C at_232 rfl rfl (n := 234) rfl ?_
      refine G.iconst C (v := (1 : Int32)) at_234 (by decide) (n := 235) rfl ?_
      refine G.laload C (x := ((i0.toUInt64 >>> ((32 : Int32) &&& 0x3f).toInt64.toUInt64).toInt64)) O306 (by decide) rfl at_235 (n := 236) rfl ?_
      refine G.lload C at_236 rfl (n := 238) rfl ?_
      refine G.lcmp_ne C (A := ((i0.toUInt64 >>> ((32 : Int32) &&& 0x3f).toInt64.toUInt64).toInt64).toInt) (B := v316.toInt) rfl rfl at_238 at_239 (by decide) (by decide) (n := 242) (n' := 278) rfl (fun c239_323 c239_323i => ?_) (fun c239_323 c239_323i => ?_)
      · exact absurd hv316.symm c239_323
      refine G.iload C at_242 rfl (n := 244) rfl ?_
      refine G.iconst C (v := (3 : Int32)) at_244 (by decide) (n := 245) rfl ?_
      refine G.icmp_lt C (A := 3) (B := 3) (by decide) (by decide) at_245 (by decide) (by decide) (n := 248) (n' := 258) rfl (fun c245_324 => ?_) (fun c245_324 => ?_)
      · exact absurd c245_324 (by decide)
      refine G.aload C at_248 rfl rfl (n := 250) rfl ?_
      refine G.iconst C (v := (2 : Int32)) at_250 (by decide) (n := 251) rfl ?_
      refine G.laload C (x := (i1 &&& (4294967295 : Int64))) O306 (by decide) rfl at_251 (n := 252) rfl ?_
      refine G.lload C at_252 rfl (n := 254) rfl ?_
      refine G.lcmp_ne C (A := (i1 &&& (4294967295 : Int64)).toInt) (B := v317.toInt) rfl rfl at_254 at_255 (by decide) (by decide) (n := 258) (n' := 278) rfl (fun c255_325 c255_325i => ?_) (fun c255_325 c255_325i => ?_)
      · exact absurd hv317.symm c255_325
      refine G.iload C at_258 rfl (n := 260) rfl ?_
      refine G.iconst C (v := (4 : Int32)) at_260 (by decide) (n := 261) rfl ?_
      refine G.icmp_lt C (A := 3) (B := 4) (by decide) (by decide) at_261 (by decide) (by decide) (n := 264) (n' := 274) rfl (fun c261_326 => ?_) (fun c261_326 => ?_)
      rotate_left
      · exact absurd c261_326 (by decide)
      refine G.iconst C (v := (1 : Int32)) at_274 (by decide) (n := 275) rfl ?_
      refine G.goto C at_275 (by decide) (n := 279) (by decide) ?_
      refine G.ireturn C at_279 (rfl) (by simp) (by decide) (by decide) ?_
      exact rfl
    · refine G.iload C at_44 rfl (n := 46) rfl ?_
      refine G.iconst C (v := (3 : Int32)) at_46 (by decide) (n := 47) rfl ?_
      refine G.iand C at_47 (n := 48) rfl ?_
      refine G.istoreZ C at_48 (l' := fun z => #[.val (.long i0), .second, .val (.long i1), .second, .val (.long i2), .second, .val (.int i3), .val (.int i4), .val (.int (4 : Int32)), .val (.int (4 : Int32)), .val (.int (4 : Int32)), .val (.int z), .unset, .unset, .unset, .unset, .unset, .unset, .unset, .unset, .unset, .unset]) (fun _ => rfl) (n := 50) rfl ?_
      intro v327 hv327
      refine G.bipush C (v := (19 : Int32)) at_50 (by decide) (n := 52) rfl ?_
      refine G.newarray C (ty := .byte) (cap := 19) (wd hw 1 rfl) rfl rfl (by decide) (by decide) (by decide) at_52 (n := 54) rfl (c' := 1) (s' := 19) rfl rfl (by decide) (by decide) ?_
      intro h328 b329 q330 E331 O332
      have O333 : Ints Z h328 b329 .byte [0, 0, 0, 0, 0, 0, 0, 0, 0, 0, 0, 0, 0, 0, 0, 0, 0, 0, 0] := O332
      have g334 : n0 ≤ b329 := Nat.le_trans Z0 (Nat.le_of_eq q330.symm)
      have K335 := kext E331
      have Z336 : n0 ≤ h328.size := Nat.le_trans Z0 K335.1
      refine G.astore C at_54 rfl (l' := #[.val (.long i0), .second, .val (.long i1), .second, .val (.long i2), .second, .val (.int i3), .val (.int i4), .val (.int (4 : Int32)), .val (.int (4 : Int32)), .val (.int (4 : Int32)), .val (.int v327), .val (.ref b329), .unset, .unset, .unset, .unset, .unset, .unset, .unset, .unset, .unset]) rfl (n := 56) rfl ?_
      refine G.aload C at_56 rfl rfl (n := 58) rfl ?_
      refine G.iconst C (v := (0 : Int32)) at_58 (by decide) (n := 59) rfl ?_
      refine G.lload C at_59 rfl (n := 61) rfl ?_
      refine G.l2i C at_61 (n := 62) rfl ?_
      refine G.i2b C at_62 (n := 63) rfl ?_
      refine G.bastore C O333 (by decide) (show (0 : Int32).toInt < ((19 : Nat) : Int) by decide) g334 at_63 (n := 64) rfl ?_
      intro h337 K338 W339 O340
      have O341 : Ints Z h337 b329 .byte [(nar .byte ((i2.toInt32).toInt8.toInt32)), 0, 0, 0, 0, 0, 0, 0, 0, 0, 0, 0, 0, 0, 0, 0, 0, 0, 0] := O340
      have Z342 : n0 ≤ h337.size := Nat.le_trans Z336 K338.1
      refine G.aload C at_64 rfl rfl (n := 66) rfl ?_
      refine G.iconst C (v := (1 : Int32)) at_66 (by decide) (n := 67) rfl ?_
      refine G.lload C at_67 rfl (n := 69) rfl ?_
      refine G.bipush C (v := (8 : Int32)) at_69 (by decide) (n := 71) rfl ?_
      refine G.lushr C at_71 (n := 72) rfl ?_
      refine G.l2i C at_72 (n := 73) rfl ?_
      refine G.i2b C at_73 (n := 74) rfl ?_
      refine G.bastore C O341 (by decide) (show (1 : Int32).toInt < ((19 : Nat) : Int) by decide) g334 at_74 (n := 75) rfl ?_
      intro h343 K344 W345 O346
      have O347 : Ints Z h343 b329 .byte [(nar .byte ((i2.toInt32).toInt8.toInt32)), (nar .byte ((((i2.toUInt64 >>> ((8 : Int32) &&& 0x3f).toInt64.toUInt64).toInt64).toInt32).toInt8.toInt32)), 0, 0, 0, 0, 0, 0, 0, 0, 0, 0, 0, 0, 0, 0, 0, 0, 0] := O346
      have Z348 : n0 ≤ h343.size := Nat.le_trans Z342 K344.1
      refine G.aload C at_75 rfl rfl (n := 77) rfl ?_
      refine G.iconst C (v := (2 : Int32)) at_77 (by decide) (n := 78) rfl ?_
      refine G.lload C at_78 rfl (n := 80) rfl ?_
      refine G.bipush C (v := (16 : Int32)) at_80 (by decide) (n := 82) rfl ?_
      refine G.lushr C at_82 (n := 83) rfl ?_
      refine G.l2i C at_83 (n := 84) rfl ?_
      refine G.i2b C at_84 (n := 85) rfl ?_
      refine G.bastore C O347 (by decide) (show (2 : Int32).toInt < ((19 : Nat) : Int) by decide) g334 at_85 (n := 86) rfl ?_
      intro h349 K350 W351 O352
      have O353 : Ints Z h349 b329 .byte [(nar .byte ((i2.toInt32).toInt8.toInt32)), (nar .byte ((((i2.toUInt64 >>> ((8 : Int32) &&& 0x3f).toInt64.toUInt64).toInt64).toInt32).toInt8.toInt32)), (nar .byte ((((i2.toUInt64 >>> ((16 : Int32) &&& 0x3f).toInt64.toUInt64).toInt64).toInt32).toInt8.toInt32)), 0, 0, 0, 0, 0, 0, 0, 0, 0, 0, 0, 0, 0, 0, 0, 0] := O352
      have Z354 : n0 ≤ h349.size := Nat.le_trans Z348 K350.1
      refine G.aload C at_86 rfl rfl (n := 88) rfl ?_
      refine G.bipush C (v := (16 : Int32)) at_88 (by decide) (n := 90) rfl ?_
      refine G.lload C at_90 rfl (n := 92) rfl ?_
      refine G.bipush C (v := (24 : Int32)) at_92 (by decide) (n := 94) rfl ?_
      refine G.lushr C at_94 (n := 95) rfl ?_
      refine G.l2i C at_95 (n := 96) rfl ?_
      refine G.i2b C at_96 (n := 97) rfl ?_
      refine G.bastore C O353 (by decide) (show (16 : Int32).toInt < ((19 : Nat) : Int) by decide) g334 at_97 (n := 98) rfl ?_
      intro h355 K356 W357 O358
      have O359 : Ints Z h355 b329 .byte [(nar .byte ((i2.toInt32).toInt8.toInt32)), (nar .byte ((((i2.toUInt64 >>> ((8 : Int32) &&& 0x3f).toInt64.toUInt64).toInt64).toInt32).toInt8.toInt32)), (nar .byte ((((i2.toUInt64 >>> ((16 : Int32) &&& 0x3f).toInt64.toUInt64).toInt64).toInt32).toInt8.toInt32)), 0, 0, 0, 0, 0, 0, 0, 0, 0, 0, 0, 0, 0, (nar .byte ((((i2.toUInt64 >>> ((24 : Int32) &&& 0x3f).toInt64.toUInt64).toInt64).toInt32).toInt8.toInt32)), 0, 0] := O358
      have Z360 : n0 ≤ h355.size := Nat.le_trans Z354 K356.1
      refine G.aload C at_98 rfl rfl (n := 100) rfl ?_
      refine G.bipush C (v := (17 : Int32)) at_100 (by decide) (n := 102) rfl ?_
      refine G.lload C at_102 rfl (n := 104) rfl ?_
      refine G.bipush C (v := (32 : Int32)) at_104 (by decide) (n := 106) rfl ?_
      refine G.lushr C at_106 (n := 107) rfl ?_
      refine G.l2i C at_107 (n := 108) rfl ?_
      refine G.i2b C at_108 (n := 109) rfl ?_
      refine G.bastore C O359 (by decide) (show (17 : Int32).toInt < ((19 : Nat) : Int) by decide) g334 at_109 (n := 110) rfl ?_
      intro h361 K362 W363 O364
      have O365 : Ints Z h361 b329 .byte [(nar .byte ((i2.toInt32).toInt8.toInt32)), (nar .byte ((((i2.toUInt64 >>> ((8 : Int32) &&& 0x3f).toInt64.toUInt64).toInt64).toInt32).toInt8.toInt32)), (nar .byte ((((i2.toUInt64 >>> ((16 : Int32) &&& 0x3f).toInt64.toUInt64).toInt64).toInt32).toInt8.toInt32)), 0, 0, 0, 0, 0, 0, 0, 0, 0, 0, 0, 0, 0, (nar .byte ((((i2.toUInt64 >>> ((24 : Int32) &&& 0x3f).toInt64.toUInt64).toInt64).toInt32).toInt8.toInt32)), (nar .byte ((((i2.toUInt64 >>> ((32 : Int32) &&& 0x3f).toInt64.toUInt64).toInt64).toInt32).toInt8.toInt32)), 0] := O364
      have Z366 : n0 ≤ h361.size := Nat.le_trans Z360 K362.1
      refine G.aload C at_110 rfl rfl (n := 112) rfl ?_
      refine G.bipush C (v := (18 : Int32)) at_112 (by decide) (n := 114) rfl ?_
      refine G.lload C at_114 rfl (n := 116) rfl ?_
      refine G.bipush C (v := (40 : Int32)) at_116 (by decide) (n := 118) rfl ?_
      refine G.lushr C at_118 (n := 119) rfl ?_
      refine G.l2i C at_119 (n := 120) rfl ?_
      refine G.i2b C at_120 (n := 121) rfl ?_
      refine G.bastore C O365 (by decide) (show (18 : Int32).toInt < ((19 : Nat) : Int) by decide) g334 at_121 (n := 122) rfl ?_
      intro h367 K368 W369 O370
      have O371 : Ints Z h367 b329 .byte [(nar .byte ((i2.toInt32).toInt8.toInt32)), (nar .byte ((((i2.toUInt64 >>> ((8 : Int32) &&& 0x3f).toInt64.toUInt64).toInt64).toInt32).toInt8.toInt32)), (nar .byte ((((i2.toUInt64 >>> ((16 : Int32) &&& 0x3f).toInt64.toUInt64).toInt64).toInt32).toInt8.toInt32)), 0, 0, 0, 0, 0, 0, 0, 0, 0, 0, 0, 0, 0, (nar .byte ((((i2.toUInt64 >>> ((24 : Int32) &&& 0x3f).toInt64.toUInt64).toInt64).toInt32).toInt8.toInt32)), (nar .byte ((((i2.toUInt64 >>> ((32 : Int32) &&& 0x3f).toInt64.toUInt64).toInt64).toInt32).toInt8.toInt32)), (nar .byte ((((i2.toUInt64 >>> ((40 : Int32) &&& 0x3f).toInt64.toUInt64).toInt64).toInt32).toInt8.toInt32))] := O370
      have Z372 : n0 ≤ h367.size := Nat.le_trans Z366 K368.1
      have qo := c_and i3 (3 : Int32) (by decide)
      rw [← hv327, show (3 : Int32).toInt = 3 from rfl] at qo
      have qo8 : (v327 + (8 : Int32)).toInt = v327.toInt + 8 := ixa (by decide) (by omega) (by decide) (by omega)
      refine G.aload C at_122 rfl rfl (n := 124) rfl ?_
      refine G.iload C at_124 rfl (n := 126) rfl ?_
      refine G.lloadN C at_126 rfl (n := 127) rfl ?_
      refine G.callS C (argsL := [(.ref b329), (.int v327), (.long i0)]) (yc := (⟨"com/example/parley/parley/KeySketchReadPinLaw", "put", "([BIJ)V"⟩ : MethodName)) (wd hw 2 rfl) (wd hw 3 rfl) (wd hw 4 rfl) (wd hw 5 rfl) (by decide) (m_put l Z a0 hw b329 v327 i0 [(nar .byte ((i2.toInt32).toInt8.toInt32)), (nar .byte ((((i2.toUInt64 >>> ((8 : Int32) &&& 0x3f).toInt64.toUInt64).toInt64).toInt32).toInt8.toInt32)), (nar .byte ((((i2.toUInt64 >>> ((16 : Int32) &&& 0x3f).toInt64.toUInt64).toInt64).toInt32).toInt8.toInt32)), 0, 0, 0, 0, 0, 0, 0, 0, 0, 0, 0, 0, 0, (nar .byte ((((i2.toUInt64 >>> ((24 : Int32) &&& 0x3f).toInt64.toUInt64).toInt64).toInt32).toInt8.toInt32)), (nar .byte ((((i2.toUInt64 >>> ((32 : Int32) &&& 0x3f).toInt64.toUInt64).toInt64).toInt32).toInt8.toInt32)), (nar .byte ((((i2.toUInt64 >>> ((40 : Int32) &&& 0x3f).toInt64.toUInt64).toInt64).toInt32).toInt8.toInt32))] h367 n0 Z372 O371 g334 (by omega) (by show _ + 8 ≤ ((19 : Nat) : Int); omega)) rfl (by decide) (W := 0) rfl (by decide) (c' := 1) (s' := 19) rfl rfl (by decide) (by decide) at_127 (n := 130) rfl pd0 rfl rfl ?_
      rintro _ h377 ⟨rfl, K373, bs374, O375, bs374_0, bs374_1, bs374_2, bs374_3, bs374_4, bs374_5, bs374_6, bs374_7, bs374_8, bs374_9⟩
      have Z378 : n0 ≤ h377.size := Nat.le_trans Z372 K373.1
      refine G.aload C at_130 rfl rfl (n := 132) rfl ?_
      refine G.iload C at_132 rfl (n := 134) rfl ?_
      refine G.bipush C (v := (8 : Int32)) at_134 (by decide) (n := 136) rfl ?_
      refine G.iadd C at_136 (n := 137) rfl ?_
      refine G.lloadN C at_137 rfl (n := 138) rfl ?_
      refine G.callS C (argsL := [(.ref b329), (.int (v327 + (8 : Int32))), (.long i1)]) (yc := (⟨"com/example/parley/parley/KeySketchReadPinLaw", "put", "([BIJ)V"⟩ : MethodName)) (wd hw 2 rfl) (wd hw 3 rfl) (wd hw 4 rfl) (wd hw 5 rfl) (by decide) (m_put l Z a0 hw b329 (v327 + (8 : Int32)) i1 bs374 h377 n0 Z378 O375 g334 (by omega) (by rw [bs374_0]; show _ + 8 ≤ ((19 : Nat) : Int); omega)) rfl (by decide) (W := 0) rfl (by decide) (c' := 1) (s' := 19) rfl rfl (by decide) (by decide) at_138 (n := 141) rfl pd0 rfl rfl ?_
      rintro _ h383 ⟨rfl, K379, bs380, O381, bs380_0, bs380_1, bs380_2, bs380_3, bs380_4, bs380_5, bs380_6, bs380_7, bs380_8, bs380_9⟩
      have Z384 : n0 ≤ h383.size := Nat.le_trans Z378 K379.1
      refine G.aload C at_141 rfl rfl (n := 143) rfl ?_
      refine G.iload C at_143 rfl (n := 145) rfl ?_
      refine G.iload C at_145 rfl (n := 147) rfl ?_
      refine G.iload C at_147 rfl (n := 149) rfl ?_
      refine G.callS C (argsL := [(.ref b329), (.int v327), (.int (4 : Int32)), (.int (4 : Int32))]) (yc := (⟨"com/example/parley/parley/KeySketch", "read", "([BIII)[J"⟩ : MethodName)) (wd hw 6 rfl) (wd hw 7 rfl) (wd hw 8 rfl) (wd hw 9 rfl) (by decide) (m_read_4_4 l Z a0 hw b329 v327 bs380 (byt i0) (byt (shu i0 8)) (byt (shu i0 16)) (byt (shu i0 24)) (byt (shu i0 32)) (byt (shu i0 40)) (byt (shu i0 48)) (byt (shu i0 56)) (byt i1) (byt (shu i1 8)) (byt (shu i1 16)) (byt (shu i1 24)) (byt (shu i1 32)) (byt (shu i1 40)) (byt (shu i1 48)) (byt (shu i1 56)) (i0 &&& (4294967295 : Int64)) (shu (i0 &&& (4294967295 : Int64)) 8) (shu (i0 &&& (4294967295 : Int64)) 16) (shu (i0 &&& (4294967295 : Int64)) 24) (shu i0 32) (shu (shu i0 32) 8) (shu (shu i0 32) 16) (shu (shu i0 32) 24) (i1 &&& (4294967295 : Int64)) (shu (i1 &&& (4294967295 : Int64)) 8) (shu (i1 &&& (4294967295 : Int64)) 16) (shu (i1 &&& (4294967295 : Int64)) 24) (shu i1 32) (shu (shu i1 32) 8) (shu (shu i1 32) 16) (shu (shu i1 32) 24) h383 n0 Z384 O381 (by omega) (by rw [bs380_0, bs374_0]; show _ + 16 ≤ ((19 : Nat) : Int); omega) (by rw [bs380_9 _ (Or.inl (by omega))]; exact bs374_1) (by rw [bs380_9 _ (Or.inl (by omega))]; exact bs374_2) (by rw [bs380_9 _ (Or.inl (by omega))]; exact bs374_3) (by rw [bs380_9 _ (Or.inl (by omega))]; exact bs374_4) (by rw [bs380_9 _ (Or.inl (by omega))]; exact bs374_5) (by rw [bs380_9 _ (Or.inl (by omega))]; exact bs374_6) (by rw [bs380_9 _ (Or.inl (by omega))]; exact bs374_7) (by rw [bs380_9 _ (Or.inl (by omega))]; exact bs374_8) (by rw [show v327.toInt.toNat + 8 = (v327 + (8 : Int32)).toInt.toNat by omega]; exact bs380_1) (by rw [show v327.toInt.toNat + 9 = (v327 + (8 : Int32)).toInt.toNat + 1 by omega]; exact bs380_2) (by rw [show v327.toInt.toNat + 10 = (v327 + (8 : Int32)).toInt.toNat + 2 by omega]; exact bs380_3) (by rw [show v327.toInt.toNat + 11 = (v327 + (8 : Int32)).toInt.toNat + 3 by omega]; exact bs380_4) (by rw [show v327.toInt.toNat + 12 = (v327 + (8 : Int32)).toInt.toNat + 4 by omega]; exact bs380_5) (by rw [show v327.toInt.toNat + 13 = (v327 + (8 : Int32)).toInt.toNat + 5 by omega]; exact bs380_6) (by rw [show v327.toInt.toNat + 14 = (v327 + (8 : Int32)).toInt.toNat + 6 by omega]; exact bs380_7) (by rw [show v327.toInt.toNat + 15 = (v327 + (8 : Int32)).toInt.toNat + 7 by omega]; exact bs380_8) (rdB_3 i0) (rdB_2 i0) (rdB_1 i0) (rdB_0 i0) (rdC_3 i0) (rdC_2 i0) (rdC_1 i0) (rdC_0 i0) (rdB_3 i1) (rdB_2 i1) (rdB_1 i1) (rdB_0 i1) (rdC_3 i1) (rdC_2 i1) (rdC_1 i1) (rdC_0 i1)) rfl (by decide) (W := 0) rfl (by decide) (c' := 2) (s' := 23) rfl rfl (by decide) (by decide) at_149 (n := 152) rfl pd1 rfl rfl ?_
      rintro _ h390 ⟨b385, rfl, f386, K387, O388⟩
      have ne391 : b329 ≠ b385 := Nat.ne_of_lt (Nat.lt_of_lt_of_le O381.lt f386)
      have g392 : n0 ≤ b385 := Nat.le_trans Z384 f386
      have O393 := O381.keep K387 nin0
      have Z394 : n0 ≤ h390.size := Nat.le_trans Z384 K387.1
      refine G.astore C at_152 rfl (l' := #[.val (.long i0), .second, .val (.long i1), .second, .val (.long i2), .second, .val (.int i3), .val (.int i4), .val (.int (4 : Int32)), .val (.int (4 : Int32)), .val (.int (4 : Int32)), .val (.int v327), .val (.ref b329), .val (.ref b385), .unset, .unset, .unset, .unset, .unset, .unset, .unset, .unset]) rfl (n := 154) rfl ?_
      refine G.iload C at_154 rfl (n := 156) rfl ?_
      refine G.bipush C (v := (8 : Int32)) at_156 (by decide) (n := 158) rfl ?_
      refine G.icmp_ne C (A := 4) (B := 8) (by decide) (by decide) at_158 (by decide) (by decide) (n := 161) (n' := 165) rfl (fun c158_395 c158_395i => ?_) (fun c158_395 c158_395i => ?_)
      rotate_left
      · exact absurd c158_395 (by decide)
      refine G.lloadN C at_165 rfl (n := 166) rfl ?_
      refine G.ldc2 C (v := (4294967295 : Int64)) (wd hw 11 rfl) at_166 (n := 169) rfl ?_
      refine G.land C at_169 (n := 170) rfl ?_
      refine G.lstoreZ C at_170 (l' := fun z => #[.val (.long i0), .second, .val (.long i1), .second, .val (.long i2), .second, .val (.int i3), .val (.int i4), .val (.int (4 : Int32)), .val (.int (4 : Int32)), .val (.int (4 : Int32)), .val (.int v327), .val (.ref b329), .val (.ref b385), .val (.long z), .second, .unset, .unset, .unset, .unset, .unset, .unset]) (fun _ => rfl) (n := 172) rfl ?_
      intro v396 hv396
      refine G.iload C at_172 rfl (n := 174) rfl ?_
      refine G.bipush C (v := (8 : Int32)) at_174 (by decide) (n := 176) rfl ?_
      refine G.icmp_ne C (A := 4) (B := 8) (by decide) (by decide) at_176 (by decide) (by decide) (n := 179) (n' := 183) rfl (fun c176_397 c176_397i => ?_) (fun c176_397 c176_397i => ?_)
      rotate_left
      · exact absurd c176_397 (by decide)
      refine G.lloadN C at_183 rfl (n := 184) rfl ?_
      refine G.bipush C (v := (32 : Int32)) at_184 (by decide) (n := 186) rfl ?_
      refine G.lushr C at_186 (n := 187) rfl ?_
      refine G.lstoreZ C at_187 (l' := fun z => #[.val (.long i0), .second, .val (.long i1), .second, .val (.long i2), .second, .val (.int i3), .val (.int i4), .val (.int (4 : Int32)), .val (.int (4 : Int32)), .val (.int (4 : Int32)), .val (.int v327), .val (.ref b329), .val (.ref b385), .val (.long v396), .second, .val (.long z), .second, .unset, .unset, .unset, .unset]) (fun _ => rfl) (n := 189) rfl ?_
      intro v398 hv398
      refine G.lloadN C at_189 rfl (n := 190) rfl ?_
      refine G.ldc2 C (v := (4294967295 : Int64)) (wd hw 11 rfl) at_190 (n := 193) rfl ?_
      refine G.land C at_193 (n := 194) rfl ?_
      refine G.lstoreZ C at_194 (l' := fun z => #[.val (.long i0), .second, .val (.long i1), .second, .val (.long i2), .second, .val (.int i3), .val (.int i4), .val (.int (4 : Int32)), .val (.int (4 : Int32)), .val (.int (4 : Int32)), .val (.int v327), .val (.ref b329), .val (.ref b385), .val (.long v396), .second, .val (.long v398), .second, .val (.long z), .second, .unset, .unset]) (fun _ => rfl) (n := 196) rfl ?_
      intro v399 hv399
      refine G.lloadN C at_196 rfl (n := 197) rfl ?_
      refine G.bipush C (v := (32 : Int32)) at_197 (by decide) (n := 199) rfl ?_
      refine G.lushr C at_199 (n := 200) rfl ?_
      refine G.lstoreZ C at_200 (l' := fun z => #[.val (.long i0), .second, .val (.long i1), .second, .val (.long i2), .second, .val (.int i3), .val (.int i4), .val (.int (4 : Int32)), .val (.int (4 : Int32)), .val (.int (4 : Int32)), .val (.int v327), .val (.ref b329), .val (.ref b385), .val (.long v396), .second, .val (.long v398), .second, .val (.long v399), .second, .val (.long z), .second]) (fun _ => rfl) (n := 202) rfl ?_
      intro v400 hv400
      refine G.aload C at_202 rfl rfl (n := 204) rfl ?_
      refine G.arraylengthL C (len := (4 : Int32)) O388 rfl at_204 (n := 205) rfl ?_
      refine G.iload C at_205 rfl (n := 207) rfl ?_
      refine G.icmp_ne C (A := 4) (B := 4) (by decide) (by decide) at_207 (by decide) (by decide) (n := 210) (n' := 278) rfl (fun c207_401 c207_401i => ?_) (fun c207_401 c207_401i => ?_)
      · exact absurd c207_401 (by decide)
      refine G.iload C at_210 rfl (n := 212) rfl ?_
      refine G.iconst C (v := (1 : Int32)) at_212 (by decide) (n := 213) rfl ?_
      refine G.icmp_lt C (A := 4) (B := 1) (by decide) (by decide) at_213 (by decide) (by decide) (n := 216) (n' := 226) rfl (fun c213_402 => ?_) (fun c213_402 => ?_)
      · exact absurd c213_402 (by decide)
      refine G.aload C at_216 rfl rfl (n := 218) rfl ?_
      refine G.iconst C (v := (0 : Int32)) at_218 (by decide) (n := 219) rfl ?_
      refine G.laload C (x := (i0 &&& (4294967295 : Int64))) O388 (by decide) rfl at_219 (n := 220) rfl ?_
      refine G.lload C at_220 rfl (n := 222) rfl ?_
      refine G.lcmp_ne C (A := (i0 &&& (4294967295 : Int64)).toInt) (B := v396.toInt) rfl rfl at_222 at_223 (by decide) (by decide) (n := 226) (n' := 278) rfl (fun c223_403 c223_403i => ?_) (fun c223_403 c223_403i => ?_)
      · exact absurd hv396.symm c223_403
      refine G.iload C at_226 rfl (n := 228) rfl ?_
      refine G.iconst C (v := (2 : Int32)) at_228 (by decide) (n := 229) rfl ?_
      refine G.icmp_lt C (A := 4) (B := 2) (by decide) (by decide) at_229 (by decide) (by decide) (n := 232) (n' := 242) rfl (fun c229_404 => ?_) (fun c229_404 => ?_)
      · exact absurd c229_404 (by decide)
      refine G.aload C at_232 rfl rfl (n := 234) rfl ?_
      refine G.iconst C (v := (1 : Int32)) at_234 (by decide) (n := 235) rfl ?_
      refine G.laload C (x := ((i0.toUInt64 >>> ((32 : Int32) &&& 0x3f).toInt64.toUInt64).toInt64)) O388 (by decide) rfl at_235 (n := 236) rfl ?_
      refine G.lload C at_236 rfl (n := 238) rfl ?_
      refine G.lcmp_ne C (A := ((i0.toUInt64 >>> ((32 : Int32) &&& 0x3f).toInt64.toUInt64).toInt64).toInt) (B := v398.toInt) rfl rfl at_238 at_239 (by decide) (by decide) (n := 242) (n' := 278) rfl (fun c239_405 c239_405i => ?_) (fun c239_405 c239_405i => ?_)
      · exact absurd hv398.symm c239_405
      refine G.iload C at_242 rfl (n := 244) rfl ?_
      refine G.iconst C (v := (3 : Int32)) at_244 (by decide) (n := 245) rfl ?_
      refine G.icmp_lt C (A := 4) (B := 3) (by decide) (by decide) at_245 (by decide) (by decide) (n := 248) (n' := 258) rfl (fun c245_406 => ?_) (fun c245_406 => ?_)
      · exact absurd c245_406 (by decide)
      refine G.aload C at_248 rfl rfl (n := 250) rfl ?_
      refine G.iconst C (v := (2 : Int32)) at_250 (by decide) (n := 251) rfl ?_
      refine G.laload C (x := (i1 &&& (4294967295 : Int64))) O388 (by decide) rfl at_251 (n := 252) rfl ?_
      refine G.lload C at_252 rfl (n := 254) rfl ?_
      refine G.lcmp_ne C (A := (i1 &&& (4294967295 : Int64)).toInt) (B := v399.toInt) rfl rfl at_254 at_255 (by decide) (by decide) (n := 258) (n' := 278) rfl (fun c255_407 c255_407i => ?_) (fun c255_407 c255_407i => ?_)
      · exact absurd hv399.symm c255_407
      refine G.iload C at_258 rfl (n := 260) rfl ?_
      refine G.iconst C (v := (4 : Int32)) at_260 (by decide) (n := 261) rfl ?_
      refine G.icmp_lt C (A := 4) (B := 4) (by decide) (by decide) at_261 (by decide) (by decide) (n := 264) (n' := 274) rfl (fun c261_408 => ?_) (fun c261_408 => ?_)
      · exact absurd c261_408 (by decide)
      refine G.aload C at_264 rfl rfl (n := 266) rfl ?_
      refine G.iconst C (v := (3 : Int32)) at_266 (by decide) (n := 267) rfl ?_
      refine G.laload C (x := ((i1.toUInt64 >>> ((32 : Int32) &&& 0x3f).toInt64.toUInt64).toInt64)) O388 (by decide) rfl at_267 (n := 268) rfl ?_
      refine G.lload C at_268 rfl (n := 270) rfl ?_
      refine G.lcmp_ne C (A := ((i1.toUInt64 >>> ((32 : Int32) &&& 0x3f).toInt64.toUInt64).toInt64).toInt) (B := v400.toInt) rfl rfl at_270 at_271 (by decide) (by decide) (n := 274) (n' := 278) rfl (fun c271_409 c271_409i => ?_) (fun c271_409 c271_409i => ?_)
      · exact absurd hv400.symm c271_409
      refine G.iconst C (v := (1 : Int32)) at_274 (by decide) (n := 275) rfl ?_
      refine G.goto C at_275 (by decide) (n := 279) (by decide) ?_
      refine G.ireturn C at_279 (rfl) (by simp) (by decide) (by decide) ?_
      exact rfl
  · refine G.bipush C (v := (8 : Int32)) at_7 (by decide) (n := 9) rfl ?_
    refine G.goto C at_9 (by decide) (n := 13) (by decide) ?_
    refine G.istore C at_13 (l' := #[.val (.long i0), .second, .val (.long i1), .second, .val (.long i2), .second, .val (.int i3), .val (.int i4), .val (.int (8 : Int32)), .unset, .unset, .unset, .unset, .unset, .unset, .unset, .unset, .unset, .unset, .unset, .unset, .unset]) rfl (n := 15) rfl ?_
    refine G.iload C at_15 rfl (n := 17) rfl ?_
    refine G.iconst C (v := (1 : Int32)) at_17 (by decide) (n := 18) rfl ?_
    refine G.iushr C at_18 (n := 19) rfl ?_
    refine G.ldc C (v := (2147483647 : Int32)) (wd hw 0 rfl) at_19 (n := 21) rfl ?_
    refine G.iand C at_21 (n := 22) rfl ?_
    refine G.iconst C (v := (5 : Int32)) at_22 (by decide) (n := 23) rfl ?_
    refine G.irem C at_23 (by decide) (n := 24) rfl ?_
    refine G.istoreZ C at_24 (l' := fun z => #[.val (.long i0), .second, .val (.long i1), .second, .val (.long i2), .second, .val (.int i3), .val (.int i4), .val (.int (8 : Int32)), .val (.int z), .unset, .unset, .unset, .unset, .unset, .unset, .unset, .unset, .unset, .unset, .unset, .unset]) (fun _ => rfl) (n := 26) rfl ?_
    intro v410 hv410
    refine G.iload C at_26 rfl (n := 28) rfl ?_
    refine G.bipush C (v := (8 : Int32)) at_28 (by decide) (n := 30) rfl ?_
    refine G.icmp_ne C (A := 8) (B := 8) (by decide) (by decide) at_30 (by decide) (by decide) (n := 33) (n' := 40) rfl (fun c30_411 c30_411i => ?_) (fun c30_411 c30_411i => ?_)
    · exact absurd c30_411 (by decide)
    refine G.iload C at_33 rfl (n := 35) rfl ?_
    refine G.iconst C (v := (3 : Int32)) at_35 (by decide) (n := 36) rfl ?_
    refine G.irem C at_36 (by decide) (n := 37) rfl ?_
    refine G.goto C at_37 (by decide) (n := 42) (by decide) ?_
    refine G.istoreZ C at_42 (l' := fun z => #[.val (.long i0), .second, .val (.long i1), .second, .val (.long i2), .second, .val (.int i3), .val (.int i4), .val (.int (8 : Int32)), .val (.int v410), .val (.int z), .unset, .unset, .unset, .unset, .unset, .unset, .unset, .unset, .unset, .unset, .unset]) (fun _ => rfl) (n := 44) rfl ?_
    intro v412 hv412
    have qc0 := c_irem (((i4.toUInt32 >>> ((1 : Int32) &&& 31).toUInt32).toInt32) &&& (2147483647 : Int32)) (5 : Int32) 5 (by decide)
    have qc1 := (c_and ((i4.toUInt32 >>> ((1 : Int32) &&& 31).toUInt32).toInt32) (2147483647 : Int32) (by decide)).1
    rw [← hv410] at qc0
    have qc2 := c_irem v410 (3 : Int32) 3 (by decide)
    rw [← hv412] at qc2
    have qz : ∀ k : Int32, v412.toInt = k.toInt → v412 = k := fun k h => Int32.toInt_inj.mp h
    have hc413 : v412 = (0 : Int32) ∨ v412 = (1 : Int32) ∨ v412 = (2 : Int32) := by
      have hr : v412.toInt = 0 ∨ v412.toInt = 1 ∨ v412.toInt = 2 := by omega
      rcases hr with h | h | h
      · exact Or.inl (qz _ h)
      · exact Or.inr (Or.inl (qz _ h))
      · exact Or.inr (Or.inr (qz _ h))
    rcases hc413 with rfl | rfl | rfl
    · refine G.iload C at_44 rfl (n := 46) rfl ?_
      refine G.iconst C (v := (3 : Int32)) at_46 (by decide) (n := 47) rfl ?_
      refine G.iand C at_47 (n := 48) rfl ?_
      refine G.istoreZ C at_48 (l' := fun z => #[.val (.long i0), .second, .val (.long i1), .second, .val (.long i2), .second, .val (.int i3), .val (.int i4), .val (.int (8 : Int32)), .val (.int v410), .val (.int (0 : Int32)), .val (.int z), .unset, .unset, .unset, .unset, .unset, .unset, .unset, .unset, .unset, .unset]) (fun _ => rfl) (n := 50) rfl ?_
      intro v414 hv414
      refine G.bipush C (v := (19 : Int32)) at_50 (by decide) (n := 52) rfl ?_
      refine G.newarray C (ty := .byte) (cap := 19) (wd hw 1 rfl) rfl rfl (by decide) (by decide) (by decide) at_52 (n := 54) rfl (c' := 1) (s' := 19) rfl rfl (by decide) (by decide) ?_
      intro h415 b416 q417 E418 O419
      have O420 : Ints Z h415 b416 .byte [0, 0, 0, 0, 0, 0, 0, 0, 0, 0, 0, 0, 0, 0, 0, 0, 0, 0, 0] := O419
      have g421 : n0 ≤ b416 := Nat.le_trans Z0 (Nat.le_of_eq q417.symm)
      have K422 := kext E418
      have Z423 : n0 ≤ h415.size := Nat.le_trans Z0 K422.1
      refine G.astore C at_54 rfl (l' := #[.val (.long i0), .second, .val (.long i1), .second, .val (.long i2), .second, .val (.int i3), .val (.int i4), .val (.int (8 : Int32)), .val (.int v410), .val (.int (0 : Int32)), .val (.int v414), .val (.ref b416), .unset, .unset, .unset, .unset, .unset, .unset, .unset, .unset, .unset]) rfl (n := 56) rfl ?_
      refine G.aload C at_56 rfl rfl (n := 58) rfl ?_
      refine G.iconst C (v := (0 : Int32)) at_58 (by decide) (n := 59) rfl ?_
      refine G.lload C at_59 rfl (n := 61) rfl ?_
      refine G.l2i C at_61 (n := 62) rfl ?_
      refine G.i2b C at_62 (n := 63) rfl ?_
      refine G.bastore C O420 (by decide) (show (0 : Int32).toInt < ((19 : Nat) : Int) by decide) g421 at_63 (n := 64) rfl ?_
      intro h424 K425 W426 O427
      have O428 : Ints Z h424 b416 .byte [(nar .byte ((i2.toInt32).toInt8.toInt32)), 0, 0, 0, 0, 0, 0, 0, 0, 0, 0, 0, 0, 0, 0, 0, 0, 0, 0] := O427
      have Z429 : n0 ≤ h424.size := Nat.le_trans Z423 K425.1
      refine G.aload C at_64 rfl rfl (n := 66) rfl ?_
      refine G.iconst C (v := (1 : Int32)) at_66 (by decide) (n := 67) rfl ?_
      refine G.lload C at_67 rfl (n := 69) rfl ?_
      refine G.bipush C (v := (8 : Int32)) at_69 (by decide) (n := 71) rfl ?_
      refine G.lushr C at_71 (n := 72) rfl ?_
      refine G.l2i C at_72 (n := 73) rfl ?_
      refine G.i2b C at_73 (n := 74) rfl ?_
      refine G.bastore C O428 (by decide) (show (1 : Int32).toInt < ((19 : Nat) : Int) by decide) g421 at_74 (n := 75) rfl ?_
      intro h430 K431 W432 O433
      have O434 : Ints Z h430 b416 .byte [(nar .byte ((i2.toInt32).toInt8.toInt32)), (nar .byte ((((i2.toUInt64 >>> ((8 : Int32) &&& 0x3f).toInt64.toUInt64).toInt64).toInt32).toInt8.toInt32)), 0, 0, 0, 0, 0, 0, 0, 0, 0, 0, 0, 0, 0, 0, 0, 0, 0] := O433
      have Z435 : n0 ≤ h430.size := Nat.le_trans Z429 K431.1
      refine G.aload C at_75 rfl rfl (n := 77) rfl ?_
      refine G.iconst C (v := (2 : Int32)) at_77 (by decide) (n := 78) rfl ?_
      refine G.lload C at_78 rfl (n := 80) rfl ?_
      refine G.bipush C (v := (16 : Int32)) at_80 (by decide) (n := 82) rfl ?_
      refine G.lushr C at_82 (n := 83) rfl ?_
      refine G.l2i C at_83 (n := 84) rfl ?_
      refine G.i2b C at_84 (n := 85) rfl ?_
      refine G.bastore C O434 (by decide) (show (2 : Int32).toInt < ((19 : Nat) : Int) by decide) g421 at_85 (n := 86) rfl ?_
      intro h436 K437 W438 O439
      have O440 : Ints Z h436 b416 .byte [(nar .byte ((i2.toInt32).toInt8.toInt32)), (nar .byte ((((i2.toUInt64 >>> ((8 : Int32) &&& 0x3f).toInt64.toUInt64).toInt64).toInt32).toInt8.toInt32)), (nar .byte ((((i2.toUInt64 >>> ((16 : Int32) &&& 0x3f).toInt64.toUInt64).toInt64).toInt32).toInt8.toInt32)), 0, 0, 0, 0, 0, 0, 0, 0, 0, 0, 0, 0, 0, 0, 0, 0] := O439
      have Z441 : n0 ≤ h436.size := Nat.le_trans Z435 K437.1
      refine G.aload C at_86 rfl rfl (n := 88) rfl ?_
      refine G.bipush C (v := (16 : Int32)) at_88 (by decide) (n := 90) rfl ?_
      refine G.lload C at_90 rfl (n := 92) rfl ?_
      refine G.bipush C (v := (24 : Int32)) at_92 (by decide) (n := 94) rfl ?_
      refine G.lushr C at_94 (n := 95) rfl ?_
      refine G.l2i C at_95 (n := 96) rfl ?_
      refine G.i2b C at_96 (n := 97) rfl ?_
      refine G.bastore C O440 (by decide) (show (16 : Int32).toInt < ((19 : Nat) : Int) by decide) g421 at_97 (n := 98) rfl ?_
      intro h442 K443 W444 O445
      have O446 : Ints Z h442 b416 .byte [(nar .byte ((i2.toInt32).toInt8.toInt32)), (nar .byte ((((i2.toUInt64 >>> ((8 : Int32) &&& 0x3f).toInt64.toUInt64).toInt64).toInt32).toInt8.toInt32)), (nar .byte ((((i2.toUInt64 >>> ((16 : Int32) &&& 0x3f).toInt64.toUInt64).toInt64).toInt32).toInt8.toInt32)), 0, 0, 0, 0, 0, 0, 0, 0, 0, 0, 0, 0, 0, (nar .byte ((((i2.toUInt64 >>> ((24 : Int32) &&& 0x3f).toInt64.toUInt64).toInt64).toInt32).toInt8.toInt32)), 0, 0] := O445
      have Z447 : n0 ≤ h442.size := Nat.le_trans Z441 K443.1
      refine G.aload C at_98 rfl rfl (n := 100) rfl ?_
      refine G.bipush C (v := (17 : Int32)) at_100 (by decide) (n := 102) rfl ?_
      refine G.lload C at_102 rfl (n := 104) rfl ?_
      refine G.bipush C (v := (32 : Int32)) at_104 (by decide) (n := 106) rfl ?_
      refine G.lushr C at_106 (n := 107) rfl ?_
      refine G.l2i C at_107 (n := 108) rfl ?_
      refine G.i2b C at_108 (n := 109) rfl ?_
      refine G.bastore C O446 (by decide) (show (17 : Int32).toInt < ((19 : Nat) : Int) by decide) g421 at_109 (n := 110) rfl ?_
      intro h448 K449 W450 O451
      have O452 : Ints Z h448 b416 .byte [(nar .byte ((i2.toInt32).toInt8.toInt32)), (nar .byte ((((i2.toUInt64 >>> ((8 : Int32) &&& 0x3f).toInt64.toUInt64).toInt64).toInt32).toInt8.toInt32)), (nar .byte ((((i2.toUInt64 >>> ((16 : Int32) &&& 0x3f).toInt64.toUInt64).toInt64).toInt32).toInt8.toInt32)), 0, 0, 0, 0, 0, 0, 0, 0, 0, 0, 0, 0, 0, (nar .byte ((((i2.toUInt64 >>> ((24 : Int32) &&& 0x3f).toInt64.toUInt64).toInt64).toInt32).toInt8.toInt32)), (nar .byte ((((i2.toUInt64 >>> ((32 : Int32) &&& 0x3f).toInt64.toUInt64).toInt64).toInt32).toInt8.toInt32)), 0] := O451
      have Z453 : n0 ≤ h448.size := Nat.le_trans Z447 K449.1
      refine G.aload C at_110 rfl rfl (n := 112) rfl ?_
      refine G.bipush C (v := (18 : Int32)) at_112 (by decide) (n := 114) rfl ?_
      refine G.lload C at_114 rfl (n := 116) rfl ?_
      refine G.bipush C (v := (40 : Int32)) at_116 (by decide) (n := 118) rfl ?_
      refine G.lushr C at_118 (n := 119) rfl ?_
      refine G.l2i C at_119 (n := 120) rfl ?_
      refine G.i2b C at_120 (n := 121) rfl ?_
      refine G.bastore C O452 (by decide) (show (18 : Int32).toInt < ((19 : Nat) : Int) by decide) g421 at_121 (n := 122) rfl ?_
      intro h454 K455 W456 O457
      have O458 : Ints Z h454 b416 .byte [(nar .byte ((i2.toInt32).toInt8.toInt32)), (nar .byte ((((i2.toUInt64 >>> ((8 : Int32) &&& 0x3f).toInt64.toUInt64).toInt64).toInt32).toInt8.toInt32)), (nar .byte ((((i2.toUInt64 >>> ((16 : Int32) &&& 0x3f).toInt64.toUInt64).toInt64).toInt32).toInt8.toInt32)), 0, 0, 0, 0, 0, 0, 0, 0, 0, 0, 0, 0, 0, (nar .byte ((((i2.toUInt64 >>> ((24 : Int32) &&& 0x3f).toInt64.toUInt64).toInt64).toInt32).toInt8.toInt32)), (nar .byte ((((i2.toUInt64 >>> ((32 : Int32) &&& 0x3f).toInt64.toUInt64).toInt64).toInt32).toInt8.toInt32)), (nar .byte ((((i2.toUInt64 >>> ((40 : Int32) &&& 0x3f).toInt64.toUInt64).toInt64).toInt32).toInt8.toInt32))] := O457
      have Z459 : n0 ≤ h454.size := Nat.le_trans Z453 K455.1
      have qo := c_and i3 (3 : Int32) (by decide)
      rw [← hv414, show (3 : Int32).toInt = 3 from rfl] at qo
      have qo8 : (v414 + (8 : Int32)).toInt = v414.toInt + 8 := ixa (by decide) (by omega) (by decide) (by omega)
      refine G.aload C at_122 rfl rfl (n := 124) rfl ?_
      refine G.iload C at_124 rfl (n := 126) rfl ?_
      refine G.lloadN C at_126 rfl (n := 127) rfl ?_
      refine G.callS C (argsL := [(.ref b416), (.int v414), (.long i0)]) (yc := (⟨"com/example/parley/parley/KeySketchReadPinLaw", "put", "([BIJ)V"⟩ : MethodName)) (wd hw 2 rfl) (wd hw 3 rfl) (wd hw 4 rfl) (wd hw 5 rfl) (by decide) (m_put l Z a0 hw b416 v414 i0 [(nar .byte ((i2.toInt32).toInt8.toInt32)), (nar .byte ((((i2.toUInt64 >>> ((8 : Int32) &&& 0x3f).toInt64.toUInt64).toInt64).toInt32).toInt8.toInt32)), (nar .byte ((((i2.toUInt64 >>> ((16 : Int32) &&& 0x3f).toInt64.toUInt64).toInt64).toInt32).toInt8.toInt32)), 0, 0, 0, 0, 0, 0, 0, 0, 0, 0, 0, 0, 0, (nar .byte ((((i2.toUInt64 >>> ((24 : Int32) &&& 0x3f).toInt64.toUInt64).toInt64).toInt32).toInt8.toInt32)), (nar .byte ((((i2.toUInt64 >>> ((32 : Int32) &&& 0x3f).toInt64.toUInt64).toInt64).toInt32).toInt8.toInt32)), (nar .byte ((((i2.toUInt64 >>> ((40 : Int32) &&& 0x3f).toInt64.toUInt64).toInt64).toInt32).toInt8.toInt32))] h454 n0 Z459 O458 g421 (by omega) (by show _ + 8 ≤ ((19 : Nat) : Int); omega)) rfl (by decide) (W := 0) rfl (by decide) (c' := 1) (s' := 19) rfl rfl (by decide) (by decide) at_127 (n := 130) rfl pd0 rfl rfl ?_
      rintro _ h464 ⟨rfl, K460, bs461, O462, bs461_0, bs461_1, bs461_2, bs461_3, bs461_4, bs461_5, bs461_6, bs461_7, bs461_8, bs461_9⟩
      have Z465 : n0 ≤ h464.size := Nat.le_trans Z459 K460.1
      refine G.aload C at_130 rfl rfl (n := 132) rfl ?_
      refine G.iload C at_132 rfl (n := 134) rfl ?_
      refine G.bipush C (v := (8 : Int32)) at_134 (by decide) (n := 136) rfl ?_
      refine G.iadd C at_136 (n := 137) rfl ?_
      refine G.lloadN C at_137 rfl (n := 138) rfl ?_
      refine G.callS C (argsL := [(.ref b416), (.int (v414 + (8 : Int32))), (.long i1)]) (yc := (⟨"com/example/parley/parley/KeySketchReadPinLaw", "put", "([BIJ)V"⟩ : MethodName)) (wd hw 2 rfl) (wd hw 3 rfl) (wd hw 4 rfl) (wd hw 5 rfl) (by decide) (m_put l Z a0 hw b416 (v414 + (8 : Int32)) i1 bs461 h464 n0 Z465 O462 g421 (by omega) (by rw [bs461_0]; show _ + 8 ≤ ((19 : Nat) : Int); omega)) rfl (by decide) (W := 0) rfl (by decide) (c' := 1) (s' := 19) rfl rfl (by decide) (by decide) at_138 (n := 141) rfl pd0 rfl rfl ?_
      rintro _ h470 ⟨rfl, K466, bs467, O468, bs467_0, bs467_1, bs467_2, bs467_3, bs467_4, bs467_5, bs467_6, bs467_7, bs467_8, bs467_9⟩
      have Z471 : n0 ≤ h470.size := Nat.le_trans Z465 K466.1
      refine G.aload C at_141 rfl rfl (n := 143) rfl ?_
      refine G.iload C at_143 rfl (n := 145) rfl ?_
      refine G.iload C at_145 rfl (n := 147) rfl ?_
      refine G.iload C at_147 rfl (n := 149) rfl ?_
      refine G.callS C (argsL := [(.ref b416), (.int v414), (.int (0 : Int32)), (.int (8 : Int32))]) (yc := (⟨"com/example/parley/parley/KeySketch", "read", "([BIII)[J"⟩ : MethodName)) (wd hw 6 rfl) (wd hw 7 rfl) (wd hw 8 rfl) (wd hw 9 rfl) (by decide) (m_read_8_0 l Z a0 hw b416 v414 bs467   h470 n0 Z471 O468 (by omega) (by rw [bs467_0, bs461_0]; show _ + 0 ≤ ((19 : Nat) : Int); omega)  ) rfl (by decide) (W := 0) rfl (by decide) (c' := 2) (s' := 19) rfl rfl (by decide) (by decide) at_149 (n := 152) rfl pd1 rfl rfl ?_
      rintro _ h477 ⟨b472, rfl, f473, K474, O475⟩
      have ne478 : b416 ≠ b472 := Nat.ne_of_lt (Nat.lt_of_lt_of_le O468.lt f473)
      have g479 : n0 ≤ b472 := Nat.le_trans Z471 f473
      have O480 := O468.keep K474 nin0
      have Z481 : n0 ≤ h477.size := Nat.le_trans Z471 K474.1
      refine G.astore C at_152 rfl (l' := #[.val (.long i0), .second, .val (.long i1), .second, .val (.long i2), .second, .val (.int i3), .val (.int i4), .val (.int (8 : Int32)), .val (.int v410), .val (.int (0 : Int32)), .val (.int v414), .val (.ref b416), .val (.ref b472), .unset, .unset, .unset, .unset, .unset, .unset, .unset, .unset]) rfl (n := 154) rfl ?_
      refine G.iload C at_154 rfl (n := 156) rfl ?_
      refine G.bipush C (v := (8 : Int32)) at_156 (by decide) (n := 158) rfl ?_
      refine G.icmp_ne C (A := 8) (B := 8) (by decide) (by decide) at_158 (by decide) (by decide) (n := 161) (n' := 165) rfl (fun c158_482 c158_482i => ?_) (fun c158_482 c158_482i => ?_)
      · exact absurd c158_482 (by decide)
      refine G.lloadN C at_161 rfl (n := 162) rfl ?_
      refine G.goto C at_162 (by decide) (n := 170) (by decide) ?_
      refine G.lstore C at_170 (l' := #[.val (.long i0), .second, .val (.long i1), .second, .val (.long i2), .second, .val (.int i3), .val (.int i4), .val (.int (8 : Int32)), .val (.int v410), .val (.int (0 : Int32)), .val (.int v414), .val (.ref b416), .val (.ref b472), .val (.long i0), .second, .unset, .unset, .unset, .unset, .unset, .unset]) rfl (n := 172) rfl ?_
      refine G.iload C at_172 rfl (n := 174) rfl ?_
      refine G.bipush C (v := (8 : Int32)) at_174 (by decide) (n := 176) rfl ?_
      refine G.icmp_ne C (A := 8) (B := 8) (by decide) (by decide) at_176 (by decide) (by decide) (n := 179) (n' := 183) rfl (fun c176_483 c176_483i => ?_) (fun c176_483 c176_483i => ?_)
      · exact absurd c176_483 (by decide)
      refine G.lloadN C at_179 rfl (n := 180) rfl ?_
      refine G.goto C at_180 (by decide) (n := 187) (by decide) ?_
      refine G.lstore C at_187 (l' := #[.val (.long i0), .second, .val (.long i1), .second, .val (.long i2), .second, .val (.int i3), .val (.int i4), .val (.int (8 : Int32)), .val (.int v410), .val (.int (0 : Int32)), .val (.int v414), .val (.ref b416), .val (.ref b472), .val (.long i0), .second, .val (.long i1), .second, .unset, .unset, .unset, .unset]) rfl (n := 189) rfl ?_
      refine G.lloadN C at_189 rfl (n := 190) rfl ?_
      refine G.ldc2 C (v := (4294967295 : Int64)) (wd hw 11 rfl) at_190 (n := 193) rfl ?_
      refine G.land C at_193 (n := 194) rfl ?_
      refine G.lstoreZ C at_194 (l' := fun z => #[.val (.long i0), .second, .val (.long i1), .second, .val (.long i2), .second, .val (.int i3), .val (.int i4), .val (.int (8 : Int32)), .val (.int v410), .val (.int (0 : Int32)), .val (.int v414), .val (.ref b416), .val (.ref b472), .val (.long i0), .second, .val (.long i1), .second, .val (.long z), .second, .unset, .unset]) (fun _ => rfl) (n := 196) rfl ?_
      intro v484 hv484
      refine G.lloadN C at_196 rfl (n := 197) rfl ?_
      refine G.bipush C (v := (32 : Int32)) at_197 (by decide) (n := 199) rfl ?_
      refine G.lushr C at_199 (n := 200) rfl ?_
      refine G.lstoreZ C at_200 (l' := fun z => #[.val (.long i0), .second, .val (.long i1), .second, .val (.long i2), .second, .val (.int i3), .val (.int i4), .val (.int (8 : Int32)), .val (.int v410), .val (.int (0 : Int32)), .val (.int v414), .val (.ref b416), .val (.ref b472), .val (.long i0), .second, .val (.long i1), .second, .val (.long v484), .second, .val (.long z), .second]) (fun _ => rfl) (n := 202) rfl ?_
      intro v485 hv485
      refine G.aload C at_202 rfl rfl (n := 204) rfl ?_
      refine G.arraylengthL C (len := (0 : Int32)) O475 rfl at_204 (n := 205) rfl ?_
      refine G.iload C at_205 rfl (n := 207) rfl ?_
      refine G.icmp_ne C (A := 0) (B := 0) (by decide) (by decide) at_207 (by decide) (by decide) (n := 210) (n' := 278) rfl (fun c207_486 c207_486i => ?_) (fun c207_486 c207_486i => ?_)
      · exact absurd c207_486 (by decide)
      refine G.iload C at_210 rfl (n := 212) rfl ?_
      refine G.iconst C (v := (1 : Int32)) at_212 (by decide) (n := 213) rfl ?_
      refine G.icmp_lt C (A := 0) (B := 1) (by decide) (by decide) at_213 (by decide) (by decide) (n := 216) (n' := 226) rfl (fun c213_487 => ?_) (fun c213_487 => ?_)
      rotate_left
      · exact absurd c213_487 (by decide)
      refine G.iload C at_226 rfl (n := 228) rfl ?_
      refine G.iconst C (v := (2 : Int32)) at_228 (by decide) (n := 229) rfl ?_
      refine G.icmp_lt C (A := 0) (B := 2) (by decide) (by decide) at_229 (by decide) (by decide) (n := 232) (n' := 242) rfl (fun c229_488 => ?_) (fun c229_488 => ?_)
      rotate_left
      · exact absurd c229_488 (by decide)
      refine G.iload C at_242 rfl (n := 244) rfl ?_
      refine G.iconst C (v := (3 : Int32)) at_244 (by decide) (n := 245) rfl ?_
      refine G.icmp_lt C (A := 0) (B := 3) (by decide) (by decide) at_245 (by decide) (by decide) (n := 248) (n' := 258) rfl (fun c245_489 => ?_) (fun c245_489 => ?_)
      rotate_left
      · exact absurd c245_489 (by decide)
      refine G.iload C at_258 rfl (n := 260) rfl ?_
      refine G.iconst C (v := (4 : Int32)) at_260 (by decide) (n := 261) rfl ?_
      refine G.icmp_lt C (A := 0) (B := 4) (by decide) (by decide) at_261 (by decide) (by decide) (n := 264) (n' := 274) rfl (fun c261_490 => ?_) (fun c261_490 => ?_)
      rotate_left
      · exact absurd c261_490 (by decide)
      refine G.iconst C (v := (1 : Int32)) at_274 (by decide) (n := 275) rfl ?_
      refine G.goto C at_275 (by decide) (n := 279) (by decide) ?_
      refine G.ireturn C at_279 (rfl) (by simp) (by decide) (by decide) ?_
      exact rfl
    · refine G.iload C at_44 rfl (n := 46) rfl ?_
      refine G.iconst C (v := (3 : Int32)) at_46 (by decide) (n := 47) rfl ?_
      refine G.iand C at_47 (n := 48) rfl ?_
      refine G.istoreZ C at_48 (l' := fun z => #[.val (.long i0), .second, .val (.long i1), .second, .val (.long i2), .second, .val (.int i3), .val (.int i4), .val (.int (8 : Int32)), .val (.int v410), .val (.int (1 : Int32)), .val (.int z), .unset, .unset, .unset, .unset, .unset, .unset, .unset, .unset, .unset, .unset]) (fun _ => rfl) (n := 50) rfl ?_
      intro v491 hv491
      refine G.bipush C (v := (19 : Int32)) at_50 (by decide) (n := 52) rfl ?_
      refine G.newarray C (ty := .byte) (cap := 19) (wd hw 1 rfl) rfl rfl (by decide) (by decide) (by decide) at_52 (n := 54) rfl (c' := 1) (s' := 19) rfl rfl (by decide) (by decide) ?_
      intro h492 b493 q494 E495 O496
      have O497 : Ints Z h492 b493 .byte [0, 0, 0, 0, 0, 0, 0, 0, 0, 0, 0, 0, 0, 0, 0, 0, 0, 0, 0] := O496
      have g498 : n0 ≤ b493 := Nat.le_trans Z0 (Nat.le_of_eq q494.symm)
      have K499 := kext E495
      have Z500 : n0 ≤ h492.size := Nat.le_trans Z0 K499.1
      refine G.astore C at_54 rfl (l' := #[.val (.long i0), .second, .val (.long i1), .second, .val (.long i2), .second, .val (.int i3), .val (.int i4), .val (.int (8 : Int32)), .val (.int v410), .val (.int (1 : Int32)), .val (.int v491), .val (.ref b493), .unset, .unset, .unset, .unset, .unset, .unset, .unset, .unset, .unset]) rfl (n := 56) rfl ?_
      refine G.aload C at_56 rfl rfl (n := 58) rfl ?_
      refine G.iconst C (v := (0 : Int32)) at_58 (by decide) (n := 59) rfl ?_
      refine G.lload C at_59 rfl (n := 61) rfl ?_
      refine G.l2i C at_61 (n := 62) rfl ?_
      refine G.i2b C at_62 (n := 63) rfl ?_
      refine G.bastore C O497 (by decide) (show (0 : Int32).toInt < ((19 : Nat) : Int) by decide) g498 at_63 (n := 64) rfl ?_
      intro h501 K502 W503 O504
      have O505 : Ints Z h501 b493 .byte [(nar .byte ((i2.toInt32).toInt8.toInt32)), 0, 0, 0, 0, 0, 0, 0, 0, 0, 0, 0, 0, 0, 0, 0, 0, 0, 0] := O504
      have Z506 : n0 ≤ h501.size := Nat.le_trans Z500 K502.1
      refine G.aload C at_64 rfl rfl (n := 66) rfl ?_
      refine G.iconst C (v := (1 : Int32)) at_66 (by decide) (n := 67) rfl ?_
      refine G.lload C at_67 rfl (n := 69) rfl ?_
      refine G.bipush C (v := (8 : Int32)) at_69 (by decide) (n := 71) rfl ?_
      refine G.lushr C at_71 (n := 72) rfl ?_
      refine G.l2i C at_72 (n := 73) rfl ?_
      refine G.i2b C at_73 (n := 74) rfl ?_
      refine G.bastore C O505 (by decide) (show (1 : Int32).toInt < ((19 : Nat) : Int) by decide) g498 at_74 (n := 75) rfl ?_
      intro h507 K508 W509 O510
      have O511 : Ints Z h507 b493 .byte [(nar .byte ((i2.toInt32).toInt8.toInt32)), (nar .byte ((((i2.toUInt64 >>> ((8 : Int32) &&& 0x3f).toInt64.toUInt64).toInt64).toInt32).toInt8.toInt32)), 0, 0, 0, 0, 0, 0, 0, 0, 0, 0, 0, 0, 0, 0, 0, 0, 0] := O510
      have Z512 : n0 ≤ h507.size := Nat.le_trans Z506 K508.1
      refine G.aload C at_75 rfl rfl (n := 77) rfl ?_
      refine G.iconst C (v := (2 : Int32)) at_77 (by decide) (n := 78) rfl ?_
      refine G.lload C at_78 rfl (n := 80) rfl ?_
      refine G.bipush C (v := (16 : Int32)) at_80 (by decide) (n := 82) rfl ?_
      refine G.lushr C at_82 (n := 83) rfl ?_
      refine G.l2i C at_83 (n := 84) rfl ?_
      refine G.i2b C at_84 (n := 85) rfl ?_
      refine G.bastore C O511 (by decide) (show (2 : Int32).toInt < ((19 : Nat) : Int) by decide) g498 at_85 (n := 86) rfl ?_
      intro h513 K514 W515 O516
      have O517 : Ints Z h513 b493 .byte [(nar .byte ((i2.toInt32).toInt8.toInt32)), (nar .byte ((((i2.toUInt64 >>> ((8 : Int32) &&& 0x3f).toInt64.toUInt64).toInt64).toInt32).toInt8.toInt32)), (nar .byte ((((i2.toUInt64 >>> ((16 : Int32) &&& 0x3f).toInt64.toUInt64).toInt64).toInt32).toInt8.toInt32)), 0, 0, 0, 0, 0, 0, 0, 0, 0, 0, 0, 0, 0, 0, 0, 0] := O516
      have Z518 : n0 ≤ h513.size := Nat.le_trans Z512 K514.1
      refine G.aload C at_86 rfl rfl (n := 88) rfl ?_
      refine G.bipush C (v := (16 : Int32)) at_88 (by decide) (n := 90) rfl ?_
      refine G.lload C at_90 rfl (n := 92) rfl ?_
      refine G.bipush C (v := (24 : Int32)) at_92 (by decide) (n := 94) rfl ?_
      refine G.lushr C at_94 (n := 95) rfl ?_
      refine G.l2i C at_95 (n := 96) rfl ?_
      refine G.i2b C at_96 (n := 97) rfl ?_
      refine G.bastore C O517 (by decide) (show (16 : Int32).toInt < ((19 : Nat) : Int) by decide) g498 at_97 (n := 98) rfl ?_
      intro h519 K520 W521 O522
      have O523 : Ints Z h519 b493 .byte [(nar .byte ((i2.toInt32).toInt8.toInt32)), (nar .byte ((((i2.toUInt64 >>> ((8 : Int32) &&& 0x3f).toInt64.toUInt64).toInt64).toInt32).toInt8.toInt32)), (nar .byte ((((i2.toUInt64 >>> ((16 : Int32) &&& 0x3f).toInt64.toUInt64).toInt64).toInt32).toInt8.toInt32)), 0, 0, 0, 0, 0, 0, 0, 0, 0, 0, 0, 0, 0, (nar .byte ((((i2.toUInt64 >>> ((24 : Int32) &&& 0x3f).toInt64.toUInt64).toInt64).toInt32).toInt8.toInt32)), 0, 0] := O522
      have Z524 : n0 ≤ h519.size := Nat.le_trans Z518 K520.1
      refine G.aload C at_98 rfl rfl (n := 100) rfl ?_
      refine G.bipush C (v := (17 : Int32)) at_100 (by decide) (n := 102) rfl ?_
      refine G.lload C at_102 rfl (n := 104) rfl ?_
      refine G.bipush C (v := (32 : Int32)) at_104 (by decide) (n := 106) rfl ?_
      refine G.lushr C at_106 (n := 107) rfl ?_
      refine G.l2i C at_107 (n := 108) rfl ?_
      refine G.i2b C at_108 (n := 109) rfl ?_
      refine G.bastore C O523 (by decide) (show (17 : Int32).toInt < ((19 : Nat) : Int) by decide) g498 at_109 (n := 110) rfl ?_
      intro h525 K526 W527 O528
      have O529 : Ints Z h525 b493 .byte [(nar .byte ((i2.toInt32).toInt8.toInt32)), (nar .byte ((((i2.toUInt64 >>> ((8 : Int32) &&& 0x3f).toInt64.toUInt64).toInt64).toInt32).toInt8.toInt32)), (nar .byte ((((i2.toUInt64 >>> ((16 : Int32) &&& 0x3f).toInt64.toUInt64).toInt64).toInt32).toInt8.toInt32)), 0, 0, 0, 0, 0, 0, 0, 0, 0, 0, 0, 0, 0, (nar .byte ((((i2.toUInt64 >>> ((24 : Int32) &&& 0x3f).toInt64.toUInt64).toInt64).toInt32).toInt8.toInt32)), (nar .byte ((((i2.toUInt64 >>> ((32 : Int32) &&& 0x3f).toInt64.toUInt64).toInt64).toInt32).toInt8.toInt32)), 0] := O528
      have Z530 : n0 ≤ h525.size := Nat.le_trans Z524 K526.1
      refine G.aload C at_110 rfl rfl (n := 112) rfl ?_
      refine G.bipush C (v := (18 : Int32)) at_112 (by decide) (n := 114) rfl ?_
      refine G.lload C at_114 rfl (n := 116) rfl ?_
      refine G.bipush C (v := (40 : Int32)) at_116 (by decide) (n := 118) rfl ?_
      refine G.lushr C at_118 (n := 119) rfl ?_
      refine G.l2i C at_119 (n := 120) rfl ?_
      refine G.i2b C at_120 (n := 121) rfl ?_
      refine G.bastore C O529 (by decide) (show (18 : Int32).toInt < ((19 : Nat) : Int) by decide) g498 at_121 (n := 122) rfl ?_
      intro h531 K532 W533 O534
      have O535 : Ints Z h531 b493 .byte [(nar .byte ((i2.toInt32).toInt8.toInt32)), (nar .byte ((((i2.toUInt64 >>> ((8 : Int32) &&& 0x3f).toInt64.toUInt64).toInt64).toInt32).toInt8.toInt32)), (nar .byte ((((i2.toUInt64 >>> ((16 : Int32) &&& 0x3f).toInt64.toUInt64).toInt64).toInt32).toInt8.toInt32)), 0, 0, 0, 0, 0, 0, 0, 0, 0, 0, 0, 0, 0, (nar .byte ((((i2.toUInt64 >>> ((24 : Int32) &&& 0x3f).toInt64.toUInt64).toInt64).toInt32).toInt8.toInt32)), (nar .byte ((((i2.toUInt64 >>> ((32 : Int32) &&& 0x3f).toInt64.toUInt64).toInt64).toInt32).toInt8.toInt32)), (nar .byte ((((i2.toUInt64 >>> ((40 : Int32) &&& 0x3f).toInt64.toUInt64).toInt64).toInt32).toInt8.toInt32))] := O534
      have Z536 : n0 ≤ h531.size := Nat.le_trans Z530 K532.1
      have qo := c_and i3 (3 : Int32) (by decide)
      rw [← hv491, show (3 : Int32).toInt = 3 from rfl] at qo
      have qo8 : (v491 + (8 : Int32)).toInt = v491.toInt + 8 := ixa (by decide) (by omega) (by decide) (by omega)
      refine G.aload C at_122 rfl rfl (n := 124) rfl ?_
      refine G.iload C at_124 rfl (n := 126) rfl ?_
      refine G.lloadN C at_126 rfl (n := 127) rfl ?_
      refine G.callS C (argsL := [(.ref b493), (.int v491), (.long i0)]) (yc := (⟨"com/example/parley/parley/KeySketchReadPinLaw", "put", "([BIJ)V"⟩ : MethodName)) (wd hw 2 rfl) (wd hw 3 rfl) (wd hw 4 rfl) (wd hw 5 rfl) (by decide) (m_put l Z a0 hw b493 v491 i0 [(nar .byte ((i2.toInt32).toInt8.toInt32)), (nar .byte ((((i2.toUInt64 >>> ((8 : Int32) &&& 0x3f).toInt64.toUInt64).toInt64).toInt32).toInt8.toInt32)), (nar .byte ((((i2.toUInt64 >>> ((16 : Int32) &&& 0x3f).toInt64.toUInt64).toInt64).toInt32).toInt8.toInt32)), 0, 0, 0, 0, 0, 0, 0, 0, 0, 0, 0, 0, 0, (nar .byte ((((i2.toUInt64 >>> ((24 : Int32) &&& 0x3f).toInt64.toUInt64).toInt64).toInt32).toInt8.toInt32)), (nar .byte ((((i2.toUInt64 >>> ((32 : Int32) &&& 0x3f).toInt64.toUInt64).toInt64).toInt32).toInt8.toInt32)), (nar .byte ((((i2.toUInt64 >>> ((40 : Int32) &&& 0x3f).toInt64.toUInt64).toInt64).toInt32).toInt8.toInt32))] h531 n0 Z536 O535 g498 (by omega) (by show _ + 8 ≤ ((19 : Nat) : Int); omega)) rfl (by decide) (W := 0) rfl (by decide) (c' := 1) (s' := 19) rfl rfl (by decide) (by decide) at_127 (n := 130) rfl pd0 rfl rfl ?_
      rintro _ h541 ⟨rfl, K537, bs538, O539, bs538_0, bs538_1, bs538_2, bs538_3, bs538_4, bs538_5, bs538_6, bs538_7, bs538_8, bs538_9⟩
      have Z542 : n0 ≤ h541.size := Nat.le_trans Z536 K537.1
      refine G.aload C at_130 rfl rfl (n := 132) rfl ?_
      refine G.iload C at_132 rfl (n := 134) rfl ?_
      refine G.bipush C (v := (8 : Int32)) at_134 (by decide) (n := 136) rfl ?_
      refine G.iadd C at_136 (n := 137) rfl ?_
      refine G.lloadN C at_137 rfl (n := 138) rfl ?_
      refine G.callS C (argsL := [(.ref b493), (.int (v491 + (8 : Int32))), (.long i1)]) (yc := (⟨"com/example/parley/parley/KeySketchReadPinLaw", "put", "([BIJ)V"⟩ : MethodName)) (wd hw 2 rfl) (wd hw 3 rfl) (wd hw 4 rfl) (wd hw 5 rfl) (by decide) (m_put l Z a0 hw b493 (v491 + (8 : Int32)) i1 bs538 h541 n0 Z542 O539 g498 (by omega) (by rw [bs538_0]; show _ + 8 ≤ ((19 : Nat) : Int); omega)) rfl (by decide) (W := 0) rfl (by decide) (c' := 1) (s' := 19) rfl rfl (by decide) (by decide) at_138 (n := 141) rfl pd0 rfl rfl ?_
      rintro _ h547 ⟨rfl, K543, bs544, O545, bs544_0, bs544_1, bs544_2, bs544_3, bs544_4, bs544_5, bs544_6, bs544_7, bs544_8, bs544_9⟩
      have Z548 : n0 ≤ h547.size := Nat.le_trans Z542 K543.1
      refine G.aload C at_141 rfl rfl (n := 143) rfl ?_
      refine G.iload C at_143 rfl (n := 145) rfl ?_
      refine G.iload C at_145 rfl (n := 147) rfl ?_
      refine G.iload C at_147 rfl (n := 149) rfl ?_
      refine G.callS C (argsL := [(.ref b493), (.int v491), (.int (1 : Int32)), (.int (8 : Int32))]) (yc := (⟨"com/example/parley/parley/KeySketch", "read", "([BIII)[J"⟩ : MethodName)) (wd hw 6 rfl) (wd hw 7 rfl) (wd hw 8 rfl) (wd hw 9 rfl) (by decide) (m_read_8_1 l Z a0 hw b493 v491 bs544 (byt i0) (byt (shu i0 8)) (byt (shu i0 16)) (byt (shu i0 24)) (byt (shu i0 32)) (byt (shu i0 40)) (byt (shu i0 48)) (byt (shu i0 56)) i0 (shu i0 8) (shu i0 16) (shu i0 24) (shu i0 32) (shu i0 40) (shu i0 48) (shu i0 56) h547 n0 Z548 O545 (by omega) (by rw [bs544_0, bs538_0]; show _ + 8 ≤ ((19 : Nat) : Int); omega) (by rw [bs544_9 _ (Or.inl (by omega))]; exact bs538_1) (by rw [bs544_9 _ (Or.inl (by omega))]; exact bs538_2) (by rw [bs544_9 _ (Or.inl (by omega))]; exact bs538_3) (by rw [bs544_9 _ (Or.inl (by omega))]; exact bs538_4) (by rw [bs544_9 _ (Or.inl (by omega))]; exact bs538_5) (by rw [bs544_9 _ (Or.inl (by omega))]; exact bs538_6) (by rw [bs544_9 _ (Or.inl (by omega))]; exact bs538_7) (by rw [bs544_9 _ (Or.inl (by omega))]; exact bs538_8) (rdA_7 i0) (rdA_6 i0) (rdA_5 i0) (rdA_4 i0) (rdA_3 i0) (rdA_2 i0) (rdA_1 i0) (rdA_0 i0)) rfl (by decide) (W := 0) rfl (by decide) (c' := 2) (s' := 20) rfl rfl (by decide) (by decide) at_149 (n := 152) rfl pd1 rfl rfl ?_
      rintro _ h554 ⟨b549, rfl, f550, K551, O552⟩
      have ne555 : b493 ≠ b549 := Nat.ne_of_lt (Nat.lt_of_lt_of_le O545.lt f550)
      have g556 : n0 ≤ b549 := Nat.le_trans Z548 f550
      have O557 := O545.keep K551 nin0
      have Z558 : n0 ≤ h554.size := Nat.le_trans Z548 K551.1
      refine G.astore C at_152 rfl (l' := #[.val (.long i0), .second, .val (.long i1), .second, .val (.long i2), .second, .val (.int i3), .val (.int i4), .val (.int (8 : Int32)), .val (.int v410), .val (.int (1 : Int32)), .val (.int v491), .val (.ref b493), .val (.ref b549), .unset, .unset, .unset, .unset, .unset, .unset, .unset, .unset]) rfl (n := 154) rfl ?_
      refine G.iload C at_154 rfl (n := 156) rfl ?_
      refine G.bipush C (v := (8 : Int32)) at_156 (by decide) (n := 158) rfl ?_
      refine G.icmp_ne C (A := 8) (B := 8) (by decide) (by decide) at_158 (by decide) (by decide) (n := 161) (n' := 165) rfl (fun c158_559 c158_559i => ?_) (fun c158_559 c158_559i => ?_)
      · exact absurd c158_559 (by decide)
      refine G.lloadN C at_161 rfl (n := 162) rfl ?_
      refine G.goto C at_162 (by decide) (n := 170) (by decide) ?_
      refine G.lstore C at_170 (l' := #[.val (.long i0), .second, .val (.long i1), .second, .val (.long i2), .second, .val (.int i3), .val (.int i4), .val (.int (8 : Int32)), .val (.int v410), .val (.int (1 : Int32)), .val (.int v491), .val (.ref b493), .val (.ref b549), .val (.long i0), .second, .unset, .unset, .unset, .unset, .unset, .unset]) rfl (n := 172) rfl ?_
      refine G.iload C at_172 rfl (n := 174) rfl ?_
      refine G.bipush C (v := (8 : Int32)) at_174 (by decide) (n := 176) rfl ?_
      refine G.icmp_ne C (A := 8) (B := 8) (by decide) (by decide) at_176 (by decide) (by decide) (n := 179) (n' := 183) rfl (fun c176_560 c176_560i => ?_) (fun c176_560 c176_560i => ?_)
      · exact absurd c176_560 (by decide)
      refine G.lloadN C at_179 rfl (n := 180) rfl ?_
      refine G.goto C at_180 (by decide) (n := 187) (by decide) ?_
      refine G.lstore C at_187 (l' := #[.val (.long i0), .second, .val (.long i1), .second, .val (.long i2), .second, .val (.int i3), .val (.int i4), .val (.int (8 : Int32)), .val (.int v410), .val (.int (1 : Int32)), .val (.int v491), .val (.ref b493), .val (.ref b549), .val (.long i0), .second, .val (.long i1), .second, .unset, .unset, .unset, .unset]) rfl (n := 189) rfl ?_
      refine G.lloadN C at_189 rfl (n := 190) rfl ?_
      refine G.ldc2 C (v := (4294967295 : Int64)) (wd hw 11 rfl) at_190 (n := 193) rfl ?_
      refine G.land C at_193 (n := 194) rfl ?_
      refine G.lstoreZ C at_194 (l' := fun z => #[.val (.long i0), .second, .val (.long i1), .second, .val (.long i2), .second, .val (.int i3), .val (.int i4), .val (.int (8 : Int32)), .val (.int v410), .val (.int (1 : Int32)), .val (.int v491), .val (.ref b493), .val (.ref b549), .val (.long i0), .second, .val (.long i1), .second, .val (.long z), .second, .unset, .unset]) (fun _ => rfl) (n := 196) rfl ?_
      intro v561 hv561
      refine G.lloadN C at_196 rfl (n := 197) rfl ?_
      refine G.bipush C (v := (32 : Int32)) at_197 (by decide) (n := 199) rfl ?_
      refine G.lushr C at_199 (n := 200) rfl ?_
      refine G.lstoreZ C at_200 (l' := fun z => #[.val (.long i0), .second, .val (.long i1), .second, .val (.long i2), .second, .val (.int i3), .val (.int i4), .val (.int (8 : Int32)), .val (.int v410), .val (.int (1 : Int32)), .val (.int v491), .val (.ref b493), .val (.ref b549), .val (.long i0), .second, .val (.long i1), .second, .val (.long v561), .second, .val (.long z), .second]) (fun _ => rfl) (n := 202) rfl ?_
      intro v562 hv562
      refine G.aload C at_202 rfl rfl (n := 204) rfl ?_
      refine G.arraylengthL C (len := (1 : Int32)) O552 rfl at_204 (n := 205) rfl ?_
      refine G.iload C at_205 rfl (n := 207) rfl ?_
      refine G.icmp_ne C (A := 1) (B := 1) (by decide) (by decide) at_207 (by decide) (by decide) (n := 210) (n' := 278) rfl (fun c207_563 c207_563i => ?_) (fun c207_563 c207_563i => ?_)
      · exact absurd c207_563 (by decide)
      refine G.iload C at_210 rfl (n := 212) rfl ?_
      refine G.iconst C (v := (1 : Int32)) at_212 (by decide) (n := 213) rfl ?_
      refine G.icmp_lt C (A := 1) (B := 1) (by decide) (by decide) at_213 (by decide) (by decide) (n := 216) (n' := 226) rfl (fun c213_564 => ?_) (fun c213_564 => ?_)
      · exact absurd c213_564 (by decide)
      refine G.aload C at_216 rfl rfl (n := 218) rfl ?_
      refine G.iconst C (v := (0 : Int32)) at_218 (by decide) (n := 219) rfl ?_
      refine G.laload C (x := i0) O552 (by decide) rfl at_219 (n := 220) rfl ?_
      refine G.lload C at_220 rfl (n := 222) rfl ?_
      refine G.lcmp_ne C (A := i0.toInt) (B := i0.toInt) rfl rfl at_222 at_223 (by decide) (by decide) (n := 226) (n' := 278) rfl (fun c223_565 c223_565i => ?_) (fun c223_565 c223_565i => ?_)
      · exact absurd rfl c223_565
      refine G.iload C at_226 rfl (n := 228) rfl ?_
      refine G.iconst C (v := (2 : Int32)) at_228 (by decide) (n := 229) rfl ?_
      refine G.icmp_lt C (A := 1) (B := 2) (by decide) (by decide) at_229 (by decide) (by decide) (n := 232) (n' := 242) rfl (fun c229_566 => ?_) (fun c229_566 => ?_)
      rotate_left
      · exact absurd c229_566 (by decide)
      refine G.iload C at_242 rfl (n := 244) rfl ?_
      refine G.iconst C (v := (3 : Int32)) at_244 (by decide) (n := 245) rfl ?_
      refine G.icmp_lt C (A := 1) (B := 3) (by decide) (by decide) at_245 (by decide) (by decide) (n := 248) (n' := 258) rfl (fun c245_567 => ?_) (fun c245_567 => ?_)
      rotate_left
      · exact absurd c245_567 (by decide)
      refine G.iload C at_258 rfl (n := 260) rfl ?_
      refine G.iconst C (v := (4 : Int32)) at_260 (by decide) (n := 261) rfl ?_
      refine G.icmp_lt C (A := 1) (B := 4) (by decide) (by decide) at_261 (by decide) (by decide) (n := 264) (n' := 274) rfl (fun c261_568 => ?_) (fun c261_568 => ?_)
      rotate_left
      · exact absurd c261_568 (by decide)
      refine G.iconst C (v := (1 : Int32)) at_274 (by decide) (n := 275) rfl ?_
      refine G.goto C at_275 (by decide) (n := 279) (by decide) ?_
      refine G.ireturn C at_279 (rfl) (by simp) (by decide) (by decide) ?_
      exact rfl
    · refine G.iload C at_44 rfl (n := 46) rfl ?_
      refine G.iconst C (v := (3 : Int32)) at_46 (by decide) (n := 47) rfl ?_
      refine G.iand C at_47 (n := 48) rfl ?_
      refine G.istoreZ C at_48 (l' := fun z => #[.val (.long i0), .second, .val (.long i1), .second, .val (.long i2), .second, .val (.int i3), .val (.int i4), .val (.int (8 : Int32)), .val (.int v410), .val (.int (2 : Int32)), .val (.int z), .unset, .unset, .unset, .unset, .unset, .unset, .unset, .unset, .unset, .unset]) (fun _ => rfl) (n := 50) rfl ?_
      intro v569 hv569
      refine G.bipush C (v := (19 : Int32)) at_50 (by decide) (n := 52) rfl ?_
      refine G.newarray C (ty := .byte) (cap := 19) (wd hw 1 rfl) rfl rfl (by decide) (by decide) (by decide) at_52 (n := 54) rfl (c' := 1) (s' := 19) rfl rfl (by decide) (by decide) ?_
      intro h570 b571 q572 E573 O574
      have O575 : Ints Z h570 b571 .byte [0, 0, 0, 0, 0, 0, 0, 0, 0, 0, 0, 0, 0, 0, 0, 0, 0, 0, 0] := O574
      have g576 : n0 ≤ b571 := Nat.le_trans Z0 (Nat.le_of_eq q572.symm)
      have K577 := kext E573
      have Z578 : n0 ≤ h570.size := Nat.le_trans Z0 K577.1
      refine G.astore C at_54 rfl (l' := #[.val (.long i0), .second, .val (.long i1), .second, .val (.long i2), .second, .val (.int i3), .val (.int i4), .val (.int (8 : Int32)), .val (.int v410), .val (.int (2 : Int32)), .val (.int v569), .val (.ref b571), .unset, .unset, .unset, .unset, .unset, .unset, .unset, .unset, .unset]) rfl (n := 56) rfl ?_
      refine G.aload C at_56 rfl rfl (n := 58) rfl ?_
      refine G.iconst C (v := (0 : Int32)) at_58 (by decide) (n := 59) rfl ?_
      refine G.lload C at_59 rfl (n := 61) rfl ?_
      refine G.l2i C at_61 (n := 62) rfl ?_
      refine G.i2b C at_62 (n := 63) rfl ?_
      refine G.bastore C O575 (by decide) (show (0 : Int32).toInt < ((19 : Nat) : Int) by decide) g576 at_63 (n := 64) rfl ?_
      intro h579 K580 W581 O582
      have O583 : Ints Z h579 b571 .byte [(nar .byte ((i2.toInt32).toInt8.toInt32)), 0, 0, 0, 0, 0, 0, 0, 0, 0, 0, 0, 0, 0, 0, 0, 0, 0, 0] := O582
      have Z584 : n0 ≤ h579.size := Nat.le_trans Z578 K580.1
      refine G.aload C at_64 rfl rfl (n := 66) rfl ?_
      refine G.iconst C (v := (1 : Int32)) at_66 (by decide) (n := 67) rfl ?_
      refine G.lload C at_67 rfl (n := 69) rfl ?_
      refine G.bipush C (v := (8 : Int32)) at_69 (by decide) (n := 71) rfl ?_
      refine G.lushr C at_71 (n := 72) rfl ?_
      refine G.l2i C at_72 (n := 73) rfl ?_
      refine G.i2b C at_73 (n := 74) rfl ?_
      refine G.bastore C O583 (by decide) (show (1 : Int32).toInt < ((19 : Nat) : Int) by decide) g576 at_74 (n := 75) rfl ?_
      intro h585 K586 W587 O588
      have O589 : Ints Z h585 b571 .byte [(nar .byte ((i2.toInt32).toInt8.toInt32)), (nar .byte ((((i2.toUInt64 >>> ((8 : Int32) &&& 0x3f).toInt64.toUInt64).toInt64).toInt32).toInt8.toInt32)), 0, 0, 0, 0, 0, 0, 0, 0, 0, 0, 0, 0, 0, 0, 0, 0, 0] := O588
      have Z590 : n0 ≤ h585.size := Nat.le_trans Z584 K586.1
      refine G.aload C at_75 rfl rfl (n := 77) rfl ?_
      refine G.iconst C (v := (2 : Int32)) at_77 (by decide) (n := 78) rfl ?_
      refine G.lload C at_78 rfl (n := 80) rfl ?_
      refine G.bipush C (v := (16 : Int32)) at_80 (by decide) (n := 82) rfl ?_
      refine G.lushr C at_82 (n := 83) rfl ?_
      refine G.l2i C at_83 (n := 84) rfl ?_
      refine G.i2b C at_84 (n := 85) rfl ?_
      refine G.bastore C O589 (by decide) (show (2 : Int32).toInt < ((19 : Nat) : Int) by decide) g576 at_85 (n := 86) rfl ?_
      intro h591 K592 W593 O594
      have O595 : Ints Z h591 b571 .byte [(nar .byte ((i2.toInt32).toInt8.toInt32)), (nar .byte ((((i2.toUInt64 >>> ((8 : Int32) &&& 0x3f).toInt64.toUInt64).toInt64).toInt32).toInt8.toInt32)), (nar .byte ((((i2.toUInt64 >>> ((16 : Int32) &&& 0x3f).toInt64.toUInt64).toInt64).toInt32).toInt8.toInt32)), 0, 0, 0, 0, 0, 0, 0, 0, 0, 0, 0, 0, 0, 0, 0, 0] := O594
      have Z596 : n0 ≤ h591.size := Nat.le_trans Z590 K592.1
      refine G.aload C at_86 rfl rfl (n := 88) rfl ?_
      refine G.bipush C (v := (16 : Int32)) at_88 (by decide) (n := 90) rfl ?_
      refine G.lload C at_90 rfl (n := 92) rfl ?_
      refine G.bipush C (v := (24 : Int32)) at_92 (by decide) (n := 94) rfl ?_
      refine G.lushr C at_94 (n := 95) rfl ?_
      refine G.l2i C at_95 (n := 96) rfl ?_
      refine G.i2b C at_96 (n := 97) rfl ?_
      refine G.bastore C O595 (by decide) (show (16 : Int32).toInt < ((19 : Nat) : Int) by decide) g576 at_97 (n := 98) rfl ?_
      intro h597 K598 W599 O600
      have O601 : Ints Z h597 b571 .byte [(nar .byte ((i2.toInt32).toInt8.toInt32)), (nar .byte ((((i2.toUInt64 >>> ((8 : Int32) &&& 0x3f).toInt64.toUInt64).toInt64).toInt32).toInt8.toInt32)), (nar .byte ((((i2.toUInt64 >>> ((16 : Int32) &&& 0x3f).toInt64.toUInt64).toInt64).toInt32).toInt8.toInt32)), 0, 0, 0, 0, 0, 0, 0, 0, 0, 0, 0, 0, 0, (nar .byte ((((i2.toUInt64 >>> ((24 : Int32) &&& 0x3f).toInt64.toUInt64).toInt64).toInt32).toInt8.toInt32)), 0, 0] := O600
      have Z602 : n0 ≤ h597.size := Nat.le_trans Z596 K598.1
      refine G.aload C at_98 rfl rfl (n := 100) rfl ?_
      refine G.bipush C (v := (17 : Int32)) at_100 (by decide) (n := 102) rfl ?_
      refine G.lload C at_102 rfl (n := 104) rfl ?_
      refine G.bipush C (v := (32 : Int32)) at_104 (by decide) (n := 106) rfl ?_
      refine G.lushr C at_106 (n := 107) rfl ?_
      refine G.l2i C at_107 (n := 108) rfl ?_
      refine G.i2b C at_108 (n := 109) rfl ?_
      refine G.bastore C O601 (by decide) (show (17 : Int32).toInt < ((19 : Nat) : Int) by decide) g576 at_109 (n := 110) rfl ?_
      intro h603 K604 W605 O606
      have O607 : Ints Z h603 b571 .byte [(nar .byte ((i2.toInt32).toInt8.toInt32)), (nar .byte ((((i2.toUInt64 >>> ((8 : Int32) &&& 0x3f).toInt64.toUInt64).toInt64).toInt32).toInt8.toInt32)), (nar .byte ((((i2.toUInt64 >>> ((16 : Int32) &&& 0x3f).toInt64.toUInt64).toInt64).toInt32).toInt8.toInt32)), 0, 0, 0, 0, 0, 0, 0, 0, 0, 0, 0, 0, 0, (nar .byte ((((i2.toUInt64 >>> ((24 : Int32) &&& 0x3f).toInt64.toUInt64).toInt64).toInt32).toInt8.toInt32)), (nar .byte ((((i2.toUInt64 >>> ((32 : Int32) &&& 0x3f).toInt64.toUInt64).toInt64).toInt32).toInt8.toInt32)), 0] := O606
      have Z608 : n0 ≤ h603.size := Nat.le_trans Z602 K604.1
      refine G.aload C at_110 rfl rfl (n := 112) rfl ?_
      refine G.bipush C (v := (18 : Int32)) at_112 (by decide) (n := 114) rfl ?_
      refine G.lload C at_114 rfl (n := 116) rfl ?_
      refine G.bipush C (v := (40 : Int32)) at_116 (by decide) (n := 118) rfl ?_
      refine G.lushr C at_118 (n := 119) rfl ?_
      refine G.l2i C at_119 (n := 120) rfl ?_
      refine G.i2b C at_120 (n := 121) rfl ?_
      refine G.bastore C O607 (by decide) (show (18 : Int32).toInt < ((19 : Nat) : Int) by decide) g576 at_121 (n := 122) rfl ?_
      intro h609 K610 W611 O612
      have O613 : Ints Z h609 b571 .byte [(nar .byte ((i2.toInt32).toInt8.toInt32)), (nar .byte ((((i2.toUInt64 >>> ((8 : Int32) &&& 0x3f).toInt64.toUInt64).toInt64).toInt32).toInt8.toInt32)), (nar .byte ((((i2.toUInt64 >>> ((16 : Int32) &&& 0x3f).toInt64.toUInt64).toInt64).toInt32).toInt8.toInt32)), 0, 0, 0, 0, 0, 0, 0, 0, 0, 0, 0, 0, 0, (nar .byte ((((i2.toUInt64 >>> ((24 : Int32) &&& 0x3f).toInt64.toUInt64).toInt64).toInt32).toInt8.toInt32)), (nar .byte ((((i2.toUInt64 >>> ((32 : Int32) &&& 0x3f).toInt64.toUInt64).toInt64).toInt32).toInt8.toInt32)), (nar .byte ((((i2.toUInt64 >>> ((40 : Int32) &&& 0x3f).toInt64.toUInt64).toInt64).toInt32).toInt8.toInt32))] := O612
      have Z614 : n0 ≤ h609.size := Nat.le_trans Z608 K610.1
      have qo := c_and i3 (3 : Int32) (by decide)
      rw [← hv569, show (3 : Int32).toInt = 3 from rfl] at qo
      have qo8 : (v569 + (8 : Int32)).toInt = v569.toInt + 8 := ixa (by decide) (by omega) (by decide) (by omega)
      refine G.aload C at_122 rfl rfl (n := 124) rfl ?_
      refine G.iload C at_124 rfl (n := 126) rfl ?_
      refine G.lloadN C at_126 rfl (n := 127) rfl ?_
      refine G.callS C (argsL := [(.ref b571), (.int v569), (.long i0)]) (yc := (⟨"com/example/parley/parley/KeySketchReadPinLaw", "put", "([BIJ)V"⟩ : MethodName)) (wd hw 2 rfl) (wd hw 3 rfl) (wd hw 4 rfl) (wd hw 5 rfl) (by decide) (m_put l Z a0 hw b571 v569 i0 [(nar .byte ((i2.toInt32).toInt8.toInt32)), (nar .byte ((((i2.toUInt64 >>> ((8 : Int32) &&& 0x3f).toInt64.toUInt64).toInt64).toInt32).toInt8.toInt32)), (nar .byte ((((i2.toUInt64 >>> ((16 : Int32) &&& 0x3f).toInt64.toUInt64).toInt64).toInt32).toInt8.toInt32)), 0, 0, 0, 0, 0, 0, 0, 0, 0, 0, 0, 0, 0, (nar .byte ((((i2.toUInt64 >>> ((24 : Int32) &&& 0x3f).toInt64.toUInt64).toInt64).toInt32).toInt8.toInt32)), (nar .byte ((((i2.toUInt64 >>> ((32 : Int32) &&& 0x3f).toInt64.toUInt64).toInt64).toInt32).toInt8.toInt32)), (nar .byte ((((i2.toUInt64 >>> ((40 : Int32) &&& 0x3f).toInt64.toUInt64).toInt64).toInt32).toInt8.toInt32))] h609 n0 Z614 O613 g576 (by omega) (by show _ + 8 ≤ ((19 : Nat) : Int); omega)) rfl (by decide) (W := 0) rfl (by decide) (c' := 1) (s' := 19) rfl rfl (by decide) (by decide) at_127 (n := 130) rfl pd0 rfl rfl ?_
      rintro _ h619 ⟨rfl, K615, bs616, O617, bs616_0, bs616_1, bs616_2, bs616_3, bs616_4, bs616_5, bs616_6, bs616_7, bs616_8, bs616_9⟩
      have Z620 : n0 ≤ h619.size := Nat.le_trans Z614 K615.1
      refine G.aload C at_130 rfl rfl (n := 132) rfl ?_
      refine G.iload C at_132 rfl (n := 134) rfl ?_
      refine G.bipush C (v := (8 : Int32)) at_134 (by decide) (n := 136) rfl ?_
      refine G.iadd C at_136 (n := 137) rfl ?_
      refine G.lloadN C at_137 rfl (n := 138) rfl ?_
      refine G.callS C (argsL := [(.ref b571), (.int (v569 + (8 : Int32))), (.long i1)]) (yc := (⟨"com/example/parley/parley/KeySketchReadPinLaw", "put", "([BIJ)V"⟩ : MethodName)) (wd hw 2 rfl) (wd hw 3 rfl) (wd hw 4 rfl) (wd hw 5 rfl) (by decide) (m_put l Z a0 hw b571 (v569 + (8 : Int32)) i1 bs616 h619 n0 Z620 O617 g576 (by omega) (by rw [bs616_0]; show _ + 8 ≤ ((19 : Nat) : Int); omega)) rfl (by decide) (W := 0) rfl (by decide) (c' := 1) (s' := 19) rfl rfl (by decide) (by decide) at_138 (n := 141) rfl pd0 rfl rfl ?_
      rintro _ h625 ⟨rfl, K621, bs622, O623, bs622_0, bs622_1, bs622_2, bs622_3, bs622_4, bs622_5, bs622_6, bs622_7, bs622_8, bs622_9⟩
      have Z626 : n0 ≤ h625.size := Nat.le_trans Z620 K621.1
      refine G.aload C at_141 rfl rfl (n := 143) rfl ?_
      refine G.iload C at_143 rfl (n := 145) rfl ?_
      refine G.iload C at_145 rfl (n := 147) rfl ?_
      refine G.iload C at_147 rfl (n := 149) rfl ?_
      refine G.callS C (argsL := [(.ref b571), (.int v569), (.int (2 : Int32)), (.int (8 : Int32))]) (yc := (⟨"com/example/parley/parley/KeySketch", "read", "([BIII)[J"⟩ : MethodName)) (wd hw 6 rfl) (wd hw 7 rfl) (wd hw 8 rfl) (wd hw 9 rfl) (by decide) (m_read_8_2 l Z a0 hw b571 v569 bs622 (byt i0) (byt (shu i0 8)) (byt (shu i0 16)) (byt (shu i0 24)) (byt (shu i0 32)) (byt (shu i0 40)) (byt (shu i0 48)) (byt (shu i0 56)) (byt i1) (byt (shu i1 8)) (byt (shu i1 16)) (byt (shu i1 24)) (byt (shu i1 32)) (byt (shu i1 40)) (byt (shu i1 48)) (byt (shu i1 56)) i0 (shu i0 8) (shu i0 16) (shu i0 24) (shu i0 32) (shu i0 40) (shu i0 48) (shu i0 56) i1 (shu i1 8) (shu i1 16) (shu i1 24) (shu i1 32) (shu i1 40) (shu i1 48) (shu i1 56) h625 n0 Z626 O623 (by omega) (by rw [bs622_0, bs616_0]; show _ + 16 ≤ ((19 : Nat) : Int); omega) (by rw [bs622_9 _ (Or.inl (by omega))]; exact bs616_1) (by rw [bs622_9 _ (Or.inl (by omega))]; exact bs616_2) (by rw [bs622_9 _ (Or.inl (by omega))]; exact bs616_3) (by rw [bs622_9 _ (Or.inl (by omega))]; exact bs616_4) (by rw [bs622_9 _ (Or.inl (by omega))]; exact bs616_5) (by rw [bs622_9 _ (Or.inl (by omega))]; exact bs616_6) (by rw [bs622_9 _ (Or.inl (by omega))]; exact bs616_7) (by rw [bs622_9 _ (Or.inl (by omega))]; exact bs616_8) (by rw [show v569.toInt.toNat + 8 = (v569 + (8 : Int32)).toInt.toNat by omega]; exact bs622_1) (by rw [show v569.toInt.toNat + 9 = (v569 + (8 : Int32)).toInt.toNat + 1 by omega]; exact bs622_2) (by rw [show v569.toInt.toNat + 10 = (v569 + (8 : Int32)).toInt.toNat + 2 by omega]; exact bs622_3) (by rw [show v569.toInt.toNat + 11 = (v569 + (8 : Int32)).toInt.toNat + 3 by omega]; exact bs622_4) (by rw [show v569.toInt.toNat + 12 = (v569 + (8 : Int32)).toInt.toNat + 4 by omega]; exact bs622_5) (by rw [show v569.toInt.toNat + 13 = (v569 + (8 : Int32)).toInt.toNat + 5 by omega]; exact bs622_6) (by rw [show v569.toInt.toNat + 14 = (v569 + (8 : Int32)).toInt.toNat + 6 by omega]; exact bs622_7) (by rw [show v569.toInt.toNat + 15 = (v569 + (8 : Int32)).toInt.toNat + 7 by omega]; exact bs622_8) (rdA_7 i0) (rdA_6 i0) (rdA_5 i0) (rdA_4 i0) (rdA_3 i0) (rdA_2 i0) (rdA_1 i0) (rdA_0 i0) (rdA_7 i1) (rdA_6 i1) (rdA_5 i1) (rdA_4 i1) (rdA_3 i1) (rdA_2 i1) (rdA_1 i1) (rdA_0 i1)) rfl (by decide) (W := 0) rfl (by decide) (c' := 2) (s' := 21) rfl rfl (by decide) (by decide) at_149 (n := 152) rfl pd1 rfl rfl ?_
      rintro _ h632 ⟨b627, rfl, f628, K629, O630⟩
      have ne633 : b571 ≠ b627 := Nat.ne_of_lt (Nat.lt_of_lt_of_le O623.lt f628)
      have g634 : n0 ≤ b627 := Nat.le_trans Z626 f628
      have O635 := O623.keep K629 nin0
      have Z636 : n0 ≤ h632.size := Nat.le_trans Z626 K629.1
      refine G.astore C at_152 rfl (l' := #[.val (.long i0), .second, .val (.long i1), .second, .val (.long i2), .second, .val (.int i3), .val (.int i4), .val (.int (8 : Int32)), .val (.int v410), .val (.int (2 : Int32)), .val (.int v569), .val (.ref b571), .val (.ref b627), .unset, .unset, .unset, .unset, .unset, .unset, .unset, .unset]) rfl (n := 154) rfl ?_
      refine G.iload C at_154 rfl (n := 156) rfl ?_
      refine G.bipush C (v := (8 : Int32)) at_156 (by decide) (n := 158) rfl ?_
      refine G.icmp_ne C (A := 8) (B := 8) (by decide) (by decide) at_158 (by decide) (by decide) (n := 161) (n' := 165) rfl (fun c158_637 c158_637i => ?_) (fun c158_637 c158_637i => ?_)
      · exact absurd c158_637 (by decide)
      refine G.lloadN C at_161 rfl (n := 162) rfl ?_
      refine G.goto C at_162 (by decide) (n := 170) (by decide) ?_
      refine G.lstore C at_170 (l' := #[.val (.long i0), .second, .val (.long i1), .second, .val (.long i2), .second, .val (.int i3), .val (.int i4), .val (.int (8 : Int32)), .val (.int v410), .val (.int (2 : Int32)), .val (.int v569), .val (.ref b571), .val (.ref b627), .val (.long i0), .second, .unset, .unset, .unset, .unset, .unset, .unset]) rfl (n := 172) rfl ?_
      refine G.iload C at_172 rfl (n := 174) rfl ?_
      refine G.bipush C (v := (8 : Int32)) at_174 (by decide) (n := 176) rfl ?_
      refine G.icmp_ne C (A := 8) (B := 8) (by decide) (by decide) at_176 (by decide) (by decide) (n := 179) (n' := 183) rfl (fun c176_638 c176_638i => ?_) (fun c176_638 c176_638i => ?_)
      · exact absurd c176_638 (by decide)
      refine G.lloadN C at_179 rfl (n := 180) rfl ?_
      refine G.goto C at_180 (by decide) (n := 187) (by decide) ?_
      refine G.lstore C at_187 (l' := #[.val (.long i0), .second, .val (.long i1), .second, .val (.long i2), .second, .val (.int i3), .val (.int i4), .val (.int (8 : Int32)), .val (.int v410), .val (.int (2 : Int32)), .val (.int v569), .val (.ref b571), .val (.ref b627), .val (.long i0), .second, .val (.long i1), .second, .unset, .unset, .unset, .unset]) rfl (n := 189) rfl ?_
      refine G.lloadN C at_189 rfl (n := 190) rfl ?_
      refine G.ldc2 C (v := (4294967295 : Int64)) (wd hw 11 rfl) at_190 (n := 193) rfl ?_
      refine G.land C at_193 (n := 194) rfl ?_
      refine G.lstoreZ C at_194 (l' := fun z => #[.val (.long i0), .second, .val (.long i1), .second, .val (.long i2), .second, .val (.int i3), .val (.int i4), .val (.int (8 : Int32)), .val (.int v410), .val (.int (2 : Int32)), .val (.int v569), .val (.ref b571), .val (.ref b627), .val (.long i0), .second, .val (.long i1), .second, .val (.long z), .second, .unset, .unset]) (fun _ => rfl) (n := 196) rfl ?_
      intro v639 hv639
      refine G.lloadN C at_196 rfl (n := 197) rfl ?_
      refine G.bipush C (v := (32 : Int32)) at_197 (by decide) (n := 199) rfl ?_
      refine G.lushr C at_199 (n := 200) rfl ?_
      refine G.lstoreZ C at_200 (l' := fun z => #[.val (.long i0), .second, .val (.long i1), .second, .val (.long i2), .second, .val (.int i3), .val (.int i4), .val (.int (8 : Int32)), .val (.int v410), .val (.int (2 : Int32)), .val (.int v569), .val (.ref b571), .val (.ref b627), .val (.long i0), .second, .val (.long i1), .second, .val (.long v639), .second, .val (.long z), .second]) (fun _ => rfl) (n := 202) rfl ?_
      intro v640 hv640
      refine G.aload C at_202 rfl rfl (n := 204) rfl ?_
      refine G.arraylengthL C (len := (2 : Int32)) O630 rfl at_204 (n := 205) rfl ?_
      refine G.iload C at_205 rfl (n := 207) rfl ?_
      refine G.icmp_ne C (A := 2) (B := 2) (by decide) (by decide) at_207 (by decide) (by decide) (n := 210) (n' := 278) rfl (fun c207_641 c207_641i => ?_) (fun c207_641 c207_641i => ?_)
      · exact absurd c207_641 (by decide)
      refine G.iload C at_210 rfl (n := 212) rfl ?_
      refine G.iconst C (v := (1 : Int32)) at_212 (by decide) (n := 213) rfl ?_
      refine G.icmp_lt C (A := 2) (B := 1) (by decide) (by decide) at_213 (by decide) (by decide) (n := 216) (n' := 226) rfl (fun c213_642 => ?_) (fun c213_642 => ?_)
      · exact absurd c213_642 (by decide)
      refine G.aload C at_216 rfl rfl (n := 218) rfl ?_
      refine G.iconst C (v := (0 : Int32)) at_218 (by decide) (n := 219) rfl ?_
      refine G.laload C (x := i0) O630 (by decide) rfl at_219 (n := 220) rfl ?_
      refine G.lload C at_220 rfl (n := 222) rfl ?_
      refine G.lcmp_ne C (A := i0.toInt) (B := i0.toInt) rfl rfl at_222 at_223 (by decide) (by decide) (n := 226) (n' := 278) rfl (fun c223_643 c223_643i => ?_) (fun c223_643 c223_643i => ?_)
      · exact absurd rfl c223_643
      refine G.iload C at_226 rfl (n := 228) rfl ?_
      refine G.iconst C (v := (2 : Int32)) at_228 (by decide) (n := 229) rfl ?_
      refine G.icmp_lt C (A := 2) (B := 2) (by decide) (by decide) at_229 (by decide) (by decide) (n := 232) (n' := 242) rfl (fun c229_644 => ?_) (fun c229_644 => ?_)
      · exact absurd c229_644 (by decide)
      refine G.aload C at_232 rfl rfl (n := 234) rfl ?_
      refine G.iconst C (v := (1 : Int32)) at_234 (by decide) (n := 235) rfl ?_
      refine G.laload C (x := i1) O630 (by decide) rfl at_235 (n := 236) rfl ?_
      refine G.lload C at_236 rfl (n := 238) rfl ?_
      refine G.lcmp_ne C (A := i1.toInt) (B := i1.toInt) rfl rfl at_238 at_239 (by decide) (by decide) (n := 242) (n' := 278) rfl (fun c239_645 c239_645i => ?_) (fun c239_645 c239_645i => ?_)
      · exact absurd rfl c239_645
      refine G.iload C at_242 rfl (n := 244) rfl ?_
      refine G.iconst C (v := (3 : Int32)) at_244 (by decide) (n := 245) rfl ?_
      refine G.icmp_lt C (A := 2) (B := 3) (by decide) (by decide) at_245 (by decide) (by decide) (n := 248) (n' := 258) rfl (fun c245_646 => ?_) (fun c245_646 => ?_)
      rotate_left
      · exact absurd c245_646 (by decide)
      refine G.iload C at_258 rfl (n := 260) rfl ?_
      refine G.iconst C (v := (4 : Int32)) at_260 (by decide) (n := 261) rfl ?_
      refine G.icmp_lt C (A := 2) (B := 4) (by decide) (by decide) at_261 (by decide) (by decide) (n := 264) (n' := 274) rfl (fun c261_647 => ?_) (fun c261_647 => ?_)
      rotate_left
      · exact absurd c261_647 (by decide)
      refine G.iconst C (v := (1 : Int32)) at_274 (by decide) (n := 275) rfl ?_
      refine G.goto C at_275 (by decide) (n := 279) (by decide) ?_
      refine G.ireturn C at_279 (rfl) (by simp) (by decide) (by decide) ?_
      exact rfl
set_option maxRecDepth 65536 in
set_option maxHeartbeats 40000000 in
theorem comes_1 {Post : Tables → Env → Array Value → State → Outcome → State → Prop} (hpost : ∀ tb e args s v u, (limb_1_1.after args s (.returned v) u = true ∧ limb_1_2.after args s (.returned v) u = true ∧ True) → FrameEnd s (.returned v) u (Jvm.fieldLocs frame_1_writes args s ++ Jvm.arrayLocs frame_1_arrays args s ++ Jvm.staticLocs frame_1_statics s) 16 128 → Post tb e args s (.returned v) u) :
    ArmFor flags0 classFile x code maxLocals ret World_1 tables_1 room_1 Calls_1 rest_1 Pre_1 Post := by
  intro l hfl _ _ p e ha hc hk s m args below hf hA hF happ hP
  obtain ⟨hcalls, hrest, hpre⟩ := hP
  obtain ⟨-, -, -, hnamed, -, -, -, hat⟩ := (Spec.applies_iff hf).mp happ
  obtain ⟨hg, hn⟩ := and_e (Cond.before_iff.mp (show (Jvm.Cond.and given_1 narrow_1).before args s = true from hpre))
  obtain ⟨k1, k2⟩ := and_e hg
  obtain ⟨w0, w1, w2, w3, w4, rfl⟩ : ∃ w0 w1 w2 w3 w4 : Value, args = #[w0, w1, w2, w3, w4] := by
    have hs : args.size = 5 := by simpa [Cond.value, given_1] using k1
    obtain ⟨L⟩ := args
    match L, hs with
    | [w0, w1, w2, w3, w4], _ => exact ⟨w0, w1, w2, w3, w4, rfl⟩
  have hw := fun d (hd : d ∈ tables_1) => atoms_spec (ws := Jvm.Cond.code x code maxLocals ret :: tables_1) hat d (List.mem_cons_of_mem _ hd)
  have hfit : Fit s := fun {y c} hc i hi => by
    obtain ⟨ha, rfl⟩ := Array.getElem?_eq_some_iff.mp hc
    have q := List.all_eq_true.mp ((Array.all_eq_true_iff_forall_mem.mp hF) _ (Array.getElem_mem ha)) i (List.mem_range.mpr hi)
    simpa [Array.getElem?_eq_getElem hi] using q
  obtain ⟨u0, k2⟩ := and_e k2
  obtain ⟨i0, e0⟩ := isL_v u0
  obtain rfl : w0 = (.long i0) := Option.some.inj e0
  obtain ⟨u1, k2⟩ := and_e k2
  obtain ⟨i1, e1⟩ := isL_v u1
  obtain rfl : w1 = (.long i1) := Option.some.inj e1
  obtain ⟨u2, k2⟩ := and_e k2
  obtain ⟨i2, e2⟩ := isL_v u2
  obtain rfl : w2 = (.long i2) := Option.some.inj e2
  obtain ⟨u3, k2⟩ := and_e k2
  obtain ⟨i3, e3⟩ := is_v u3
  obtain rfl : w3 = (.int i3) := Option.some.inj e3
  have u4 := k2
  obtain ⟨i4, e4⟩ := is_v u4
  obtain rfl : w4 = (.int i4) := Option.some.inj e4
  obtain ⟨n, o, h1, h2, h3, _, L, rfl, ⟨N, rfl⟩, hq⟩ := m_law l s _ hw i0 i1 i2 i3 i4 s.heap s.heap.size (Nat.le_refl _)  tables_1 p e ha hc hk s m _ below hf ((Spec.applies_iff_loose hf).mp happ).1 ⟨rfl, State.Warmed39.refl s, rfl⟩ trivial
  refine ⟨n, _, h1, h2, h3, hpost _ _ _ _ _ _ ⟨Cond.after_iff.mpr rfl, Cond.after_iff.mpr (eq_i res_at (Term.int_eval (1)) rfl), trivial⟩ ⟨hq.1, hq.2.1, (hq.2.2.sift fun y hy => Or.inr (N y hy)).mono (by decide) (by decide)⟩⟩
theorem main_1_1 : Claimed_1_1 := comes_1 fun _ _ _ _ _ _ h hF => ⟨h.1, hF⟩
theorem main_1_2 : Claimed_1_2 := comes_1 fun _ _ _ _ _ _ h hF => ⟨h.2.1, hF⟩
end Jvm.Pilot.@@N@@
namespace Jvm.Pilot.@@N@@
open Jvm Jvm.ClassFile Sem Op Lib Jvm.Free Jvm.Stand Jvm.Pilot.@@N@@.Jvm.D
/-! MADE BY PROGRAM (witnessworld.py) out of the Statement's table words and the real class files: 11 classes; the members and pool entries that the words name. The judged class is class 1, her method 1. -/
namespace start1
open Jvm.ClassFile
def u (s : String) : CpInfo := .utf8 (stringToUtf16 s)
/-- a pool by its gaps: so many unusable entries, then the entry; so many at the end -/
def gap : Nat → List CpInfo → List CpInfo
  | 0, r => r
  | n + 1, r => .unusable :: gap n r
def poolList (es : List (Nat × CpInfo)) (last : Nat) : List CpInfo := es.foldr (fun e r => gap e.1 (e.2 :: r)) (gap last [])
def pool (es : List (Nat × CpInfo)) (last : Nat) : Array CpInfo := ⟨poolList es last⟩
def fileOf (pool : Array CpInfo) (this : Nat) (attrs : Array Attribute := #[]) (ms : Array MethodInfo := #[]) (fl : Nat := 33) (sup : Nat := 0) (ifs : Array Nat := #[]) (fds : Array FieldInfo := #[]) : ClassFile where
  minorVersion := 0
  majorVersion := 65
  constantPool := pool
  accessFlags := fl
  thisClass := this
  superClass := sup
  interfaces := ifs
  fields := fds
  methods := ms
  attributes := attrs
def plain (name : String) (sup : Option ClassId) : Class where
  name := name
  kind := .ordinary
  loader := none
  accessFlags := 33
  super := sup
  interfaces := #[]
  cf := none
  fields := #[]
  methods := #[]
  instanceTypes := #[]
  staticTypes := #[]
  resolved := #[]
  callSites := []
  init := .initialized
  statics := none
  mirror := none

def pool0 : Array CpInfo := pool [(5, u "<init>"), (0, u "()V"), (1, .class_ 10), (1, u "java/lang/Object")] 113

def k0m0 : Method := { name := "<init>", desc := "()V", sig := { parameters := [], returnType := none }, accessFlags := 1, code := none }
/-- java/lang/Object -/
def k0 : Class := { plain "java/lang/Object" none with
  accessFlags := 33
  interfaces := #[]
  cf := some (fileOf pool0 8 #[] #[{ accessFlags := 1, nameIndex := 5, descriptorIndex := 6, attributes := #[] }] 33 0 #[] #[])
  fields := #[]
  methods := #[k0m0]
  instanceTypes := #[]
  staticTypes := #[]
  resolved := Array.replicate 124 none
  statics := none }

def pool1 : Array CpInfo := pool [(2, .class_ 4), (1, u "java/lang/Object"), (0, u "<init>"), (0, u "()V"), (0, .integer 2147483647), (0, .methodref 9 10), (0, .class_ 11), (0, .nameAndType 12 13), (0, u "com/example/parley/parley/KeySketchReadPinLaw"), (0, u "put"), (0, u "([BIJ)V"), (0, .methodref 15 16), (0, .class_ 17), (0, .nameAndType 18 19), (0, u "com/example/parley/parley/KeySketch"), (0, u "read"), (0, u "([BIII)[J"), (0, .long 4294967295), (3, u "law"), (0, u "(JJJII)Z")] 7

def k1m0 : Method := { name := "<init>", desc := "()V", sig := { parameters := [], returnType := none }, accessFlags := 2, code := none }
def k1c1 : Code := { maxStack := 5, maxLocals := 22, code := code, exceptionTable := #[], attributes := #[] }
def k1m1 : Method := { name := "law", desc := "(JJJII)Z", sig := { parameters := [.long, .long, .long, .int, .int], returnType := some .boolean }, accessFlags := 9, code := some k1c1 }
def k1c2 : Code := { maxStack := 5, maxLocals := 4, code := method_3_code, exceptionTable := #[], attributes := #[] }
def k1m2 : Method := { name := "put", desc := "([BIJ)V", sig := { parameters := [(.array .byte), .int, .long], returnType := none }, accessFlags := 10, code := some k1c2 }
/-- com/example/parley/parley/KeySketchReadPinLaw -/
def k1 : Class := { plain "com/example/parley/parley/KeySketchReadPinLaw" (some 0) with
  accessFlags := 49
  interfaces := #[]
  cf := some (fileOf pool1 9 #[] #[{ accessFlags := 2, nameIndex := 5, descriptorIndex := 6, attributes := #[] }, { accessFlags := 9, nameIndex := 24, descriptorIndex := 25, attributes := #[] }, { accessFlags := 10, nameIndex := 12, descriptorIndex := 13, attributes := #[] }] 49 2 #[] #[])
  fields := #[]
  methods := #[k1m0, k1m1, k1m2]
  instanceTypes := #[]
  staticTypes := #[]
  resolved := Array.replicate 33 none
  statics := none }

def pool2 : Array CpInfo := pool [(2, .class_ 4), (1, u "java/lang/Object"), (0, u "<init>"), (0, u "()V"), (3, .class_ 12), (1, u "com/example/parley/parley/KeySketch"), (0, u "FIELDS"), (0, u "Ljava/util/List;"), (181, u "MAX_CAPACITY"), (0, u "I"), (16, u "read"), (0, u "([BIII)[J")] 46

def k2m0 : Method := { name := "<init>", desc := "()V", sig := { parameters := [], returnType := none }, accessFlags := 2, code := none }
def k2c1 : Code := { maxStack := 8, maxLocals := 7, code := prog_15_method_11_code, exceptionTable := #[], attributes := #[] }
def k2m1 : Method := { name := "read", desc := "([BIII)[J", sig := { parameters := [(.array .byte), .int, .int, .int], returnType := some (.array .long) }, accessFlags := 9, code := some k2c1 }
/-- com/example/parley/parley/KeySketch -/
def k2 : Class := { plain "com/example/parley/parley/KeySketch" (some 0) with
  accessFlags := 49
  interfaces := #[]
  cf := some (fileOf pool2 10 #[] #[{ accessFlags := 2, nameIndex := 5, descriptorIndex := 6, attributes := #[] }, { accessFlags := 9, nameIndex := 214, descriptorIndex := 215, attributes := #[] }] 49 2 #[] #[{ accessFlags := 25, nameIndex := 196, descriptorIndex := 197, attributes := #[] }, { accessFlags := 26, nameIndex := 13, descriptorIndex := 14, attributes := #[] }])
  fields := #[{ name := "MAX_CAPACITY", type := .int, accessFlags := 25, slot := 0, constantValue := 0 }, { name := "FIELDS", type := (.object "java/util/List"), accessFlags := 26, slot := 1, constantValue := 0 }]
  methods := #[k2m0, k2m1]
  instanceTypes := #[]
  staticTypes := #[.int, (.object "java/util/List")]
  resolved := Array.replicate 262 none
  statics := none }

def pool3 : Array CpInfo := pool [(1, u "java/lang/Cloneable"), (0, .class_ 1), (0, u "java/lang/Object"), (0, .class_ 3)] 3

/-- java/lang/Cloneable -/
def k3 : Class := { plain "java/lang/Cloneable" (some 0) with
  accessFlags := 1537
  interfaces := #[]
  cf := some (fileOf pool3 2 #[] #[] 1537 4 #[] #[])
  fields := #[]
  methods := #[]
  instanceTypes := #[]
  staticTypes := #[]
  resolved := Array.replicate 8 none
  statics := none }

def pool4 : Array CpInfo := pool [(1, u "java/io/Serializable"), (0, .class_ 1), (0, u "java/lang/Object"), (0, .class_ 3)] 3

/-- java/io/Serializable -/
def k4 : Class := { plain "java/io/Serializable" (some 0) with
  accessFlags := 1537
  interfaces := #[]
  cf := some (fileOf pool4 2 #[] #[] 1537 4 #[] #[])
  fields := #[]
  methods := #[]
  instanceTypes := #[]
  staticTypes := #[]
  resolved := Array.replicate 8 none
  statics := none }

/-- the primitive byte -/
def k5 : Class := { plain "byte" none with kind := .primitive 'B', accessFlags := 0x411 }
/-- [B -/
def k6 : Class := { plain "[B" (some 0) with kind := .array 5 .byte, interfaces := #[3, 4], accessFlags := 1041 }

/-- the primitive int -/
def k7 : Class := { plain "int" none with kind := .primitive 'I', accessFlags := 0x411 }
/-- [I -/
def k8 : Class := { plain "[I" (some 0) with kind := .array 7 .int, interfaces := #[3, 4], accessFlags := 1041 }

/-- the primitive long -/
def k9 : Class := { plain "long" none with kind := .primitive 'J', accessFlags := 0x411 }
/-- [J -/
def k10 : Class := { plain "[J" (some 0) with kind := .array 9 .long, interfaces := #[3, 4], accessFlags := 1041 }

def heap : Heap := #[]
def classes : Array Class := #[k0, k1, k2, k3, k4, k5, k6, k7, k8, k9, k10]
def interned : List (Array UInt16 × Addr) := []
def slotsUsed : Nat := 0
def theMethod : MethodId := ⟨1, 1⟩
def args0 : Array Value := #[.long 5, .long 6, .long 7, .int 1, .int 3]
def aboutOver (below : List Frame) : State where
  vm := { classes := classes, interned := interned.toArray }
  heap := heap
  slotsUsed := slotsUsed
  threads := #[{ frames := .invoking theMethod args0 :: below }]
def below0 : List Frame := [.native { method := ⟨0, 0⟩, args := #[] }]
def about1 : State := aboutOver below0
def p0 : Program := .bare "" "" ""
def e0 : Env := launch0.env 0 0 0
theorem w_frames : about1.frames = Frame.invoking theMethod args0 :: below0 := rfl
set_option maxRecDepth 65536 in
theorem w_args : argsFit about1.vm theMethod args0 = true := by decide +kernel
set_option maxRecDepth 65536 in
theorem w_heap : heapFits about1 = true := by decide +kernel
set_option maxRecDepth 65536 in
theorem w_runnable : about1.curStatus? = some .runnable := by decide +kernel
set_option maxRecDepth 65536 in
theorem w_alone : about1.alone = true := by decide +kernel
set_option maxRecDepth 65536 in
theorem w_named : about1.methodNamed? x = some theMethod := by decide +kernel
set_option maxRecDepth 65536 in
theorem w_hears : about1.hears theMethod below0 = true := by decide +kernel
set_option maxRecDepth 65536 in
theorem w_ripe : about1.ripe theMethod args0 below0 = true := by decide +kernel
theorem w_running : about1.status = .running := rfl
set_option maxRecDepth 65536 in
theorem w_room : about1.hasRoom e0.platform room_1 = true :=
  launch0.hasRoom_least _ room_1 (by decide +kernel) (by decide +kernel) (by decide +kernel) (by decide +kernel) (by decide +kernel) (by decide +kernel)
theorem allAtoms_all (ts : List Jvm.Cond) (a : Array Jvm.Value) (st : Jvm.State) : (allAtoms ts).before a st = ts.all (fun c => c.before a st) := by
  induction ts with
  | nil => rfl
  | cons c t ih =>
    show (Jvm.Cond.and c (allAtoms t)).before a st = _
    rw [Jvm.Cond.before_and, ih, List.all_cons]
def words1 : List Jvm.Cond := Jvm.Cond.code x code maxLocals ret :: tables_1
/-- a 'code' word, met by the world's own term for the bytes: nothing is compared byte by byte -/
theorem code_word {y : MethodName} {bytes : ByteArray} {mx : Nat} {rt : Option FieldType} {a : Array Value} {s : State} {m : MethodId} {meth : Method} {c : Code} (h1 : s.methodNamed? y = some m) (h2 : s.vm.method? m = some meth) (h3 : meth.code = some c) (h4 : c.code = bytes)
    (h5 : (c.maxLocals == mx && c.exceptionTable.isEmpty && decide (c.maxStack ≤ mostOperands) && decide (meth.sig.returnType = rt) && !meth.locks && decide (parseMethodDescriptor y.desc = some meth.sig)) = true) : (Jvm.Cond.code y bytes mx rt).before a s = true := by
  simp only [Bool.and_eq_true, beq_iff_eq, Bool.not_eq_true', decide_eq_true_eq] at h5
  obtain ⟨⟨⟨⟨⟨g1, g2⟩, g3⟩, g4⟩, g5⟩, g6⟩ := h5
  simp [Cond.before, Cond.holds, Cond.value, h1, h2, h3, h4, g1, g2, g3, g4, g5, g6]
def isCode : Jvm.Cond → Bool
  | .code _ _ _ _ => true
  | _ => false
theorem all_split {L : List Jvm.Cond} {P : Jvm.Cond → Bool} (h1 : L.all (fun c => isCode c || P c) = true) (h2 : ∀ c ∈ L.filter isCode, P c = true) : L.all P = true := by
  refine List.all_eq_true.mpr fun c hc => ?_
  have h := List.all_eq_true.mp h1 c hc
  rcases Bool.eq_false_or_eq_true (isCode c) with hi | hi
  · exact h2 c (List.mem_filter.mpr ⟨hc, hi⟩)
  · simpa [hi] using h
set_option maxRecDepth 65536 in
theorem w_c0 : (Jvm.Cond.code x code maxLocals ret).before args0 about1 = true := code_word (m := ⟨1, 1⟩) (meth := k1m1) (c := k1c1) (by decide +kernel) rfl rfl rfl (by decide +kernel)
set_option maxRecDepth 65536 in
theorem w_c1 : (Jvm.Cond.code ({ cls := "com/example/parley/parley/KeySketchReadPinLaw", name := "put", desc := "([BIJ)V" } : Jvm.MethodName) method_3_code (4 : Nat) (Option.none : Option Jvm.ClassFile.FieldType)).before args0 about1 = true := code_word (m := ⟨1, 2⟩) (meth := k1m2) (c := k1c2) (by decide +kernel) rfl rfl rfl (by decide +kernel)
set_option maxRecDepth 65536 in
theorem w_c2 : (Jvm.Cond.code ({ cls := "com/example/parley/parley/KeySketch", name := "read", desc := "([BIII)[J" } : Jvm.MethodName) prog_15_method_11_code (7 : Nat) (Option.some (Jvm.ClassFile.FieldType.array Jvm.ClassFile.FieldType.long))).before args0 about1 = true := code_word (m := ⟨2, 1⟩) (meth := k2m1) (c := k2c1) (by decide +kernel) rfl rfl rfl (by decide +kernel)
def codes1 : List Jvm.Cond := [Jvm.Cond.code x code maxLocals ret, Jvm.Cond.code ({ cls := "com/example/parley/parley/KeySketchReadPinLaw", name := "put", desc := "([BIJ)V" } : Jvm.MethodName) method_3_code (4 : Nat) (Option.none : Option Jvm.ClassFile.FieldType), Jvm.Cond.code ({ cls := "com/example/parley/parley/KeySketch", name := "read", desc := "([BIII)[J" } : Jvm.MethodName) prog_15_method_11_code (7 : Nat) (Option.some (Jvm.ClassFile.FieldType.array Jvm.ClassFile.FieldType.long))]
set_option maxRecDepth 65536 in
theorem codes_eq : words1.filter isCode = codes1 := rfl
theorem w_codes : ∀ c ∈ words1.filter isCode, c.before args0 about1 = true := by
  rw [codes_eq]
  intro c hc
  simp only [codes1, List.mem_cons, List.not_mem_nil, or_false] at hc
  rcases hc with rfl | rfl | rfl
  · exact w_c0
  · exact w_c1
  · exact w_c2
set_option maxRecDepth 65536 in
theorem w_t1 : words1.all (fun c => isCode c || c.before args0 about1) = true := by decide +kernel
theorem w_tables : (allAtoms (Jvm.Cond.code x code maxLocals ret :: tables_1)).before args0 about1 = true := by
  rw [allAtoms_all]
  show words1.all (fun c => c.before args0 about1) = true
  refine all_split ?_ w_codes
  rw [w_t1]
set_option maxRecDepth 65536 in
theorem w_case : (Jvm.Cond.and given_1 narrow_1).before args0 about1 = true := by decide +kernel
theorem w_applies : (headSpec (Jvm.Cond.code x code maxLocals ret :: tables_1) room_1).applies x e0.platform about1 = true :=
  (Spec.applies_iff w_frames).mpr ⟨w_running, w_runnable, w_alone, w_named, w_hears, w_ripe, w_room, w_tables⟩
theorem atStart : AtStart classFile x code maxLocals ret World_1 tables_1 room_1 Calls_1 rest_1 Pre_1 launch0 p0 e0 about1 theMethod args0 below0 :=
  ⟨lists_1, trivial, launch0.admits_env _ _ _, launch0.least_env, fairChoices_fair.cas, fairChoices_fair.clock, w_frames, w_args, w_heap, w_applies, trivial, trivial, w_case⟩
end start1
theorem witness_1 : WitnessClaimed_1 := ⟨start1.p0, start1.e0, start1.about1, start1.theMethod, start1.args0, start1.below0, start1.atStart⟩
end Jvm.Pilot.@@N@@
