import JvmDerived
import JvmDerived.Pilot.@@N@@Statement
import JvmDerived.Pilot.@@N@@Code
set_option linter.unusedVariables false
set_option linter.unusedSimpArgs false
namespace Jvm.Own
open Jvm Jvm.ClassFile Sem Op Lib Jvm.Free Jvm.Stand Jvm.LawKit Jvm.RoadKit
def b2i (b : Bool) : Int32 := if b then 1 else 0
theorem wd {ws : List Jvm.Cond} {a0 : Array Value} {Z : State} (hw : ∀ d ∈ ws, d.before a0 Z = true) (i : Nat) {d : Jvm.Cond} (h : ws[i]? = some d) : d.before a0 Z = true := hw d (List.mem_of_getElem? h)
/-- a contract of a body: from the heap h with these arguments it returns, writes nothing below n0, and Q holds of what it returns and of the heap -/
def Met (l : Launch) (Z : State) (y : MethodName) (bytes : ByteArray) (maxL : Nat) (ret : Option FieldType) (rm : Room) (as' : Array Value) (h : Heap) (n0 : Nat) (Q : Option Value → Heap → Prop) : Prop :=
  ∀ ws, MetFree l y (head1 (Jvm.Cond.code y bytes maxL ret :: ws) rm) (fun a U => a = as' ∧ Z.Warmed39 U.vm ∧ U.heap = h) (fun _ _ _ _ _ => True) (fun _ U o U' => ∃ v L, o = .returned v ∧ (Fr n0 L ∧ Q v U'.heap) ∧ FrameEnd U o U' L rm.cells rm.slots)
def Cx (p : Program) (s : State) (m : MethodId) (meth : Method) (c : Code) (Z : State) (y : MethodName) (bytes : ByteArray) (maxL : Nat) (ret : Option FieldType) : Prop :=
  p.tables.exec = Jvm.exec ∧ Z.Warmed39 s.vm ∧ s.vm.findClass y.cls = some m.cls ∧ meth.name = y.name ∧ c.code = bytes ∧ c.maxLocals = maxL ∧ meth.sig.returnType = ret ∧ meth.locks = false
def Go (p : Program) (l : Launch) (e : Env) (R : Room) (s : State) (m : MethodId) (args : Array Value) (below : List Frame) (meth : Method) (c : Code) (n0 : Nat) (Q : Option Value → Heap → Prop) (cells slots : Nat) (h : Heap) (f : JFrame) : Prop :=
  ∀ T locs, Stand p l e R s m args below meth c T locs cells slots → Fr n0 locs → T.heap = h → ∃ t o, Steps p.tables e below (T.setTop f) t ∧ t.status = .running ∧ Ended t below o ∧ ∃ v L, o = .returned v ∧ (Fr n0 L ∧ Q v t.heap) ∧ FrameEnd s o t L R.cells R.slots
section
variable {p : Program} {l : Launch} {e : Env} {R : Room} {s : State} {m : MethodId} {args : Array Value} {below : List Frame} {meth : Method} {c : Code} {Z : State} {y : MethodName} {bytes : ByteArray} {maxL : Nat} {ret : Option FieldType} {n0 : Nat} {Q : Option Value → Heap → Prop} {cells slots : Nat} {h : Heap} {pc n n' : Nat} {Ls : Array Slot} {st : List Value} {a0 : Array Value}
theorem Cx.x (C : Cx p s m meth c Z y bytes maxL ret) : p.tables.exec = Jvm.exec := C.1
theorem Cx.z (C : Cx p s m meth c Z y bytes maxL ret) : Z.Warmed39 s.vm := C.2.1
theorem Cx.own (C : Cx p s m meth c Z y bytes maxL ret) : s.vm.findClass y.cls = some m.cls := C.2.2.1
theorem Cx.nm (C : Cx p s m meth c Z y bytes maxL ret) : meth.name = y.name := C.2.2.2.1
theorem Cx.by (C : Cx p s m meth c Z y bytes maxL ret) : c.code = bytes := C.2.2.2.2.1
theorem Cx.ml (C : Cx p s m meth c Z y bytes maxL ret) : c.maxLocals = maxL := C.2.2.2.2.2.1
theorem Cx.rt (C : Cx p s m meth c Z y bytes maxL ret) : meth.sig.returnType = ret := C.2.2.2.2.2.2.1
theorem Cx.locks (C : Cx p s m meth c Z y bytes maxL ret) : meth.locks = false := C.2.2.2.2.2.2.2
theorem Met.of {rm : Room} {as' : Array Value} {Ls0 : Array Slot} (hp : plainFor y = true) (he : ∀ m, entryFrame m as' maxL = mkF m 0 Ls0 [])
    (body : ∀ p e s m args below meth c, Cx p s m meth c Z y bytes maxL ret → Go p l e rm s m args below meth c n0 Q 0 0 h (mkF m 0 Ls0 [])) : Met l Z y bytes maxL ret rm as' h n0 Q := by
  intro ws
  refine MetFree.of_bodySF hp hisR ?_
  intro p e s m args below meth c s₁ Bd hml0 hP hK
  obtain ⟨rfl, hZ, hh⟩ := hP
  have C : Cx p s m meth c Z y bytes maxL ret := ⟨Bd.exec, hZ, findClass_of_methodNamed Bd.named, (name_of_methodNamed Bd.named Bd.method).1, Bd.bytes, hml0, Bd.returns, Bd.notSynchronized⟩
  have X0 : Stand p l e rm s m args below meth c s₁ [] 0 0 := Stand.of_body Bd
  have e0 : s₁.heap = h := by rw [← hh, Bd.state]; rfl
  obtain ⟨t, o, st, r⟩ := body p e s m args below meth c C s₁ [] X0 (Fr.nil n0) e0
  exact ⟨t, o, castTop (he m) st, r⟩
theorem Met.weaken {rm : Room} {as' : Array Value} {Q' : Option Value → Heap → Prop} (M : Met l Z y bytes maxL ret rm as' h n0 Q) (q : ∀ v h', Q v h' → Q' v h') : Met l Z y bytes maxL ret rm as' h n0 Q' := by
  intro ws p e ha hc hk s m args below hf happ hP hK
  obtain ⟨n, o, h1, h2, h3, v, L, h4, h5, h6⟩ := M ws p e ha hc hk s m args below hf happ hP hK
  exact ⟨n, o, h1, h2, h3, v, L, h4, ⟨h5.1, q _ _ h5.2⟩, h6⟩
theorem Go.via {f f' : JFrame} (hs : ∀ T locs, Stand p l e R s m args below meth c T locs cells slots → T.heap = h → ∀ t, Steps p.tables e below (T.setTop f') t → Steps p.tables e below (T.setTop f) t)
    (k : Go p l e R s m args below meth c n0 Q cells slots h f') : Go p l e R s m args below meth c n0 Q cells slots h f := fun T locs X N q => by
  obtain ⟨t, o, st, r⟩ := k T locs X N q
  exact ⟨t, o, hs T locs X q t st, r⟩
theorem Go.mono {f : JFrame} {cells' slots' : Nat} (h1 : cells ≤ cells') (h2 : slots ≤ slots') (k : Go p l e R s m args below meth c n0 Q cells' slots' h f) : Go p l e R s m args below meth c n0 Q cells slots h f := fun T locs X N q =>
  k T locs ⟨X.admits, X.cas, X.clock, X.frames, X.room, X.hears, X.method, X.code, X.here, X.tail, X.warmed, X.limits, X.bytes, X.same.mono h1 h2⟩ N q
theorem Go.cast {f f' : JFrame} (q : f = f') (k : Go p l e R s m args below meth c n0 Q cells slots h f') : Go p l e R s m args below meth c n0 Q cells slots h f := q ▸ k

theorem G.iadd (C : Cx p s m meth c Z y bytes maxL ret) {x1 x2 : Int32} (hd : decode bytes pc = .ok (.iadd, 1))  (hn : pc + 1 = n) (k : Go p l e R s m args below meth c n0 Q cells slots h (mkF m n Ls (.int (x1 + x2) :: st))) : Go p l e R s m args below meth c n0 Q cells slots h (mkF m pc Ls (.int x2 :: .int x1 :: st)) := by
  subst hn
  exact Go.via (fun T locs X _ t q => XS.iadd X.here C.x rfl (hb C.by hd) rfl q) k
theorem G.isub (C : Cx p s m meth c Z y bytes maxL ret) {x1 x2 : Int32} (hd : decode bytes pc = .ok (.isub, 1))  (hn : pc + 1 = n) (k : Go p l e R s m args below meth c n0 Q cells slots h (mkF m n Ls (.int (x1 - x2) :: st))) : Go p l e R s m args below meth c n0 Q cells slots h (mkF m pc Ls (.int x2 :: .int x1 :: st)) := by
  subst hn
  exact Go.via (fun T locs X _ t q => XS.isub X.here C.x rfl (hb C.by hd) rfl q) k
theorem G.imul (C : Cx p s m meth c Z y bytes maxL ret) {x1 x2 : Int32} (hd : decode bytes pc = .ok (.imul, 1))  (hn : pc + 1 = n) (k : Go p l e R s m args below meth c n0 Q cells slots h (mkF m n Ls (.int (x1 * x2) :: st))) : Go p l e R s m args below meth c n0 Q cells slots h (mkF m pc Ls (.int x2 :: .int x1 :: st)) := by
  subst hn
  exact Go.via (fun T locs X _ t q => XS.imul X.here C.x rfl (hb C.by hd) rfl q) k
theorem G.iand (C : Cx p s m meth c Z y bytes maxL ret) {x1 x2 : Int32} (hd : decode bytes pc = .ok (.iand, 1))  (hn : pc + 1 = n) (k : Go p l e R s m args below meth c n0 Q cells slots h (mkF m n Ls (.int (x1 &&& x2) :: st))) : Go p l e R s m args below meth c n0 Q cells slots h (mkF m pc Ls (.int x2 :: .int x1 :: st)) := by
  subst hn
  exact Go.via (fun T locs X _ t q => XS.iand X.here C.x rfl (hb C.by hd) rfl q) k
theorem G.ior (C : Cx p s m meth c Z y bytes maxL ret) {x1 x2 : Int32} (hd : decode bytes pc = .ok (.ior, 1))  (hn : pc + 1 = n) (k : Go p l e R s m args below meth c n0 Q cells slots h (mkF m n Ls (.int (x1 ||| x2) :: st))) : Go p l e R s m args below meth c n0 Q cells slots h (mkF m pc Ls (.int x2 :: .int x1 :: st)) := by
  subst hn
  exact Go.via (fun T locs X _ t q => XS.ior X.here C.x rfl (hb C.by hd) rfl q) k
theorem G.ixor (C : Cx p s m meth c Z y bytes maxL ret) {x1 x2 : Int32} (hd : decode bytes pc = .ok (.ixor, 1))  (hn : pc + 1 = n) (k : Go p l e R s m args below meth c n0 Q cells slots h (mkF m n Ls (.int (x1 ^^^ x2) :: st))) : Go p l e R s m args below meth c n0 Q cells slots h (mkF m pc Ls (.int x2 :: .int x1 :: st)) := by
  subst hn
  exact Go.via (fun T locs X _ t q => XS.ixor X.here C.x rfl (hb C.by hd) rfl q) k
theorem G.ladd (C : Cx p s m meth c Z y bytes maxL ret) {x1 x2 : Int64} (hd : decode bytes pc = .ok (.ladd, 1))  (hn : pc + 1 = n) (k : Go p l e R s m args below meth c n0 Q cells slots h (mkF m n Ls (.long (x1 + x2) :: st))) : Go p l e R s m args below meth c n0 Q cells slots h (mkF m pc Ls (.long x2 :: .long x1 :: st)) := by
  subst hn
  exact Go.via (fun T locs X _ t q => XS.ladd X.here C.x rfl (hb C.by hd) rfl q) k
theorem G.lsub (C : Cx p s m meth c Z y bytes maxL ret) {x1 x2 : Int64} (hd : decode bytes pc = .ok (.lsub, 1))  (hn : pc + 1 = n) (k : Go p l e R s m args below meth c n0 Q cells slots h (mkF m n Ls (.long (x1 - x2) :: st))) : Go p l e R s m args below meth c n0 Q cells slots h (mkF m pc Ls (.long x2 :: .long x1 :: st)) := by
  subst hn
  exact Go.via (fun T locs X _ t q => XS.lsub X.here C.x rfl (hb C.by hd) rfl q) k
theorem G.lmul (C : Cx p s m meth c Z y bytes maxL ret) {x1 x2 : Int64} (hd : decode bytes pc = .ok (.lmul, 1))  (hn : pc + 1 = n) (k : Go p l e R s m args below meth c n0 Q cells slots h (mkF m n Ls (.long (x1 * x2) :: st))) : Go p l e R s m args below meth c n0 Q cells slots h (mkF m pc Ls (.long x2 :: .long x1 :: st)) := by
  subst hn
  exact Go.via (fun T locs X _ t q => XS.lmul X.here C.x rfl (hb C.by hd) rfl q) k
theorem G.land (C : Cx p s m meth c Z y bytes maxL ret) {x1 x2 : Int64} (hd : decode bytes pc = .ok (.land, 1))  (hn : pc + 1 = n) (k : Go p l e R s m args below meth c n0 Q cells slots h (mkF m n Ls (.long (x1 &&& x2) :: st))) : Go p l e R s m args below meth c n0 Q cells slots h (mkF m pc Ls (.long x2 :: .long x1 :: st)) := by
  subst hn
  exact Go.via (fun T locs X _ t q => XS.land X.here C.x rfl (hb C.by hd) rfl q) k
theorem G.lor (C : Cx p s m meth c Z y bytes maxL ret) {x1 x2 : Int64} (hd : decode bytes pc = .ok (.lor, 1))  (hn : pc + 1 = n) (k : Go p l e R s m args below meth c n0 Q cells slots h (mkF m n Ls (.long (x1 ||| x2) :: st))) : Go p l e R s m args below meth c n0 Q cells slots h (mkF m pc Ls (.long x2 :: .long x1 :: st)) := by
  subst hn
  exact Go.via (fun T locs X _ t q => XS.lor X.here C.x rfl (hb C.by hd) rfl q) k
theorem G.lxor (C : Cx p s m meth c Z y bytes maxL ret) {x1 x2 : Int64} (hd : decode bytes pc = .ok (.lxor, 1))  (hn : pc + 1 = n) (k : Go p l e R s m args below meth c n0 Q cells slots h (mkF m n Ls (.long (x1 ^^^ x2) :: st))) : Go p l e R s m args below meth c n0 Q cells slots h (mkF m pc Ls (.long x2 :: .long x1 :: st)) := by
  subst hn
  exact Go.via (fun T locs X _ t q => XS.lxor X.here C.x rfl (hb C.by hd) rfl q) k
theorem G.idiv (C : Cx p s m meth c Z y bytes maxL ret) {x1 x2 : Int32} (hd : decode bytes pc = .ok (.idiv, 1)) (hy : x2 ≠ 0) (hn : pc + 1 = n) (k : Go p l e R s m args below meth c n0 Q cells slots h (mkF m n Ls (.int (x1 / x2) :: st))) : Go p l e R s m args below meth c n0 Q cells slots h (mkF m pc Ls (.int x2 :: .int x1 :: st)) := by
  subst hn
  exact Go.via (fun T locs X _ t q => XS.idiv X.here C.x rfl (hb C.by hd) rfl hy q) k
theorem G.ishl (C : Cx p s m meth c Z y bytes maxL ret) {x1 x2 : Int32} (hd : decode bytes pc = .ok (.ishl, 1))  (hn : pc + 1 = n) (k : Go p l e R s m args below meth c n0 Q cells slots h (mkF m n Ls (.int (x1 <<< (x2 &&& 31)) :: st))) : Go p l e R s m args below meth c n0 Q cells slots h (mkF m pc Ls (.int x2 :: .int x1 :: st)) := by
  subst hn
  exact Go.via (fun T locs X _ t q => XS.ishl X.here C.x rfl (hb C.by hd) rfl q) k
theorem G.ishr (C : Cx p s m meth c Z y bytes maxL ret) {x1 x2 : Int32} (hd : decode bytes pc = .ok (.ishr, 1))  (hn : pc + 1 = n) (k : Go p l e R s m args below meth c n0 Q cells slots h (mkF m n Ls (.int (x1 >>> (x2 &&& 31)) :: st))) : Go p l e R s m args below meth c n0 Q cells slots h (mkF m pc Ls (.int x2 :: .int x1 :: st)) := by
  subst hn
  exact Go.via (fun T locs X _ t q => XS.ishr X.here C.x rfl (hb C.by hd) rfl q) k
theorem G.iushr (C : Cx p s m meth c Z y bytes maxL ret) {x1 x2 : Int32} (hd : decode bytes pc = .ok (.iushr, 1))  (hn : pc + 1 = n) (k : Go p l e R s m args below meth c n0 Q cells slots h (mkF m n Ls (.int ((x1.toUInt32 >>> (x2 &&& 31).toUInt32).toInt32) :: st))) : Go p l e R s m args below meth c n0 Q cells slots h (mkF m pc Ls (.int x2 :: .int x1 :: st)) := by
  subst hn
  exact Go.via (fun T locs X _ t q => XS.iushr X.here C.x rfl (hb C.by hd) rfl q) k
theorem G.irem (C : Cx p s m meth c Z y bytes maxL ret) {x1 x2 : Int32} (hd : decode bytes pc = .ok (.irem, 1)) (hy : x2 ≠ 0) (hn : pc + 1 = n) (k : Go p l e R s m args below meth c n0 Q cells slots h (mkF m n Ls (.int (x1 % x2) :: st))) : Go p l e R s m args below meth c n0 Q cells slots h (mkF m pc Ls (.int x2 :: .int x1 :: st)) := by
  subst hn
  exact Go.via (fun T locs X _ t q => iremM X C.x rfl (hb C.by hd) rfl hy q) k
theorem G.ldiv (C : Cx p s m meth c Z y bytes maxL ret) {x1 x2 : Int64} (hd : decode bytes pc = .ok (.ldiv, 1)) (hy : x2 ≠ 0) (hn : pc + 1 = n) (k : Go p l e R s m args below meth c n0 Q cells slots h (mkF m n Ls (.long (x1 / x2) :: st))) : Go p l e R s m args below meth c n0 Q cells slots h (mkF m pc Ls (.long x2 :: .long x1 :: st)) := by
  subst hn
  exact Go.via (fun T locs X _ t q => XS.ldiv X.here C.x rfl (hb C.by hd) rfl hy q) k
theorem G.lrem (C : Cx p s m meth c Z y bytes maxL ret) {x1 x2 : Int64} (hd : decode bytes pc = .ok (.lrem, 1)) (hy : x2 ≠ 0) (hn : pc + 1 = n) (k : Go p l e R s m args below meth c n0 Q cells slots h (mkF m n Ls (.long (x1 - (x1 / x2) * x2) :: st))) : Go p l e R s m args below meth c n0 Q cells slots h (mkF m pc Ls (.long x2 :: .long x1 :: st)) := by
  subst hn
  exact Go.via (fun T locs X _ t q => XS.lrem X.here C.x rfl (hb C.by hd) rfl hy q) k
theorem G.lshl (C : Cx p s m meth c Z y bytes maxL ret) {x1 : Int64} {x2 : Int32} (hd : decode bytes pc = .ok (.lshl, 1))  (hn : pc + 1 = n) (k : Go p l e R s m args below meth c n0 Q cells slots h (mkF m n Ls (.long (x1 <<< (x2 &&& 0x3f).toInt64) :: st))) : Go p l e R s m args below meth c n0 Q cells slots h (mkF m pc Ls (.int x2 :: .long x1 :: st)) := by
  subst hn
  exact Go.via (fun T locs X _ t q => XS.lshl X.here C.x rfl (hb C.by hd) rfl q) k
theorem G.lshr (C : Cx p s m meth c Z y bytes maxL ret) {x1 : Int64} {x2 : Int32} (hd : decode bytes pc = .ok (.lshr, 1))  (hn : pc + 1 = n) (k : Go p l e R s m args below meth c n0 Q cells slots h (mkF m n Ls (.long (x1 >>> (x2 &&& 0x3f).toInt64) :: st))) : Go p l e R s m args below meth c n0 Q cells slots h (mkF m pc Ls (.int x2 :: .long x1 :: st)) := by
  subst hn
  exact Go.via (fun T locs X _ t q => XS.lshr X.here C.x rfl (hb C.by hd) rfl q) k
theorem G.lushr (C : Cx p s m meth c Z y bytes maxL ret) {x1 : Int64} {x2 : Int32} (hd : decode bytes pc = .ok (.lushr, 1))  (hn : pc + 1 = n) (k : Go p l e R s m args below meth c n0 Q cells slots h (mkF m n Ls (.long ((x1.toUInt64 >>> (x2 &&& 0x3f).toInt64.toUInt64).toInt64) :: st))) : Go p l e R s m args below meth c n0 Q cells slots h (mkF m pc Ls (.int x2 :: .long x1 :: st)) := by
  subst hn
  exact Go.via (fun T locs X _ t q => XS.lushr X.here C.x rfl (hb C.by hd) rfl q) k
theorem G.ineg (C : Cx p s m meth c Z y bytes maxL ret) {x : Int32} (hd : decode bytes pc = .ok (.ineg, 1))  (hn : pc + 1 = n) (k : Go p l e R s m args below meth c n0 Q cells slots h (mkF m n Ls (.int (-x) :: st))) : Go p l e R s m args below meth c n0 Q cells slots h (mkF m pc Ls (.int x :: st)) := by
  subst hn
  exact Go.via (fun T locs X _ t q => XS.ineg X.here C.x rfl (hb C.by hd) rfl q) k
theorem G.lneg (C : Cx p s m meth c Z y bytes maxL ret) {x : Int64} (hd : decode bytes pc = .ok (.lneg, 1))  (hn : pc + 1 = n) (k : Go p l e R s m args below meth c n0 Q cells slots h (mkF m n Ls (.long (-x) :: st))) : Go p l e R s m args below meth c n0 Q cells slots h (mkF m pc Ls (.long x :: st)) := by
  subst hn
  exact Go.via (fun T locs X _ t q => XS.lneg X.here C.x rfl (hb C.by hd) rfl q) k
theorem G.i2l (C : Cx p s m meth c Z y bytes maxL ret) {x : Int32} (hd : decode bytes pc = .ok (.i2l, 1))  (hn : pc + 1 = n) (k : Go p l e R s m args below meth c n0 Q cells slots h (mkF m n Ls (.long (x.toInt64) :: st))) : Go p l e R s m args below meth c n0 Q cells slots h (mkF m pc Ls (.int x :: st)) := by
  subst hn
  exact Go.via (fun T locs X _ t q => XS.i2l X.here C.x rfl (hb C.by hd) rfl q) k
theorem G.l2i (C : Cx p s m meth c Z y bytes maxL ret) {x : Int64} (hd : decode bytes pc = .ok (.l2i, 1))  (hn : pc + 1 = n) (k : Go p l e R s m args below meth c n0 Q cells slots h (mkF m n Ls (.int (x.toInt32) :: st))) : Go p l e R s m args below meth c n0 Q cells slots h (mkF m pc Ls (.long x :: st)) := by
  subst hn
  exact Go.via (fun T locs X _ t q => XS.l2i X.here C.x rfl (hb C.by hd) rfl q) k
theorem G.i2b (C : Cx p s m meth c Z y bytes maxL ret) {x : Int32} (hd : decode bytes pc = .ok (.i2b, 1))  (hn : pc + 1 = n) (k : Go p l e R s m args below meth c n0 Q cells slots h (mkF m n Ls (.int (x.toInt8.toInt32) :: st))) : Go p l e R s m args below meth c n0 Q cells slots h (mkF m pc Ls (.int x :: st)) := by
  subst hn
  exact Go.via (fun T locs X _ t q => XS.i2b X.here C.x rfl (hb C.by hd) rfl q) k
theorem G.i2s (C : Cx p s m meth c Z y bytes maxL ret) {x : Int32} (hd : decode bytes pc = .ok (.i2s, 1))  (hn : pc + 1 = n) (k : Go p l e R s m args below meth c n0 Q cells slots h (mkF m n Ls (.int (x.toInt16.toInt32) :: st))) : Go p l e R s m args below meth c n0 Q cells slots h (mkF m pc Ls (.int x :: st)) := by
  subst hn
  exact Go.via (fun T locs X _ t q => XS.i2s X.here C.x rfl (hb C.by hd) rfl q) k
theorem G.i2c (C : Cx p s m meth c Z y bytes maxL ret) {x : Int32} (hd : decode bytes pc = .ok (.i2c, 1))  (hn : pc + 1 = n) (k : Go p l e R s m args below meth c n0 Q cells slots h (mkF m n Ls (.int (x.toUInt32.toUInt16.toUInt32.toInt32) :: st))) : Go p l e R s m args below meth c n0 Q cells slots h (mkF m pc Ls (.int x :: st)) := by
  subst hn
  exact Go.via (fun T locs X _ t q => XS.i2c X.here C.x rfl (hb C.by hd) rfl q) k
theorem G.iconst (C : Cx p s m meth c Z y bytes maxL ret) {i : Int} (v : Int32) (hd : decode bytes pc = .ok (.iconst i, 1)) (hv : Int32.ofInt i = v) (hn : pc + 1 = n) (k : Go p l e R s m args below meth c n0 Q cells slots h (mkF m n Ls (.int v :: st))) : Go p l e R s m args below meth c n0 Q cells slots h (mkF m pc Ls (st)) := by
  subst hn hv
  exact Go.via (fun T locs X _ t q => XS.iconst X.here C.x rfl (hb C.by hd)  q) k
theorem G.bipush (C : Cx p s m meth c Z y bytes maxL ret) {i : Int} (v : Int32) (hd : decode bytes pc = .ok (.bipush i, 2)) (hv : (Int8.ofInt i).toInt32 = v) (hn : pc + 2 = n) (k : Go p l e R s m args below meth c n0 Q cells slots h (mkF m n Ls (.int v :: st))) : Go p l e R s m args below meth c n0 Q cells slots h (mkF m pc Ls (st)) := by
  subst hn hv
  exact Go.via (fun T locs X _ t q => XS.bipush X.here C.x rfl (hb C.by hd)  q) k
theorem G.sipush (C : Cx p s m meth c Z y bytes maxL ret) {i : Int} (v : Int32) (hd : decode bytes pc = .ok (.sipush i, 3)) (hv : (Int16.ofInt i).toInt32 = v) (hn : pc + 3 = n) (k : Go p l e R s m args below meth c n0 Q cells slots h (mkF m n Ls (.int v :: st))) : Go p l e R s m args below meth c n0 Q cells slots h (mkF m pc Ls (st)) := by
  subst hn hv
  exact Go.via (fun T locs X _ t q => XS.sipush X.here C.x rfl (hb C.by hd)  q) k
theorem G.lconst (C : Cx p s m meth c Z y bytes maxL ret) {i : Fin 2} (v : Int64) (hd : decode bytes pc = .ok (.lconst i, 1)) (hv : Int64.ofNat i = v) (hn : pc + 1 = n) (k : Go p l e R s m args below meth c n0 Q cells slots h (mkF m n Ls (.long v :: st))) : Go p l e R s m args below meth c n0 Q cells slots h (mkF m pc Ls (st)) := by
  subst hn hv
  exact Go.via (fun T locs X _ t q => XS.lconst X.here C.x rfl (hb C.by hd)  q) k
theorem G.aconst_null (C : Cx p s m meth c Z y bytes maxL ret)  (hd : decode bytes pc = .ok (.aconst_null, 1))  (hn : pc + 1 = n) (k : Go p l e R s m args below meth c n0 Q cells slots h (mkF m n Ls (.null :: st))) : Go p l e R s m args below meth c n0 Q cells slots h (mkF m pc Ls (st)) := by
  subst hn
  exact Go.via (fun T locs X _ t q => XS.aconstNull X.here C.x rfl (hb C.by hd)  q) k
theorem G.iload (C : Cx p s m meth c Z y bytes maxL ret) {k : Nat} {v : Int32} (hd : decode bytes pc = .ok (.iload k, 2)) (hl : Ls[k]? = some (.val (.int v)))  (hn : pc + 2 = n) (k : Go p l e R s m args below meth c n0 Q cells slots h (mkF m n Ls (.int v :: st))) : Go p l e R s m args below meth c n0 Q cells slots h (mkF m pc Ls (st)) := by
  subst hn
  exact Go.via (fun T locs X _ t q => XS.iload X.here C.x rfl (hb C.by hd) hl q) k
theorem G.iloadN (C : Cx p s m meth c Z y bytes maxL ret) {k : Fin 4} {v : Int32} (hd : decode bytes pc = .ok (.iload_n k, 1)) (hl : Ls[k.val]? = some (.val (.int v)))  (hn : pc + 1 = n) (k : Go p l e R s m args below meth c n0 Q cells slots h (mkF m n Ls (.int v :: st))) : Go p l e R s m args below meth c n0 Q cells slots h (mkF m pc Ls (st)) := by
  subst hn
  exact Go.via (fun T locs X _ t q => XS.iloadN X.here C.x rfl (hb C.by hd) hl q) k
theorem G.lload (C : Cx p s m meth c Z y bytes maxL ret) {k : Nat} {v : Int64} (hd : decode bytes pc = .ok (.lload k, 2)) (hl : Ls[k]? = some (.val (.long v)))  (hn : pc + 2 = n) (k : Go p l e R s m args below meth c n0 Q cells slots h (mkF m n Ls (.long v :: st))) : Go p l e R s m args below meth c n0 Q cells slots h (mkF m pc Ls (st)) := by
  subst hn
  exact Go.via (fun T locs X _ t q => XS.lload X.here C.x rfl (hb C.by hd) hl q) k
theorem G.lloadN (C : Cx p s m meth c Z y bytes maxL ret) {k : Fin 4} {v : Int64} (hd : decode bytes pc = .ok (.lload_n k, 1)) (hl : Ls[k.val]? = some (.val (.long v)))  (hn : pc + 1 = n) (k : Go p l e R s m args below meth c n0 Q cells slots h (mkF m n Ls (.long v :: st))) : Go p l e R s m args below meth c n0 Q cells slots h (mkF m pc Ls (st)) := by
  subst hn
  exact Go.via (fun T locs X _ t q => XS.lloadN X.here C.x rfl (hb C.by hd) hl q) k
theorem G.aload (C : Cx p s m meth c Z y bytes maxL ret) {k : Nat} {v : Value} (hd : decode bytes pc = .ok (.aload k, 2)) (hl : Ls[k]? = some (.val (v))) (hv : v.isRef = true) (hn : pc + 2 = n) (k : Go p l e R s m args below meth c n0 Q cells slots h (mkF m n Ls (v :: st))) : Go p l e R s m args below meth c n0 Q cells slots h (mkF m pc Ls (st)) := by
  subst hn
  exact Go.via (fun T locs X _ t q => XS.aload X.here C.x rfl (hb C.by hd) hl hv q) k
theorem G.aloadN (C : Cx p s m meth c Z y bytes maxL ret) {k : Fin 4} {v : Value} (hd : decode bytes pc = .ok (.aload_n k, 1)) (hl : Ls[k.val]? = some (.val (v))) (hv : v.isRef = true) (hn : pc + 1 = n) (k : Go p l e R s m args below meth c n0 Q cells slots h (mkF m n Ls (v :: st))) : Go p l e R s m args below meth c n0 Q cells slots h (mkF m pc Ls (st)) := by
  subst hn
  exact Go.via (fun T locs X _ t q => XS.aloadN X.here C.x rfl (hb C.by hd) hl hv q) k
theorem G.istore (C : Cx p s m meth c Z y bytes maxL ret) {k : Nat} {x : Int32} {l' : Array Slot} (hd : decode bytes pc = .ok (.istore k, 2))  (hl : storeLocals Ls k (.int x) = some l') (hn : pc + 2 = n) (kk : Go p l e R s m args below meth c n0 Q cells slots h (mkF m n l' (st))) : Go p l e R s m args below meth c n0 Q cells slots h (mkF m pc Ls (.int x :: st)) := by
  subst hn
  exact Go.via (fun T locs X _ t q => XS.istore X.here C.x rfl (hb C.by hd) rfl hl q) kk
theorem G.istoreZ (C : Cx p s m meth c Z y bytes maxL ret) {k : Nat} {x : Int32} {l' : Int32 → Array Slot} (hd : decode bytes pc = .ok (.istore k, 2)) (hl : ∀ z, storeLocals Ls k (.int z) = some (l' z)) (hn : pc + 2 = n) (kk : ∀ z, z = x → Go p l e R s m args below meth c n0 Q cells slots h (mkF m n (l' z) (st))) : Go p l e R s m args below meth c n0 Q cells slots h (mkF m pc Ls (.int x :: st)) :=
  G.istore C hd (hl x) hn (kk x rfl)
theorem G.istoreN (C : Cx p s m meth c Z y bytes maxL ret) {k : Fin 4} {x : Int32} {l' : Array Slot} (hd : decode bytes pc = .ok (.istore_n k, 1))  (hl : storeLocals Ls k.val (.int x) = some l') (hn : pc + 1 = n) (kk : Go p l e R s m args below meth c n0 Q cells slots h (mkF m n l' (st))) : Go p l e R s m args below meth c n0 Q cells slots h (mkF m pc Ls (.int x :: st)) := by
  subst hn
  exact Go.via (fun T locs X _ t q => XS.istoreN X.here C.x rfl (hb C.by hd) rfl hl q) kk
theorem G.istoreNZ (C : Cx p s m meth c Z y bytes maxL ret) {k : Fin 4} {x : Int32} {l' : Int32 → Array Slot} (hd : decode bytes pc = .ok (.istore_n k, 1)) (hl : ∀ z, storeLocals Ls k.val (.int z) = some (l' z)) (hn : pc + 1 = n) (kk : ∀ z, z = x → Go p l e R s m args below meth c n0 Q cells slots h (mkF m n (l' z) (st))) : Go p l e R s m args below meth c n0 Q cells slots h (mkF m pc Ls (.int x :: st)) :=
  G.istoreN C hd (hl x) hn (kk x rfl)
theorem G.lstore (C : Cx p s m meth c Z y bytes maxL ret) {k : Nat} {x : Int64} {l' : Array Slot} (hd : decode bytes pc = .ok (.lstore k, 2))  (hl : storeLocals Ls k (.long x) = some l') (hn : pc + 2 = n) (kk : Go p l e R s m args below meth c n0 Q cells slots h (mkF m n l' (st))) : Go p l e R s m args below meth c n0 Q cells slots h (mkF m pc Ls (.long x :: st)) := by
  subst hn
  exact Go.via (fun T locs X _ t q => XS.lstore X.here C.x rfl (hb C.by hd) rfl hl q) kk
theorem G.lstoreZ (C : Cx p s m meth c Z y bytes maxL ret) {k : Nat} {x : Int64} {l' : Int64 → Array Slot} (hd : decode bytes pc = .ok (.lstore k, 2)) (hl : ∀ z, storeLocals Ls k (.long z) = some (l' z)) (hn : pc + 2 = n) (kk : ∀ z, z = x → Go p l e R s m args below meth c n0 Q cells slots h (mkF m n (l' z) (st))) : Go p l e R s m args below meth c n0 Q cells slots h (mkF m pc Ls (.long x :: st)) :=
  G.lstore C hd (hl x) hn (kk x rfl)
theorem G.lstoreN (C : Cx p s m meth c Z y bytes maxL ret) {k : Fin 4} {x : Int64} {l' : Array Slot} (hd : decode bytes pc = .ok (.lstore_n k, 1))  (hl : storeLocals Ls k.val (.long x) = some l') (hn : pc + 1 = n) (kk : Go p l e R s m args below meth c n0 Q cells slots h (mkF m n l' (st))) : Go p l e R s m args below meth c n0 Q cells slots h (mkF m pc Ls (.long x :: st)) := by
  subst hn
  exact Go.via (fun T locs X _ t q => XS.lstoreN X.here C.x rfl (hb C.by hd) rfl hl q) kk
theorem G.lstoreNZ (C : Cx p s m meth c Z y bytes maxL ret) {k : Fin 4} {x : Int64} {l' : Int64 → Array Slot} (hd : decode bytes pc = .ok (.lstore_n k, 1)) (hl : ∀ z, storeLocals Ls k.val (.long z) = some (l' z)) (hn : pc + 1 = n) (kk : ∀ z, z = x → Go p l e R s m args below meth c n0 Q cells slots h (mkF m n (l' z) (st))) : Go p l e R s m args below meth c n0 Q cells slots h (mkF m pc Ls (.long x :: st)) :=
  G.lstoreN C hd (hl x) hn (kk x rfl)
theorem G.astore (C : Cx p s m meth c Z y bytes maxL ret) {k : Nat} {x : Value} {l' : Array Slot} (hd : decode bytes pc = .ok (.astore k, 2)) (hv : x.isRef = true) (hl : storeLocals Ls k (x) = some l') (hn : pc + 2 = n) (kk : Go p l e R s m args below meth c n0 Q cells slots h (mkF m n l' (st))) : Go p l e R s m args below meth c n0 Q cells slots h (mkF m pc Ls (x :: st)) := by
  subst hn
  exact Go.via (fun T locs X _ t q => XS.astore X.here C.x rfl (hb C.by hd) rfl hv hl q) kk
theorem G.astoreN (C : Cx p s m meth c Z y bytes maxL ret) {k : Fin 4} {x : Value} {l' : Array Slot} (hd : decode bytes pc = .ok (.astore_n k, 1)) (hv : x.isRef = true) (hl : storeLocals Ls k.val (x) = some l') (hn : pc + 1 = n) (kk : Go p l e R s m args below meth c n0 Q cells slots h (mkF m n l' (st))) : Go p l e R s m args below meth c n0 Q cells slots h (mkF m pc Ls (x :: st)) := by
  subst hn
  exact Go.via (fun T locs X _ t q => XS.astoreN X.here C.x rfl (hb C.by hd) rfl hv hl q) kk
theorem G.iinc (C : Cx p s m meth c Z y bytes maxL ret) {k : Nat} {cst : Int} (v : Int32) {x : Int32} {l' : Array Slot} (hd : decode bytes pc = .ok (.iinc k cst, 3)) (hv : Int32.ofInt cst = v) (hx : Ls[k]? = some (.val (.int x))) (hl : storeLocals Ls k (.int (x + v)) = some l') (hn : pc + 3 = n) (kk : Go p l e R s m args below meth c n0 Q cells slots h (mkF m n l' (st))) : Go p l e R s m args below meth c n0 Q cells slots h (mkF m pc Ls (st)) := by
  subst hn hv
  exact Go.via (fun T locs X _ t q => XS.iinc X.here C.x rfl (hb C.by hd) hx hl q) kk
theorem G.iincZ (C : Cx p s m meth c Z y bytes maxL ret) {k : Nat} {cst : Int} (v : Int32) {x : Int32} {l' : Int32 → Array Slot} (hd : decode bytes pc = .ok (.iinc k cst, 3)) (hv : Int32.ofInt cst = v) (hx : Ls[k]? = some (.val (.int x))) (hl : ∀ z, storeLocals Ls k (.int z) = some (l' z)) (hn : pc + 3 = n) (kk : ∀ z, z = x + v → Go p l e R s m args below meth c n0 Q cells slots h (mkF m n (l' z) (st))) : Go p l e R s m args below meth c n0 Q cells slots h (mkF m pc Ls (st)) :=
  G.iinc C v hd hv hx (hl _) hn (kk _ rfl)
theorem G.iincK (C : Cx p s m meth c Z y bytes maxL ret) {k : Nat} {cst : Int} (v : Int32) {x : Int32} (z : Int32) {l' : Array Slot} (hd : decode bytes pc = .ok (.iinc k cst, 3)) (hv : Int32.ofInt cst = v) (hx : Ls[k]? = some (.val (.int x))) (hz : x + v = z) (hl : storeLocals Ls k (.int z) = some l') (hn : pc + 3 = n) (kk : Go p l e R s m args below meth c n0 Q cells slots h (mkF m n l' (st))) : Go p l e R s m args below meth c n0 Q cells slots h (mkF m pc Ls (st)) := by
  subst hz
  exact G.iinc C v hd hv hx hl hn kk
theorem G.name_int {x : Int32} (kk : ∀ z, z = x → Go p l e R s m args below meth c n0 Q cells slots h (mkF m pc Ls (.int z :: st))) : Go p l e R s m args below meth c n0 Q cells slots h (mkF m pc Ls (.int x :: st)) := kk x rfl
theorem G.name_long {x : Int64} (kk : ∀ z, z = x → Go p l e R s m args below meth c n0 Q cells slots h (mkF m pc Ls (.long z :: st))) : Go p l e R s m args below meth c n0 Q cells slots h (mkF m pc Ls (.long x :: st)) := kk x rfl
theorem G.fold_int {x z : Int32} (hz : x = z) (kk : Go p l e R s m args below meth c n0 Q cells slots h (mkF m pc Ls (.int z :: st))) : Go p l e R s m args below meth c n0 Q cells slots h (mkF m pc Ls (.int x :: st)) := hz ▸ kk
theorem G.fold_long {x z : Int64} (hz : x = z) (kk : Go p l e R s m args below meth c n0 Q cells slots h (mkF m pc Ls (.long z :: st))) : Go p l e R s m args below meth c n0 Q cells slots h (mkF m pc Ls (.long x :: st)) := hz ▸ kk
theorem G.dup (C : Cx p s m meth c Z y bytes maxL ret) {x : Value} (hd : decode bytes pc = .ok (.dup, 1)) (hc : x.category = 1) (hn : pc + 1 = n) (k : Go p l e R s m args below meth c n0 Q cells slots h (mkF m n Ls (x :: x :: st))) : Go p l e R s m args below meth c n0 Q cells slots h (mkF m pc Ls (x :: st)) := by
  subst hn
  exact Go.via (fun T locs X _ t q => XS.dup X.here C.x rfl (hb C.by hd) rfl hc q) k
theorem G.pop (C : Cx p s m meth c Z y bytes maxL ret) {x : Value} (hd : decode bytes pc = .ok (.pop, 1)) (hc : x.category = 1) (hn : pc + 1 = n) (k : Go p l e R s m args below meth c n0 Q cells slots h (mkF m n Ls (st))) : Go p l e R s m args below meth c n0 Q cells slots h (mkF m pc Ls (x :: st)) := by
  subst hn
  exact Go.via (fun T locs X _ t q => XS.pop X.here C.x rfl (hb C.by hd) rfl hc q) k
theorem G.dup_x1 (C : Cx p s m meth c Z y bytes maxL ret) {x x2 : Value} (hd : decode bytes pc = .ok (.dup_x1, 1)) (hc : x.category = 1) (hc2 : x2.category = 1) (hn : pc + 1 = n) (k : Go p l e R s m args below meth c n0 Q cells slots h (mkF m n Ls (x :: x2 :: x :: st))) : Go p l e R s m args below meth c n0 Q cells slots h (mkF m pc Ls (x :: x2 :: st)) := by
  subst hn
  exact Go.via (fun T locs X _ t q => XS.dupX1 X.here C.x rfl (hb C.by hd) rfl hc hc2 q) k
theorem G.dup2 (C : Cx p s m meth c Z y bytes maxL ret) {x x2 : Value} (hd : decode bytes pc = .ok (.dup2, 1)) (hc : x.category = 1) (hc2 : x2.category = 1) (hn : pc + 1 = n) (k : Go p l e R s m args below meth c n0 Q cells slots h (mkF m n Ls (x :: x2 :: x :: x2 :: st))) : Go p l e R s m args below meth c n0 Q cells slots h (mkF m pc Ls (x :: x2 :: st)) := by
  subst hn
  exact Go.via (fun T locs X _ t q => XT.dup2 X.here C.x rfl (hb C.by hd) rfl hc hc2 q) k
theorem G.dup2L (C : Cx p s m meth c Z y bytes maxL ret) {x : Int64} (hd : decode bytes pc = .ok (.dup2, 1)) (hn : pc + 1 = n) (k : Go p l e R s m args below meth c n0 Q cells slots h (mkF m n Ls (.long x :: .long x :: st))) : Go p l e R s m args below meth c n0 Q cells slots h (mkF m pc Ls (.long x :: st)) := by
  subst hn
  exact Go.via (fun T locs X _ t q => XT.dup2L X.here C.x rfl (hb C.by hd) rfl q) k
theorem G.goto (C : Cx p s m meth c Z y bytes maxL ret) {o : Int} (hd : decode bytes pc = .ok (.goto o, 3)) (ho : 0 ≤ (pc : Int) + o) (hp : ((pc : Int) + o).toNat = n) (k : Go p l e R s m args below meth c n0 Q cells slots h (mkF m n Ls (st))) : Go p l e R s m args below meth c n0 Q cells slots h (mkF m pc Ls (st)) :=
  Go.via (fun T locs X _ t q => XS.goto X.here C.x rfl rfl (hb C.by hd) ho hp q) k
theorem lt_i {x y : Int32} : x < y ↔ x.toInt < y.toInt := Int32.lt_iff_toInt_lt
theorem lt_l {x y : Int64} : x < y ↔ x.toInt < y.toInt := Int64.lt_iff_toInt_lt
theorem le_i {x y : Int32} : x ≤ y ↔ x.toInt ≤ y.toInt := Int32.le_iff_toInt_le
theorem le_l {x y : Int64} : x ≤ y ↔ x.toInt ≤ y.toInt := Int64.le_iff_toInt_le
theorem ich_lt {x1 x2 : Int32} : (x1.toInt < x2.toInt ∧ if_icmp.holds .lt x1 x2 = true) ∨ (x2.toInt ≤ x1.toInt ∧ if_icmp.holds .lt x1 x2 = false) := by
  by_cases q : x1.toInt < x2.toInt
  · exact Or.inl ⟨q, by simp [if_icmp.holds, lt_i, le_i, Int32.lt_iff_toInt_lt, Int32.le_iff_toInt_le, q]⟩
  · exact Or.inr ⟨by omega, by first | (simp [if_icmp.holds, lt_i, le_i, Int32.lt_iff_toInt_lt, Int32.le_iff_toInt_le, q]; done) | (simp [if_icmp.holds, lt_i, le_i, Int32.lt_iff_toInt_lt, Int32.le_iff_toInt_le]; omega)⟩
theorem G.icmp_lt (C : Cx p s m meth c Z y bytes maxL ret) {x1 x2 : Int32} {o : Int} {A B : Int} (hA : x1.toInt = A) (hB : x2.toInt = B) (hd : decode bytes pc = .ok (.if_icmp .lt o, 3)) (ho : 0 ≤ (pc : Int) + o) (hp : ((pc : Int) + o).toNat = n') (hn : pc + 3 = n) (kt : A < B → Go p l e R s m args below meth c n0 Q cells slots h (mkF m n' Ls (st))) (kf : B ≤ A → Go p l e R s m args below meth c n0 Q cells slots h (mkF m n Ls (st))) : Go p l e R s m args below meth c n0 Q cells slots h (mkF m pc Ls (.int x2 :: .int x1 :: st)) := by
  subst hn hA hB
  rcases ich_lt (x1 := x1) (x2 := x2) with ⟨q, r⟩ | ⟨q, r⟩
  · exact Go.via (fun T locs X _ t q => XS.icmpYes X.here C.x rfl rfl (hb C.by hd) rfl r ho hp q) (kt q)
  · exact Go.via (fun T locs X _ t q => XS.icmpNo X.here C.x rfl (hb C.by hd) rfl r q) (kf q)
theorem G.if_lt (C : Cx p s m meth c Z y bytes maxL ret) {x1 : Int32} {o : Int} {A : Int} (hA : x1.toInt = A) (hd : decode bytes pc = .ok (.ifCond .lt o, 3)) (ho : 0 ≤ (pc : Int) + o) (hp : ((pc : Int) + o).toNat = n') (hn : pc + 3 = n) (kt : A < 0 → Go p l e R s m args below meth c n0 Q cells slots h (mkF m n' Ls (st))) (kf : 0 ≤ A → Go p l e R s m args below meth c n0 Q cells slots h (mkF m n Ls (st))) : Go p l e R s m args below meth c n0 Q cells slots h (mkF m pc Ls (.int x1 :: st)) := by
  subst hn hA
  rcases ich_lt (x1 := x1) (x2 := 0) with ⟨q, r⟩ | ⟨q, r⟩
  · exact Go.via (fun T locs X _ t q => XS.ifYes X.here C.x rfl rfl (hb C.by hd) rfl ((if0 _ _).trans r) ho hp q) (kt q)
  · exact Go.via (fun T locs X _ t q => XS.ifNo X.here C.x rfl (hb C.by hd) rfl ((if0 _ _).trans r) q) (kf q)
theorem lch_lt (x1 x2 : Int64) : ((lcmpW x1 x2).toInt < 0 → x1.toInt < x2.toInt) ∧ (0 ≤ (lcmpW x1 x2).toInt → x2.toInt ≤ x1.toInt) := by
  have q := c_lcmp x1 x2
  have z : ∀ x : Int32, x = 0 ↔ x.toInt = 0 := fun x => ⟨fun q => by rw [q]; rfl, fun q => Int32.toInt_inj.mp q⟩
  have w : x1 = x2 ↔ x1.toInt = x2.toInt := Int64.toInt_inj.symm
  
  constructor <;> intro r <;> omega
theorem G.lcmp_lt (C : Cx p s m meth c Z y bytes maxL ret) {x1 x2 : Int64} {o : Int} {A B : Int} (hA : x1.toInt = A) (hB : x2.toInt = B) (hc : decode bytes pc = .ok (.lcmp, 1)) (hd : decode bytes (pc + 1) = .ok (.ifCond .lt o, 3)) (ho : 0 ≤ ((pc + 1 : Nat) : Int) + o) (hp : (((pc + 1 : Nat) : Int) + o).toNat = n') (hn : pc + 4 = n) (kt : A < B → Go p l e R s m args below meth c n0 Q cells slots h (mkF m n' Ls (st))) (kf : B ≤ A → Go p l e R s m args below meth c n0 Q cells slots h (mkF m n Ls (st))) : Go p l e R s m args below meth c n0 Q cells slots h (mkF m pc Ls (.long x2 :: .long x1 :: st)) := by
  subst hn hA hB
  refine Go.via (fun T locs X _ t q => XS.lcmp X.here C.x rfl (hb C.by hc) rfl q) ?_
  exact G.if_lt C (A := (lcmpW x1 x2).toInt) rfl (pc := pc + 1) hd ho hp (n := pc + 4) rfl (fun q => kt ((lch_lt x1 x2).1 q)) (fun q => kf ((lch_lt x1 x2).2 q))
theorem ich_ge {x1 x2 : Int32} : (x2.toInt ≤ x1.toInt ∧ if_icmp.holds .ge x1 x2 = true) ∨ (x1.toInt < x2.toInt ∧ if_icmp.holds .ge x1 x2 = false) := by
  by_cases q : x2.toInt ≤ x1.toInt
  · exact Or.inl ⟨q, by simp [if_icmp.holds, lt_i, le_i, Int32.lt_iff_toInt_lt, Int32.le_iff_toInt_le, q]⟩
  · exact Or.inr ⟨by omega, by first | (simp [if_icmp.holds, lt_i, le_i, Int32.lt_iff_toInt_lt, Int32.le_iff_toInt_le, q]; done) | (simp [if_icmp.holds, lt_i, le_i, Int32.lt_iff_toInt_lt, Int32.le_iff_toInt_le]; omega)⟩
theorem G.icmp_ge (C : Cx p s m meth c Z y bytes maxL ret) {x1 x2 : Int32} {o : Int} {A B : Int} (hA : x1.toInt = A) (hB : x2.toInt = B) (hd : decode bytes pc = .ok (.if_icmp .ge o, 3)) (ho : 0 ≤ (pc : Int) + o) (hp : ((pc : Int) + o).toNat = n') (hn : pc + 3 = n) (kt : B ≤ A → Go p l e R s m args below meth c n0 Q cells slots h (mkF m n' Ls (st))) (kf : A < B → Go p l e R s m args below meth c n0 Q cells slots h (mkF m n Ls (st))) : Go p l e R s m args below meth c n0 Q cells slots h (mkF m pc Ls (.int x2 :: .int x1 :: st)) := by
  subst hn hA hB
  rcases ich_ge (x1 := x1) (x2 := x2) with ⟨q, r⟩ | ⟨q, r⟩
  · exact Go.via (fun T locs X _ t q => XS.icmpYes X.here C.x rfl rfl (hb C.by hd) rfl r ho hp q) (kt q)
  · exact Go.via (fun T locs X _ t q => XS.icmpNo X.here C.x rfl (hb C.by hd) rfl r q) (kf q)
theorem G.if_ge (C : Cx p s m meth c Z y bytes maxL ret) {x1 : Int32} {o : Int} {A : Int} (hA : x1.toInt = A) (hd : decode bytes pc = .ok (.ifCond .ge o, 3)) (ho : 0 ≤ (pc : Int) + o) (hp : ((pc : Int) + o).toNat = n') (hn : pc + 3 = n) (kt : 0 ≤ A → Go p l e R s m args below meth c n0 Q cells slots h (mkF m n' Ls (st))) (kf : A < 0 → Go p l e R s m args below meth c n0 Q cells slots h (mkF m n Ls (st))) : Go p l e R s m args below meth c n0 Q cells slots h (mkF m pc Ls (.int x1 :: st)) := by
  subst hn hA
  rcases ich_ge (x1 := x1) (x2 := 0) with ⟨q, r⟩ | ⟨q, r⟩
  · exact Go.via (fun T locs X _ t q => XS.ifYes X.here C.x rfl rfl (hb C.by hd) rfl ((if0 _ _).trans r) ho hp q) (kt q)
  · exact Go.via (fun T locs X _ t q => XS.ifNo X.here C.x rfl (hb C.by hd) rfl ((if0 _ _).trans r) q) (kf q)
theorem lch_ge (x1 x2 : Int64) : (0 ≤ (lcmpW x1 x2).toInt → x2.toInt ≤ x1.toInt) ∧ ((lcmpW x1 x2).toInt < 0 → x1.toInt < x2.toInt) := by
  have q := c_lcmp x1 x2
  have z : ∀ x : Int32, x = 0 ↔ x.toInt = 0 := fun x => ⟨fun q => by rw [q]; rfl, fun q => Int32.toInt_inj.mp q⟩
  have w : x1 = x2 ↔ x1.toInt = x2.toInt := Int64.toInt_inj.symm
  
  constructor <;> intro r <;> omega
theorem G.lcmp_ge (C : Cx p s m meth c Z y bytes maxL ret) {x1 x2 : Int64} {o : Int} {A B : Int} (hA : x1.toInt = A) (hB : x2.toInt = B) (hc : decode bytes pc = .ok (.lcmp, 1)) (hd : decode bytes (pc + 1) = .ok (.ifCond .ge o, 3)) (ho : 0 ≤ ((pc + 1 : Nat) : Int) + o) (hp : (((pc + 1 : Nat) : Int) + o).toNat = n') (hn : pc + 4 = n) (kt : B ≤ A → Go p l e R s m args below meth c n0 Q cells slots h (mkF m n' Ls (st))) (kf : A < B → Go p l e R s m args below meth c n0 Q cells slots h (mkF m n Ls (st))) : Go p l e R s m args below meth c n0 Q cells slots h (mkF m pc Ls (.long x2 :: .long x1 :: st)) := by
  subst hn hA hB
  refine Go.via (fun T locs X _ t q => XS.lcmp X.here C.x rfl (hb C.by hc) rfl q) ?_
  exact G.if_ge C (A := (lcmpW x1 x2).toInt) rfl (pc := pc + 1) hd ho hp (n := pc + 4) rfl (fun q => kt ((lch_ge x1 x2).1 q)) (fun q => kf ((lch_ge x1 x2).2 q))
theorem ich_gt {x1 x2 : Int32} : (x2.toInt < x1.toInt ∧ if_icmp.holds .gt x1 x2 = true) ∨ (x1.toInt ≤ x2.toInt ∧ if_icmp.holds .gt x1 x2 = false) := by
  by_cases q : x2.toInt < x1.toInt
  · exact Or.inl ⟨q, by simp [if_icmp.holds, lt_i, le_i, Int32.lt_iff_toInt_lt, Int32.le_iff_toInt_le, q]⟩
  · exact Or.inr ⟨by omega, by first | (simp [if_icmp.holds, lt_i, le_i, Int32.lt_iff_toInt_lt, Int32.le_iff_toInt_le, q]; done) | (simp [if_icmp.holds, lt_i, le_i, Int32.lt_iff_toInt_lt, Int32.le_iff_toInt_le]; omega)⟩
theorem G.icmp_gt (C : Cx p s m meth c Z y bytes maxL ret) {x1 x2 : Int32} {o : Int} {A B : Int} (hA : x1.toInt = A) (hB : x2.toInt = B) (hd : decode bytes pc = .ok (.if_icmp .gt o, 3)) (ho : 0 ≤ (pc : Int) + o) (hp : ((pc : Int) + o).toNat = n') (hn : pc + 3 = n) (kt : B < A → Go p l e R s m args below meth c n0 Q cells slots h (mkF m n' Ls (st))) (kf : A ≤ B → Go p l e R s m args below meth c n0 Q cells slots h (mkF m n Ls (st))) : Go p l e R s m args below meth c n0 Q cells slots h (mkF m pc Ls (.int x2 :: .int x1 :: st)) := by
  subst hn hA hB
  rcases ich_gt (x1 := x1) (x2 := x2) with ⟨q, r⟩ | ⟨q, r⟩
  · exact Go.via (fun T locs X _ t q => XS.icmpYes X.here C.x rfl rfl (hb C.by hd) rfl r ho hp q) (kt q)
  · exact Go.via (fun T locs X _ t q => XS.icmpNo X.here C.x rfl (hb C.by hd) rfl r q) (kf q)
theorem G.if_gt (C : Cx p s m meth c Z y bytes maxL ret) {x1 : Int32} {o : Int} {A : Int} (hA : x1.toInt = A) (hd : decode bytes pc = .ok (.ifCond .gt o, 3)) (ho : 0 ≤ (pc : Int) + o) (hp : ((pc : Int) + o).toNat = n') (hn : pc + 3 = n) (kt : 0 < A → Go p l e R s m args below meth c n0 Q cells slots h (mkF m n' Ls (st))) (kf : A ≤ 0 → Go p l e R s m args below meth c n0 Q cells slots h (mkF m n Ls (st))) : Go p l e R s m args below meth c n0 Q cells slots h (mkF m pc Ls (.int x1 :: st)) := by
  subst hn hA
  rcases ich_gt (x1 := x1) (x2 := 0) with ⟨q, r⟩ | ⟨q, r⟩
  · exact Go.via (fun T locs X _ t q => XS.ifYes X.here C.x rfl rfl (hb C.by hd) rfl ((if0 _ _).trans r) ho hp q) (kt q)
  · exact Go.via (fun T locs X _ t q => XS.ifNo X.here C.x rfl (hb C.by hd) rfl ((if0 _ _).trans r) q) (kf q)
theorem lch_gt (x1 x2 : Int64) : (0 < (lcmpW x1 x2).toInt → x2.toInt < x1.toInt) ∧ ((lcmpW x1 x2).toInt ≤ 0 → x1.toInt ≤ x2.toInt) := by
  have q := c_lcmp x1 x2
  have z : ∀ x : Int32, x = 0 ↔ x.toInt = 0 := fun x => ⟨fun q => by rw [q]; rfl, fun q => Int32.toInt_inj.mp q⟩
  have w : x1 = x2 ↔ x1.toInt = x2.toInt := Int64.toInt_inj.symm
  
  constructor <;> intro r <;> omega
theorem G.lcmp_gt (C : Cx p s m meth c Z y bytes maxL ret) {x1 x2 : Int64} {o : Int} {A B : Int} (hA : x1.toInt = A) (hB : x2.toInt = B) (hc : decode bytes pc = .ok (.lcmp, 1)) (hd : decode bytes (pc + 1) = .ok (.ifCond .gt o, 3)) (ho : 0 ≤ ((pc + 1 : Nat) : Int) + o) (hp : (((pc + 1 : Nat) : Int) + o).toNat = n') (hn : pc + 4 = n) (kt : B < A → Go p l e R s m args below meth c n0 Q cells slots h (mkF m n' Ls (st))) (kf : A ≤ B → Go p l e R s m args below meth c n0 Q cells slots h (mkF m n Ls (st))) : Go p l e R s m args below meth c n0 Q cells slots h (mkF m pc Ls (.long x2 :: .long x1 :: st)) := by
  subst hn hA hB
  refine Go.via (fun T locs X _ t q => XS.lcmp X.here C.x rfl (hb C.by hc) rfl q) ?_
  exact G.if_gt C (A := (lcmpW x1 x2).toInt) rfl (pc := pc + 1) hd ho hp (n := pc + 4) rfl (fun q => kt ((lch_gt x1 x2).1 q)) (fun q => kf ((lch_gt x1 x2).2 q))
theorem ich_le {x1 x2 : Int32} : (x1.toInt ≤ x2.toInt ∧ if_icmp.holds .le x1 x2 = true) ∨ (x2.toInt < x1.toInt ∧ if_icmp.holds .le x1 x2 = false) := by
  by_cases q : x1.toInt ≤ x2.toInt
  · exact Or.inl ⟨q, by simp [if_icmp.holds, lt_i, le_i, Int32.lt_iff_toInt_lt, Int32.le_iff_toInt_le, q]⟩
  · exact Or.inr ⟨by omega, by first | (simp [if_icmp.holds, lt_i, le_i, Int32.lt_iff_toInt_lt, Int32.le_iff_toInt_le, q]; done) | (simp [if_icmp.holds, lt_i, le_i, Int32.lt_iff_toInt_lt, Int32.le_iff_toInt_le]; omega)⟩
theorem G.icmp_le (C : Cx p s m meth c Z y bytes maxL ret) {x1 x2 : Int32} {o : Int} {A B : Int} (hA : x1.toInt = A) (hB : x2.toInt = B) (hd : decode bytes pc = .ok (.if_icmp .le o, 3)) (ho : 0 ≤ (pc : Int) + o) (hp : ((pc : Int) + o).toNat = n') (hn : pc + 3 = n) (kt : A ≤ B → Go p l e R s m args below meth c n0 Q cells slots h (mkF m n' Ls (st))) (kf : B < A → Go p l e R s m args below meth c n0 Q cells slots h (mkF m n Ls (st))) : Go p l e R s m args below meth c n0 Q cells slots h (mkF m pc Ls (.int x2 :: .int x1 :: st)) := by
  subst hn hA hB
  rcases ich_le (x1 := x1) (x2 := x2) with ⟨q, r⟩ | ⟨q, r⟩
  · exact Go.via (fun T locs X _ t q => XS.icmpYes X.here C.x rfl rfl (hb C.by hd) rfl r ho hp q) (kt q)
  · exact Go.via (fun T locs X _ t q => XS.icmpNo X.here C.x rfl (hb C.by hd) rfl r q) (kf q)
theorem G.if_le (C : Cx p s m meth c Z y bytes maxL ret) {x1 : Int32} {o : Int} {A : Int} (hA : x1.toInt = A) (hd : decode bytes pc = .ok (.ifCond .le o, 3)) (ho : 0 ≤ (pc : Int) + o) (hp : ((pc : Int) + o).toNat = n') (hn : pc + 3 = n) (kt : A ≤ 0 → Go p l e R s m args below meth c n0 Q cells slots h (mkF m n' Ls (st))) (kf : 0 < A → Go p l e R s m args below meth c n0 Q cells slots h (mkF m n Ls (st))) : Go p l e R s m args below meth c n0 Q cells slots h (mkF m pc Ls (.int x1 :: st)) := by
  subst hn hA
  rcases ich_le (x1 := x1) (x2 := 0) with ⟨q, r⟩ | ⟨q, r⟩
  · exact Go.via (fun T locs X _ t q => XS.ifYes X.here C.x rfl rfl (hb C.by hd) rfl ((if0 _ _).trans r) ho hp q) (kt q)
  · exact Go.via (fun T locs X _ t q => XS.ifNo X.here C.x rfl (hb C.by hd) rfl ((if0 _ _).trans r) q) (kf q)
theorem lch_le (x1 x2 : Int64) : ((lcmpW x1 x2).toInt ≤ 0 → x1.toInt ≤ x2.toInt) ∧ (0 < (lcmpW x1 x2).toInt → x2.toInt < x1.toInt) := by
  have q := c_lcmp x1 x2
  have z : ∀ x : Int32, x = 0 ↔ x.toInt = 0 := fun x => ⟨fun q => by rw [q]; rfl, fun q => Int32.toInt_inj.mp q⟩
  have w : x1 = x2 ↔ x1.toInt = x2.toInt := Int64.toInt_inj.symm
  
  constructor <;> intro r <;> omega
theorem G.lcmp_le (C : Cx p s m meth c Z y bytes maxL ret) {x1 x2 : Int64} {o : Int} {A B : Int} (hA : x1.toInt = A) (hB : x2.toInt = B) (hc : decode bytes pc = .ok (.lcmp, 1)) (hd : decode bytes (pc + 1) = .ok (.ifCond .le o, 3)) (ho : 0 ≤ ((pc + 1 : Nat) : Int) + o) (hp : (((pc + 1 : Nat) : Int) + o).toNat = n') (hn : pc + 4 = n) (kt : A ≤ B → Go p l e R s m args below meth c n0 Q cells slots h (mkF m n' Ls (st))) (kf : B < A → Go p l e R s m args below meth c n0 Q cells slots h (mkF m n Ls (st))) : Go p l e R s m args below meth c n0 Q cells slots h (mkF m pc Ls (.long x2 :: .long x1 :: st)) := by
  subst hn hA hB
  refine Go.via (fun T locs X _ t q => XS.lcmp X.here C.x rfl (hb C.by hc) rfl q) ?_
  exact G.if_le C (A := (lcmpW x1 x2).toInt) rfl (pc := pc + 1) hd ho hp (n := pc + 4) rfl (fun q => kt ((lch_le x1 x2).1 q)) (fun q => kf ((lch_le x1 x2).2 q))
theorem ich_eq {x1 x2 : Int32} : (x1 = x2 ∧ if_icmp.holds .eq x1 x2 = true) ∨ (x1 ≠ x2 ∧ if_icmp.holds .eq x1 x2 = false) := by
  by_cases q : x1 = x2 <;> simp [if_icmp.holds, q]
theorem G.icmp_eq (C : Cx p s m meth c Z y bytes maxL ret) {x1 x2 : Int32} {o : Int} {A B : Int} (hA : x1.toInt = A) (hB : x2.toInt = B) (hd : decode bytes pc = .ok (.if_icmp .eq o, 3)) (ho : 0 ≤ (pc : Int) + o) (hp : ((pc : Int) + o).toNat = n') (hn : pc + 3 = n) (kt : x1 = x2 → A = B → Go p l e R s m args below meth c n0 Q cells slots h (mkF m n' Ls (st))) (kf : x1 ≠ x2 → A ≠ B → Go p l e R s m args below meth c n0 Q cells slots h (mkF m n Ls (st))) : Go p l e R s m args below meth c n0 Q cells slots h (mkF m pc Ls (.int x2 :: .int x1 :: st)) := by
  subst hn hA hB
  rcases ich_eq (x1 := x1) (x2 := x2) with ⟨q, r⟩ | ⟨q, r⟩
  · exact Go.via (fun T locs X _ t q => XS.icmpYes X.here C.x rfl rfl (hb C.by hd) rfl r ho hp q) (kt q (congrArg _ q))
  · exact Go.via (fun T locs X _ t q => XS.icmpNo X.here C.x rfl (hb C.by hd) rfl r q) (kf q (fun r => q (Int32.toInt_inj.mp r)))
theorem G.if_eq (C : Cx p s m meth c Z y bytes maxL ret) {x1 : Int32} {o : Int} {A : Int} (hA : x1.toInt = A) (hd : decode bytes pc = .ok (.ifCond .eq o, 3)) (ho : 0 ≤ (pc : Int) + o) (hp : ((pc : Int) + o).toNat = n') (hn : pc + 3 = n) (kt : x1 = 0 → A = 0 → Go p l e R s m args below meth c n0 Q cells slots h (mkF m n' Ls (st))) (kf : x1 ≠ 0 → A ≠ 0 → Go p l e R s m args below meth c n0 Q cells slots h (mkF m n Ls (st))) : Go p l e R s m args below meth c n0 Q cells slots h (mkF m pc Ls (.int x1 :: st)) := by
  subst hn hA
  rcases ich_eq (x1 := x1) (x2 := 0) with ⟨q, r⟩ | ⟨q, r⟩
  · exact Go.via (fun T locs X _ t q => XS.ifYes X.here C.x rfl rfl (hb C.by hd) rfl ((if0 _ _).trans r) ho hp q) (kt q (congrArg Int32.toInt q))
  · exact Go.via (fun T locs X _ t q => XS.ifNo X.here C.x rfl (hb C.by hd) rfl ((if0 _ _).trans r) q) (kf q (fun r => q (Int32.toInt_inj.mp r)))
theorem lch_eq (x1 x2 : Int64) : ((lcmpW x1 x2) = 0 → x1 = x2) ∧ ((lcmpW x1 x2) ≠ 0 → x1 ≠ x2) := by
  have q := c_lcmp x1 x2
  have z : ∀ x : Int32, x = 0 ↔ x.toInt = 0 := fun x => ⟨fun q => by rw [q]; rfl, fun q => Int32.toInt_inj.mp q⟩
  have w : x1 = x2 ↔ x1.toInt = x2.toInt := Int64.toInt_inj.symm
  simp only [ne_eq, z, w]
  constructor <;> intro r <;> omega
theorem G.lcmp_eq (C : Cx p s m meth c Z y bytes maxL ret) {x1 x2 : Int64} {o : Int} {A B : Int} (hA : x1.toInt = A) (hB : x2.toInt = B) (hc : decode bytes pc = .ok (.lcmp, 1)) (hd : decode bytes (pc + 1) = .ok (.ifCond .eq o, 3)) (ho : 0 ≤ ((pc + 1 : Nat) : Int) + o) (hp : (((pc + 1 : Nat) : Int) + o).toNat = n') (hn : pc + 4 = n) (kt : x1 = x2 → A = B → Go p l e R s m args below meth c n0 Q cells slots h (mkF m n' Ls (st))) (kf : x1 ≠ x2 → A ≠ B → Go p l e R s m args below meth c n0 Q cells slots h (mkF m n Ls (st))) : Go p l e R s m args below meth c n0 Q cells slots h (mkF m pc Ls (.long x2 :: .long x1 :: st)) := by
  subst hn hA hB
  refine Go.via (fun T locs X _ t q => XS.lcmp X.here C.x rfl (hb C.by hc) rfl q) ?_
  exact G.if_eq C (A := (lcmpW x1 x2).toInt) rfl (pc := pc + 1) hd ho hp (n := pc + 4) rfl (fun q _ => kt ((lch_eq x1 x2).1 q) (congrArg _ ((lch_eq x1 x2).1 q))) (fun q _ => kf ((lch_eq x1 x2).2 q) (fun r => (lch_eq x1 x2).2 q (Int64.toInt_inj.mp r)))
theorem ich_ne {x1 x2 : Int32} : (x1 ≠ x2 ∧ if_icmp.holds .ne x1 x2 = true) ∨ (x1 = x2 ∧ if_icmp.holds .ne x1 x2 = false) := by
  by_cases q : x1 = x2 <;> simp [if_icmp.holds, q]
theorem G.icmp_ne (C : Cx p s m meth c Z y bytes maxL ret) {x1 x2 : Int32} {o : Int} {A B : Int} (hA : x1.toInt = A) (hB : x2.toInt = B) (hd : decode bytes pc = .ok (.if_icmp .ne o, 3)) (ho : 0 ≤ (pc : Int) + o) (hp : ((pc : Int) + o).toNat = n') (hn : pc + 3 = n) (kt : x1 ≠ x2 → A ≠ B → Go p l e R s m args below meth c n0 Q cells slots h (mkF m n' Ls (st))) (kf : x1 = x2 → A = B → Go p l e R s m args below meth c n0 Q cells slots h (mkF m n Ls (st))) : Go p l e R s m args below meth c n0 Q cells slots h (mkF m pc Ls (.int x2 :: .int x1 :: st)) := by
  subst hn hA hB
  rcases ich_ne (x1 := x1) (x2 := x2) with ⟨q, r⟩ | ⟨q, r⟩
  · exact Go.via (fun T locs X _ t q => XS.icmpYes X.here C.x rfl rfl (hb C.by hd) rfl r ho hp q) (kt q (fun r => q (Int32.toInt_inj.mp r)))
  · exact Go.via (fun T locs X _ t q => XS.icmpNo X.here C.x rfl (hb C.by hd) rfl r q) (kf q (congrArg _ q))
theorem G.if_ne (C : Cx p s m meth c Z y bytes maxL ret) {x1 : Int32} {o : Int} {A : Int} (hA : x1.toInt = A) (hd : decode bytes pc = .ok (.ifCond .ne o, 3)) (ho : 0 ≤ (pc : Int) + o) (hp : ((pc : Int) + o).toNat = n') (hn : pc + 3 = n) (kt : x1 ≠ 0 → A ≠ 0 → Go p l e R s m args below meth c n0 Q cells slots h (mkF m n' Ls (st))) (kf : x1 = 0 → A = 0 → Go p l e R s m args below meth c n0 Q cells slots h (mkF m n Ls (st))) : Go p l e R s m args below meth c n0 Q cells slots h (mkF m pc Ls (.int x1 :: st)) := by
  subst hn hA
  rcases ich_ne (x1 := x1) (x2 := 0) with ⟨q, r⟩ | ⟨q, r⟩
  · exact Go.via (fun T locs X _ t q => XS.ifYes X.here C.x rfl rfl (hb C.by hd) rfl ((if0 _ _).trans r) ho hp q) (kt q (fun r => q (Int32.toInt_inj.mp r)))
  · exact Go.via (fun T locs X _ t q => XS.ifNo X.here C.x rfl (hb C.by hd) rfl ((if0 _ _).trans r) q) (kf q (congrArg Int32.toInt q))
theorem lch_ne (x1 x2 : Int64) : ((lcmpW x1 x2) ≠ 0 → x1 ≠ x2) ∧ ((lcmpW x1 x2) = 0 → x1 = x2) := by
  have q := c_lcmp x1 x2
  have z : ∀ x : Int32, x = 0 ↔ x.toInt = 0 := fun x => ⟨fun q => by rw [q]; rfl, fun q => Int32.toInt_inj.mp q⟩
  have w : x1 = x2 ↔ x1.toInt = x2.toInt := Int64.toInt_inj.symm
  simp only [ne_eq, z, w]
  constructor <;> intro r <;> omega
theorem G.lcmp_ne (C : Cx p s m meth c Z y bytes maxL ret) {x1 x2 : Int64} {o : Int} {A B : Int} (hA : x1.toInt = A) (hB : x2.toInt = B) (hc : decode bytes pc = .ok (.lcmp, 1)) (hd : decode bytes (pc + 1) = .ok (.ifCond .ne o, 3)) (ho : 0 ≤ ((pc + 1 : Nat) : Int) + o) (hp : (((pc + 1 : Nat) : Int) + o).toNat = n') (hn : pc + 4 = n) (kt : x1 ≠ x2 → A ≠ B → Go p l e R s m args below meth c n0 Q cells slots h (mkF m n' Ls (st))) (kf : x1 = x2 → A = B → Go p l e R s m args below meth c n0 Q cells slots h (mkF m n Ls (st))) : Go p l e R s m args below meth c n0 Q cells slots h (mkF m pc Ls (.long x2 :: .long x1 :: st)) := by
  subst hn hA hB
  refine Go.via (fun T locs X _ t q => XS.lcmp X.here C.x rfl (hb C.by hc) rfl q) ?_
  exact G.if_ne C (A := (lcmpW x1 x2).toInt) rfl (pc := pc + 1) hd ho hp (n := pc + 4) rfl (fun q _ => kt ((lch_ne x1 x2).1 q) (fun r => (lch_ne x1 x2).1 q (Int64.toInt_inj.mp r))) (fun q _ => kf ((lch_ne x1 x2).2 q) (congrArg _ ((lch_ne x1 x2).2 q)))
theorem G.ifnullN (C : Cx p s m meth c Z y bytes maxL ret) {b : Addr} {o : Int} (hd : decode bytes pc = .ok (.ifnull o, 3)) (hn : pc + 3 = n) (k : Go p l e R s m args below meth c n0 Q cells slots h (mkF m n Ls (st))) : Go p l e R s m args below meth c n0 Q cells slots h (mkF m pc Ls (.ref b :: st)) := by
  subst hn
  exact Go.via (fun T locs X _ t q => XS.ifnullNo X.here C.x rfl (hb C.by hd) rfl q) k
theorem G.ifnullY (C : Cx p s m meth c Z y bytes maxL ret) {o : Int} (hd : decode bytes pc = .ok (.ifnull o, 3)) (ho : 0 ≤ (pc : Int) + o) (hp : ((pc : Int) + o).toNat = n) (k : Go p l e R s m args below meth c n0 Q cells slots h (mkF m n Ls (st))) : Go p l e R s m args below meth c n0 Q cells slots h (mkF m pc Ls (.null :: st)) :=
  Go.via (fun T locs X _ t q => XS.ifnullYes X.here C.x rfl rfl (hb C.by hd) rfl ho hp q) k
theorem G.ifnonnullY (C : Cx p s m meth c Z y bytes maxL ret) {b : Addr} {o : Int} (hd : decode bytes pc = .ok (.ifnonnull o, 3)) (ho : 0 ≤ (pc : Int) + o) (hp : ((pc : Int) + o).toNat = n) (k : Go p l e R s m args below meth c n0 Q cells slots h (mkF m n Ls (st))) : Go p l e R s m args below meth c n0 Q cells slots h (mkF m pc Ls (.ref b :: st)) :=
  Go.via (fun T locs X _ t q => XS.ifnonnullYes X.here C.x rfl rfl (hb C.by hd) rfl ho hp q) k
theorem G.ifnonnullN (C : Cx p s m meth c Z y bytes maxL ret) {o : Int} (hd : decode bytes pc = .ok (.ifnonnull o, 3)) (hn : pc + 3 = n) (k : Go p l e R s m args below meth c n0 Q cells slots h (mkF m n Ls (st))) : Go p l e R s m args below meth c n0 Q cells slots h (mkF m pc Ls (.null :: st)) := by
  subst hn
  exact Go.via (fun T locs X _ t q => XS.ifnonnullNo X.here C.x rfl (hb C.by hd) rfl q) k
theorem G.acmp_eq (C : Cx p s m meth c Z y bytes maxL ret) {x1 x2 : Value} {o : Int} (h1 : x1.isRef = true) (h2 : x2.isRef = true) (hd : decode bytes pc = .ok (.if_acmp .eq o, 3)) (ho : 0 ≤ (pc : Int) + o) (hp : ((pc : Int) + o).toNat = n') (hn : pc + 3 = n) (kt : x1 = x2 → Go p l e R s m args below meth c n0 Q cells slots h (mkF m n' Ls (st))) (kf : x1 ≠ x2 → Go p l e R s m args below meth c n0 Q cells slots h (mkF m n Ls (st))) : Go p l e R s m args below meth c n0 Q cells slots h (mkF m pc Ls (x2 :: x1 :: st)) := by
  subst hn
  by_cases r : x1 = x2
  · exact Go.via (fun T locs X _ t q => Jvm.RoadKit.acmp (g := mkF m pc Ls (x2 :: x1 :: st)) X C.x rfl h1 h2 (same := true) rfl (hb C.by hd) rfl (decide_eq_true r) ho (hp.symm) q) (kt r)
  · exact Go.via (fun T locs X _ t q => Jvm.RoadKit.acmp (g := mkF m pc Ls (x2 :: x1 :: st)) X C.x rfl h1 h2 (same := false) rfl (hb C.by hd) rfl (decide_eq_false r) ho (rfl) q) (kf r)
theorem G.acmp_ne (C : Cx p s m meth c Z y bytes maxL ret) {x1 x2 : Value} {o : Int} (h1 : x1.isRef = true) (h2 : x2.isRef = true) (hd : decode bytes pc = .ok (.if_acmp .ne o, 3)) (ho : 0 ≤ (pc : Int) + o) (hp : ((pc : Int) + o).toNat = n') (hn : pc + 3 = n) (kt : x1 ≠ x2 → Go p l e R s m args below meth c n0 Q cells slots h (mkF m n' Ls (st))) (kf : x1 = x2 → Go p l e R s m args below meth c n0 Q cells slots h (mkF m n Ls (st))) : Go p l e R s m args below meth c n0 Q cells slots h (mkF m pc Ls (x2 :: x1 :: st)) := by
  subst hn
  by_cases r : x1 = x2
  · exact Go.via (fun T locs X _ t q => Jvm.RoadKit.acmp (g := mkF m pc Ls (x2 :: x1 :: st)) X C.x rfl h1 h2 (same := true) rfl (hb C.by hd) rfl (decide_eq_true r) ho (rfl) q) (kf r)
  · exact Go.via (fun T locs X _ t q => Jvm.RoadKit.acmp (g := mkF m pc Ls (x2 :: x1 :: st)) X C.x rfl h1 h2 (same := false) rfl (hb C.by hd) rfl (decide_eq_false r) ho (hp.symm) q) (kt r)
theorem G.ldc (C : Cx p s m meth c Z y bytes maxL ret) {index : Nat} {v : Int32} (w : (Jvm.Cond.constant y.cls index v).before a0 Z = true) (hd : decode bytes pc = .ok (.ldc index, 2)) (hn : pc + 2 = n) (k : Go p l e R s m args below meth c n0 Q cells slots h (mkF m n Ls (.int v :: st))) : Go p l e R s m args below meth c n0 Q cells slots h (mkF m pc Ls (st)) := by
  subst hn
  exact Go.via (fun T locs X _ t q => X.ldcInt C.x C.own (mvT C.z w) (g := mkF m pc Ls st) rfl (hb C.by hd) t q) k
theorem G.ldc_w (C : Cx p s m meth c Z y bytes maxL ret) {index : Nat} {v : Int32} (w : (Jvm.Cond.constant y.cls index v).before a0 Z = true) (hd : decode bytes pc = .ok (.ldc_w index, 3)) (hn : pc + 3 = n) (k : Go p l e R s m args below meth c n0 Q cells slots h (mkF m n Ls (.int v :: st))) : Go p l e R s m args below meth c n0 Q cells slots h (mkF m pc Ls (st)) := by
  subst hn
  exact Go.via (fun T locs X _ t q => X.ldcwInt C.x C.own (mvT C.z w) (g := mkF m pc Ls st) rfl (hb C.by hd) t q) k
theorem G.ldc2 (C : Cx p s m meth c Z y bytes maxL ret) {index : Nat} {v : Int64} (w : (Jvm.Cond.constantLong y.cls index v).before a0 Z = true) (hd : decode bytes pc = .ok (.ldc2_w index, 3)) (hn : pc + 3 = n) (k : Go p l e R s m args below meth c n0 Q cells slots h (mkF m n Ls (.long v :: st))) : Go p l e R s m args below meth c n0 Q cells slots h (mkF m pc Ls (st)) := by
  subst hn
  exact Go.via (fun T locs X _ t q => X.ldc2Long C.x C.own (mvT C.z w) (g := mkF m pc Ls st) rfl (hb C.by hd) t q) k
theorem Go.leave (C : Cx p s m meth c Z y bytes maxL ret) {v : Option Value} {f : JFrame} (hv : ret = none → v = none) (hc : cells ≤ R.cells) (hs : slots ≤ R.slots)
    (hret : ∀ T locs, Stand p l e R s m args below meth c T locs cells slots → ∀ fs, (∀ (f : JFrame) (acts : List Action), f.method = m → f.locked = none → f.entered = [] → (doReturn e (T.setTop f) acts v).1 = T.setFrames fs) → Steps p.tables e below (T.setTop f) (T.setFrames fs))
    (q : Q v h) : Go p l e R s m args below meth c n0 Q cells slots h f := fun T locs X N e0 => by
  obtain ⟨fs, hr, hrun, hended, hW, hsame⟩ := X.leave (v := v) (fun q => hv (C.rt.symm.trans q)) C.locks
  refine ⟨_, _, hret T locs X fs hr, hrun, hended, v, locs, rfl, ⟨N, ?_⟩, ⟨_, rfl⟩, hW, hsame.mono hc hs⟩
  show Q v T.heap
  rw [e0]; exact q
theorem G.return_ (C : Cx p s m meth c Z y bytes maxL none) (hd : decode bytes pc = .ok (.return_, 1)) (hc : cells ≤ R.cells) (hs : slots ≤ R.slots) (q : Q none h) : Go p l e R s m args below meth c n0 Q cells slots h (mkF m pc Ls ([])) :=
  Go.leave C (v := none) (fun _ => rfl) hc hs (fun T locs X fs hr => X.returnOut C.x C.rt (hb C.by hd) hr) q
theorem G.ireturn {t : FieldType} (C : Cx p s m meth c Z y bytes maxL (some t)) {x : Int32} (hd : decode bytes pc = .ok (.ireturn, 1)) (hnn : narrow t (.int x) = .int x) (ht : t = .int ∨ t = .boolean ∨ t = .byte ∨ t = .char ∨ t = .short) (hc : cells ≤ R.cells) (hs : slots ≤ R.slots) (q : Q (some (.int x)) h) : Go p l e R s m args below meth c n0 Q cells slots h (mkF m pc Ls (.int x :: st)) :=
  Go.leave C (v := some (.int x)) (fun q => nomatch q) hc hs (fun T locs X fs hr => retOut X C.x C.rt hnn (Or.inl ⟨rfl, ht, _, rfl⟩) (hb C.by hd) hr) q
theorem G.lreturn (C : Cx p s m meth c Z y bytes maxL (some .long)) {x : Int64} (hd : decode bytes pc = .ok (.lreturn, 1)) (hc : cells ≤ R.cells) (hs : slots ≤ R.slots) (q : Q (some (.long x)) h) : Go p l e R s m args below meth c n0 Q cells slots h (mkF m pc Ls (.long x :: st)) :=
  Go.leave C (v := some (.long x)) (fun q => nomatch q) hc hs (fun T locs X fs hr => retOut X C.x C.rt rfl (Or.inr (Or.inl ⟨rfl, rfl, _, rfl⟩)) (hb C.by hd) hr) q
theorem G.areturn {t : FieldType} (C : Cx p s m meth c Z y bytes maxL (some t)) {x : Value} (hd : decode bytes pc = .ok (.areturn, 1)) (ht : t.isReference = true) (hx : x.isRef = true) (hnn : narrow t x = x) (hc : cells ≤ R.cells) (hs : slots ≤ R.slots) (q : Q (some x) h) : Go p l e R s m args below meth c n0 Q cells slots h (mkF m pc Ls (x :: st)) :=
  Go.leave C (v := some x) (fun q => nomatch q) hc hs (fun T locs X fs hr => retOut X C.x C.rt hnn (Or.inr (Or.inr (Or.inr (Or.inr ⟨rfl, ht, hx⟩)))) (hb C.by hd) hr) q
theorem G.getfield (C : Cx p s m meth c Z y bytes maxL ret) {R0 O nm d host : String} {index : Nat} (w : (Jvm.Cond.fieldLink y.cls index R0 nm d).before a0 Z = true ∨ (Jvm.Cond.fieldLinkNest y.cls index R0 nm d host).before a0 Z = true) (via : Via Z R0 O nm d) {a : Addr} {v : Value} (F : Fld Z h a O nm d v) (hd : decode bytes pc = .ok (.getfield index, 3)) (hn : pc + 3 = n) (k : Go p l e R s m args below meth c n0 Q cells slots h (mkF m n Ls (v :: st))) : Go p l e R s m args below meth c n0 Q cells slots h (mkF m pc Ls (.ref a :: st)) := fun T locs X N q => by
  subst hn
  obtain ⟨T', X', e', st'⟩ := getF X C.x C.z C.own w via q F (g := mkF m pc Ls (.ref a :: st)) rfl rfl (hb C.by hd)
  obtain ⟨t, o, s1, r⟩ := k T' locs X' N e'
  exact ⟨t, o, st' t s1, r⟩
theorem G.getstatic (C : Cx p s m meth c Z y bytes maxL ret) {R0 O nm d host : String} {index : Nat} (w : (Jvm.Cond.fieldLink y.cls index R0 nm d).before a0 Z = true ∨ (Jvm.Cond.fieldLinkNest y.cls index R0 nm d host).before a0 Z = true) (via : Via Z R0 O nm d) {v : Value} (F : Sta Z h O nm d v) (hd : decode bytes pc = .ok (.getstatic index, 3)) (hn : pc + 3 = n) (k : Go p l e R s m args below meth c n0 Q cells slots h (mkF m n Ls (v :: st))) : Go p l e R s m args below meth c n0 Q cells slots h (mkF m pc Ls (st)) := fun T locs X N q => by
  subst hn
  obtain ⟨T', X', e', st'⟩ := getS2 X C.x C.z C.own w via q F (g := mkF m pc Ls st) rfl (hb C.by hd)
  obtain ⟨t, o, s1, r⟩ := k T' locs X' N e'
  exact ⟨t, o, st' t s1, r⟩
theorem G.putfield (C : Cx p s m meth c Z y bytes maxL ret) {R0 O nm d host K : String} {index kk : Nat} {ty : FieldType} (w : (Jvm.Cond.fieldLink y.cls index R0 nm d).before a0 Z = true ∨ (Jvm.Cond.fieldLinkNest y.cls index R0 nm d host).before a0 Z = true) (via : Via Z R0 O nm d) {a : Addr} {v old : Value} (F : Fld Z h a O nm d old) (E : Exa Z h a K)
    (L : (Jvm.Cond.lays K O nm d).before a0 Z = true ∨ ((Jvm.Cond.laysFinal K O nm d).before a0 Z = true ∧ y.cls = O ∧ y.name = "<init>")) (wi : (Jvm.Cond.instantiable K kk).before a0 Z = true) (hty : parseFieldDescriptor d = some ty) (hnn : narrow ty v = v) (hf : fits ty v = true) (g : n0 ≤ a)
    (hd : decode bytes pc = .ok (.putfield index, 3)) (hn : pc + 3 = n) (k : ∀ h', Wr h h' a (RoadKit.slotOf Z O nm d) v → Go p l e R s m args below meth c n0 Q cells slots h' (mkF m n Ls (st))) : Go p l e R s m args below meth c n0 Q cells slots h (mkF m pc Ls (v :: .ref a :: st)) := fun T locs X N q => by
  subst hn
  obtain ⟨T', h', X', e', W, st'⟩ := putF X C.x C.z C.own w via q F E (L.imp id fun r => ⟨r.1, r.2.1, C.nm.trans r.2.2⟩) wi hty hnn hf (g := mkF m pc Ls (v :: .ref a :: st)) rfl rfl (hb C.by hd)
  obtain ⟨t, o, s1, r⟩ := k h' W T' _ X' (Fr.snoc X' N g) e'
  exact ⟨t, o, st' t s1, r⟩
theorem G.putfieldN (C : Cx p s m meth c Z y bytes maxL ret) {R0 O nm d K : String} {index kk : Nat} {ty : FieldType} (w : (Jvm.Cond.fieldLink y.cls index R0 nm d).before a0 Z = true) (via : Via Z R0 O nm d) {a : Addr} {v v' old : Value} (F : Fld Z h a O nm d old) (E : Exa Z h a K)
    (L : (Jvm.Cond.lays K O nm d).before a0 Z = true ∨ ((Jvm.Cond.laysFinal K O nm d).before a0 Z = true ∧ y.cls = O ∧ y.name = "<init>")) (wi : (Jvm.Cond.instantiable K kk).before a0 Z = true) (hty : parseFieldDescriptor d = some ty) (hnn : narrow ty v = v') (hf : fits ty v' = true) (g : n0 ≤ a)
    (hd : decode bytes pc = .ok (.putfield index, 3)) (hn : pc + 3 = n) (k : ∀ h', Wr h h' a (RoadKit.slotOf Z O nm d) v' → Go p l e R s m args below meth c n0 Q cells slots h' (mkF m n Ls (st))) : Go p l e R s m args below meth c n0 Q cells slots h (mkF m pc Ls (v :: .ref a :: st)) := fun T locs X N q => by
  subst hn
  obtain ⟨T', h', X', e', W, st'⟩ := putFN X C.x C.z C.own w via q F E (L.imp id fun r => ⟨r.1, r.2.1, C.nm.trans r.2.2⟩) wi hty hnn hf (g := mkF m pc Ls (v :: .ref a :: st)) rfl rfl (hb C.by hd)
  obtain ⟨t, o, s1, r⟩ := k h' W T' _ X' (Fr.snoc X' N g) e'
  exact ⟨t, o, st' t s1, r⟩
theorem G.new (C : Cx p s m meth c Z y bytes maxL ret) {K : String} {index ns c' s' : Nat} (w : (Jvm.Cond.classLink y.cls index K).before a0 Z = true) (wi : (Jvm.Cond.instantiable K ns).before a0 Z = true) (wz : (Jvm.Cond.initialized K).before a0 Z = true) (hd : decode bytes pc = .ok (.new index, 3)) (hn : pc + 3 = n) (hc' : cells + 1 = c') (hs' : slots + ns = s') (hc : c' ≤ R.cells) (hs : s' ≤ R.slots)
    (k : ∀ h' b, b = h.size → Ext h h' → Exa Z h' b K → (∀ {O nm d : String} {ty : FieldType}, Laid Z a0 K O nm d → parseFieldDescriptor d = some ty → Fld Z h' b O nm d (defaultValue ty)) → Go p l e R s m args below meth c n0 Q c' s' h' (mkF m n Ls (.ref b :: st))) : Go p l e R s m args below meth c n0 Q cells slots h (mkF m pc Ls (st)) := fun T locs X N q => by
  subst hn hc' hs'
  obtain ⟨T', h', X', e', E, A, D, -, st'⟩ := newO X C.x C.z C.own w wi wz q (g := mkF m pc Ls st) rfl (hb C.by hd) hc hs
  obtain ⟨t, o, s1, r⟩ := k h' _ rfl E A D T' _ X' N e'
  exact ⟨t, o, st' t s1, r⟩
theorem G.objinit (C : Cx p s m meth c Z y bytes maxL ret) {index W : Nat} (w1 : (Jvm.Cond.methodLink y.cls index Lib.objectInit).before a0 Z = true) (w2 : (Jvm.Cond.instanceMethod Lib.objectInit).before a0 Z = true) (w3 : (Jvm.Cond.code Lib.objectInit ⟨#[0xb1]⟩ 1 none).before a0 Z = true) {a : Addr} (hd : decode bytes pc = .ok (.invokespecial index, 3)) (hsz : Ls.size = maxL) (hf : 1 ≤ R.frames) (hW : (st.map fun v => v.category).sum = W) (hl : W + 12 ≤ R.locals) (hn : pc + 3 = n) (k : Go p l e R s m args below meth c n0 Q cells slots h (mkF m n Ls (st))) : Go p l e R s m args below meth c n0 Q cells slots h (mkF m pc Ls (.ref a :: st)) := fun T locs X N q => by
  subst hn hW
  obtain ⟨T', X', e', st'⟩ := initO X C.x C.z C.own w1 w2 w3 q (g := mkF m pc Ls (.ref a :: st)) rfl (hsz.trans C.ml.symm) rfl (hb C.by hd) hf (W := (st.map fun v => v.category).sum) (by show 2 * 0 + _ ≤ _; omega) hl
  obtain ⟨t, o, s1, r⟩ := k T' locs X' N e'
  exact ⟨t, o, st' t s1, r⟩
theorem G.callS (C : Cx p s m meth c Z y bytes maxL ret) {index W : Nat} {yc : MethodName} {bc : ByteArray} {mc : Nat} {rc : Option FieldType} {rm : Room} {c' s' : Nat} {Qc : Option Value → Heap → Prop} {ps : List FieldType} {argsL stk : List Value} (w1 : (Jvm.Cond.methodLink y.cls index yc).before a0 Z = true) (w2 : (Jvm.Cond.static yc).before a0 Z = true) (w3 : (Jvm.Cond.initialized yc.cls).before a0 Z = true) (w4 : (Jvm.Cond.code yc bc mc rc).before a0 Z = true) (hy : yc.cls ≠ "java/lang/invoke/MethodHandle" ∧ yc.cls ≠ "java/lang/invoke/VarHandle") (M : Met l Z yc bc mc rc rm argsL.toArray h n0 Qc) (hsz : Ls.size = maxL) (hf : rm.frames + 1 ≤ R.frames) (hW : (st.map fun v => v.category).sum = W) (hl : W + (mc + 11) + rm.locals ≤ R.locals) (hc' : cells + rm.cells = c') (hs' : slots + rm.slots = s') (hc : c' ≤ R.cells) (hs : s' ≤ R.slots) (hd : decode bytes pc = .ok (.invokestatic index, 3)) (hn : pc + 3 = n) (hlen : parseMethodDescriptor yc.desc = some ⟨ps, rc⟩) (hal : argsL.length = ps.length) (hst : stk = argsL.reverse ++ st) (k : ∀ v h', Qc v h' → Go p l e R s m args below meth c n0 Q c' s' h' (mkF m n Ls (v.toList ++ st))) : Go p l e R s m args below meth c n0 Q cells slots h (mkF m pc Ls (stk)) := fun T locs X N q => by
  subst hn hW hc' hs' hst
  obtain ⟨v, _, ⟨T', L', k', n''⟩, -, X', ⟨Lc, hQ, h1, h2, h3⟩, st'⟩ := Jvm.LawKit.callS X C.x (y := yc) C.own (mvT C.z w1) (mvT C.z w2) (mvT C.z w3) (mvT C.z w4) hy (backOf (W := (st.map fun v => v.category).sum) (Q := fun v h L => Fr n0 L ∧ Qc v h) (M []) C.z w4 w3 hf hl) (g := mkF m pc Ls (argsL.reverse ++ st)) rfl (hsz.trans C.ml.symm) (argsL := argsL) (rest := st) (lenOf hlen hal) rfl (by show 2 * 0 + _ ≤ _; omega) (hb C.by hd) (fun _ _ => ⟨rfl, q, hc, hs⟩)
  dsimp only [Pt.U, Pt.locs, Pt.cells, Pt.slots] at X' h1 h2 h3 st' hQ
  subst h1 h2 h3
  obtain ⟨t, o, s1, r⟩ := k v _ hQ.2 T' _ X' (Fr.app N hQ.1) rfl
  exact ⟨t, o, st' t s1, r⟩
theorem G.callC (C : Cx p s m meth c Z y bytes maxL ret) {index W : Nat} {yc : MethodName} {bc : ByteArray} {mc : Nat} {rm : Room} {c' s' : Nat} {Qc : Option Value → Heap → Prop} {ps : List FieldType} {argsL stk : List Value} {a : Addr} (hy1 : yc.name = "<init>") (w1 : (Jvm.Cond.methodLink y.cls index yc).before a0 Z = true) (w2 : (Jvm.Cond.instanceMethod yc).before a0 Z = true) (w3 : (Jvm.Cond.initialized yc.cls).before a0 Z = true) (w4 : (Jvm.Cond.code yc bc mc none).before a0 Z = true) (hy : yc.cls ≠ "java/lang/invoke/MethodHandle" ∧ yc.cls ≠ "java/lang/invoke/VarHandle") (M : Met l Z yc bc mc none rm (.ref a :: argsL).toArray h n0 Qc) (hsz : Ls.size = maxL) (hf : rm.frames + 1 ≤ R.frames) (hW : (st.map fun v => v.category).sum = W) (hl : W + (mc + 11) + rm.locals ≤ R.locals) (hc' : cells + rm.cells = c') (hs' : slots + rm.slots = s') (hc : c' ≤ R.cells) (hs : s' ≤ R.slots) (hd : decode bytes pc = .ok (.invokespecial index, 3)) (hn : pc + 3 = n) (hlen : parseMethodDescriptor yc.desc = some ⟨ps, none⟩) (hal : argsL.length = ps.length) (hst : stk = argsL.reverse ++ .ref a :: st) (k : ∀ v h', Qc v h' → Go p l e R s m args below meth c n0 Q c' s' h' (mkF m n Ls (v.toList ++ st))) : Go p l e R s m args below meth c n0 Q cells slots h (mkF m pc Ls (stk)) := fun T locs X N q => by
  subst hn hW hc' hs' hst
  obtain ⟨v, _, ⟨T', L', k', n''⟩, -, X', ⟨Lc, hQ, h1, h2, h3⟩, st'⟩ := X.specialBack C.x (y := yc) hy1 C.own (mvT C.z w1) (mvT C.z w2) (mvT C.z w4) hy (backOf (W := (st.map fun v => v.category).sum) (Q := fun v h L => Fr n0 L ∧ Qc v h) (M []) C.z w4 w3 hf hl) (g := mkF m pc Ls (argsL.reverse ++ .ref a :: st)) rfl (hsz.trans C.ml.symm) (Steps.refl _) (a := a) (argsL := argsL) (rest := st) (lenOf hlen hal) rfl (by show 2 * 0 + _ ≤ _; omega) (hb C.by hd) (fun _ _ => ⟨rfl, q, hc, hs⟩)
  dsimp only [Pt.U, Pt.locs, Pt.cells, Pt.slots] at X' h1 h2 h3 st' hQ
  subst h1 h2 h3
  obtain ⟨t, o, s1, r⟩ := k v _ hQ.2 T' _ X' (Fr.app N hQ.1) rfl
  exact ⟨t, o, st'.trans s1, r⟩
theorem G.callV (C : Cx p s m meth c Z y bytes maxL ret) {index W : Nat} {yc : MethodName} {bc : ByteArray} {mc : Nat} {rc : Option FieldType} {rm : Room} {c' s' : Nat} {Qc : Option Value → Heap → Prop} {ps : List FieldType} {K : String} {yr : MethodName} {argsL stk : List Value} {a : Addr} (E : Exa Z h a K) (w1 : (Jvm.Cond.methodLink y.cls index yr).before a0 Z = true) (w5 : (Jvm.Cond.declares yr).before a0 Z = true) (hnf : ∀ s : State, Z.Warmed39 s.vm → NotFace s yr) (w6 : (Jvm.Cond.selects K yr yc).before a0 Z = true) (w2 : (Jvm.Cond.instanceMethod yc).before a0 Z = true) (w3 : (Jvm.Cond.initialized yc.cls).before a0 Z = true) (w4 : (Jvm.Cond.code yc bc mc rc).before a0 Z = true) (hy : yr.cls ≠ "java/lang/invoke/MethodHandle" ∧ yr.cls ≠ "java/lang/invoke/VarHandle") (M : Met l Z yc bc mc rc rm (.ref a :: argsL).toArray h n0 Qc) (hsz : Ls.size = maxL) (hf : rm.frames + 1 ≤ R.frames) (hW : (st.map fun v => v.category).sum = W) (hl : W + (mc + 11) + rm.locals ≤ R.locals) (hc' : cells + rm.cells = c') (hs' : slots + rm.slots = s') (hc : c' ≤ R.cells) (hs : s' ≤ R.slots) (hd : decode bytes pc = .ok (.invokevirtual index, 3)) (hn : pc + 3 = n) (hlen : parseMethodDescriptor yr.desc = some ⟨ps, rc⟩) (hal : argsL.length = ps.length) (hst : stk = argsL.reverse ++ .ref a :: st) (k : ∀ v h', Qc v h' → Go p l e R s m args below meth c n0 Q c' s' h' (mkF m n Ls (v.toList ++ st))) : Go p l e R s m args below meth c n0 Q cells slots h (mkF m pc Ls (stk)) := fun T locs X N q => by
  subst hn hW hc' hs' hst
  obtain ⟨cq, kq, qa, qb, qc⟩ := isOf C.z q E
  obtain ⟨v, _, ⟨T', L', k', n''⟩, -, X', ⟨Lc, hQ, h1, h2, h3⟩, st'⟩ := X.virtualBack C.x (y := yr) (z := yc) C.own (mvT C.z w1) (mvT C.z w5) (hnf s C.z) (mvT C.z w6) (mvT C.z w2) hy (backOf (W := (st.map fun v => v.category).sum) (Q := fun v h L => Fr n0 L ∧ Qc v h) (M []) C.z w4 w3 hf hl) qa qc (g := mkF m pc Ls (argsL.reverse ++ .ref a :: st)) rfl (hsz.trans C.ml.symm) (Steps.refl _) (argsL := argsL) (rest := st) (lenOf hlen hal) rfl (by show 2 * 0 + _ ≤ _; omega) (hb C.by hd) (fun _ _ => ⟨rfl, q, hc, hs⟩)
  dsimp only [Pt.U, Pt.locs, Pt.cells, Pt.slots] at X' h1 h2 h3 st' hQ
  subst h1 h2 h3
  obtain ⟨t, o, s1, r⟩ := k v _ hQ.2 T' _ X' (Fr.app N hQ.1) rfl
  exact ⟨t, o, st'.trans s1, r⟩
theorem nfS {yr : MethodName} {K : String} {z : MethodName} (w6 : (Jvm.Cond.selects K yr z).before a0 Z = true) (hz : z = yr) : ∀ s : State, Z.Warmed39 s.vm → NotFace s yr := fun s hZ => by
  subst hz
  exact notFace_of_selects (args := #[]) (mvT hZ w6)
def Ints (Z : State) (h : Heap) (a : Addr) (ty : FieldType) (vs : List Int32) : Prop := ∃ k z, Arv Z h a k ty z (vs.map Value.int) (.int 0) ∧ z.toInt = vs.length
def Longs (Z : State) (h : Heap) (a : Addr) (vs : List Int64) : Prop := ∃ k z, Arv Z h a k .long z (vs.map Value.long) (.long 0) ∧ z.toInt = vs.length
theorem nat_clamp {j : Int32} : j.toNatClampNeg = j.toInt.toNat := rfl
theorem not_neg {j : Int32} (hj : 0 ≤ j.toInt) : ¬ j < 0 := by rw [lt_i]; exact Int.not_lt.mpr hj
theorem of_not_neg {j : Int32} (hj : ¬ j < 0) : 0 ≤ j.toInt := by rw [lt_i] at hj; exact Int.not_lt.mp hj
theorem inb {j z : Int32} {cl : Cell} {len : Nat} (hj : 0 ≤ j.toInt) (S : cl.slots.size = z.toNatClampNeg) (hz : z.toInt = len) (hl : j.toInt.toNat < len) : ¬ (j < 0 ∨ cl.slots.size ≤ j.toNatClampNeg) := by
  rintro (q | q)
  · exact not_neg hj q
  · rw [S, nat_clamp, nat_clamp, hz] at q; omega
theorem getD_map {α : Type} (f : α → Value) (vs : List α) (i : Nat) (d : Value) {x : α} (hx : vs[i]? = some x) : (vs.map f).getD i d = f x := by
  rw [List.getD_eq_getElem?_getD, List.getElem?_map, hx]; rfl
theorem lt_of_some {α : Type} {vs : List α} {i : Nat} {x : α} (hx : vs[i]? = some x) : i < vs.length := (List.getElem?_eq_some_iff.mp hx).1
theorem Ints.lt {a : Addr} {ty : FieldType} {vs : List Int32} (F : Ints Z h a ty vs) : a < h.size := by obtain ⟨k, z, A, -⟩ := F; exact A.lt
theorem Ints.ext {h' : Heap} {a : Addr} {ty : FieldType} {vs : List Int32} (F : Ints Z h a ty vs) (E : Ext h h') : Ints Z h' a ty vs := by obtain ⟨k, z, A, q⟩ := F; exact ⟨k, z, A.ext E, q⟩
theorem Ints.keep {h' : Heap} {ws : List Addr} {a : Addr} {ty : FieldType} {vs : List Int32} (F : Ints Z h a ty vs) (K : Keep h h' ws) (r : a ∉ ws) : Ints Z h' a ty vs := by obtain ⟨k, z, A, q⟩ := F; exact ⟨k, z, A.keep K r, q⟩
theorem Ints.other {h' : Heap} {sl : Nat} {v : Value} {a b : Addr} {ty : FieldType} {vs : List Int32} (F : Ints Z h a ty vs) (W : Wr h h' b sl v) (r : a ≠ b) : Ints Z h' a ty vs := by obtain ⟨k, z, A, q⟩ := F; exact ⟨k, z, A.other W r, q⟩
theorem Ints.len {a : Addr} {ty : FieldType} {vs : List Int32} (F : Ints Z h a ty vs) : (vs.length : Int) < 2147483648 := by obtain ⟨k, z, A, q⟩ := F; rw [← q]; exact (rng32 z).2
theorem Ints.at {a : Addr} {ty : FieldType} {vs : List Int32} (F : Ints Z h a ty vs) {j : Int32} {x : Int32} (hj : 0 ≤ j.toInt) (hx : vs[j.toInt.toNat]? = some x) : ∃ cl, Arr Z h a cl ty ∧ ¬ (j < 0 ∨ cl.slots.size ≤ j.toNatClampNeg) ∧ cl.slots[j.toNatClampNeg]? = some (.int x) ∧ fits ty (.int x) = true := by
  obtain ⟨k, z, ⟨cl, A, q1, S, N, H, G⟩, hz⟩ := F
  have hi := inb hj S hz (lt_of_some hx)
  have hi2 : j.toNatClampNeg < cl.slots.size := Nat.lt_of_not_le fun y => hi (Or.inr y)
  have e1 := H _ hi2
  have e2 := G _ hi2
  rw [nat_clamp, getD_map _ _ _ _ hx] at e1 e2
  exact ⟨cl, A, hi, e1, e2⟩
theorem Ints.put {h' : Heap} {a : Addr} {ty : FieldType} {vs : List Int32} (F : Ints Z h a ty vs) {j : Int32} {x : Int32} (hj : 0 ≤ j.toInt) (hl : j.toInt < vs.length) (hf : fits ty (.int x) = true) : ∃ cl, Arr Z h a cl ty ∧ ¬ (j < 0 ∨ cl.slots.size ≤ j.toNatClampNeg) ∧ (Wr h h' a j.toNatClampNeg (.int x) → Ints Z h' a ty (vs.set j.toInt.toNat x)) := by
  obtain ⟨k, z, ⟨cl, A, q1, S, N, H, G⟩, hz⟩ := F
  have hl2 : j.toInt.toNat < vs.length := by omega
  refine ⟨cl, A, inb hj S hz hl2, fun W => ⟨k, z, ?_, ?_⟩⟩
  · have r := Arv.set A q1 S N H G hf W j.toInt.toNat rfl (by rw [List.length_map]; exact hl2)
    rw [List.map_set]; exact r
  · rw [List.length_set]; exact hz
theorem Longs.lt {a : Addr} {vs : List Int64} (F : Longs Z h a vs) : a < h.size := by obtain ⟨k, z, A, -⟩ := F; exact A.lt
theorem Longs.ext {h' : Heap} {a : Addr} {vs : List Int64} (F : Longs Z h a vs) (E : Ext h h') : Longs Z h' a vs := by obtain ⟨k, z, A, q⟩ := F; exact ⟨k, z, A.ext E, q⟩
theorem Longs.keep {h' : Heap} {ws : List Addr} {a : Addr} {vs : List Int64} (F : Longs Z h a vs) (K : Keep h h' ws) (r : a ∉ ws) : Longs Z h' a vs := by obtain ⟨k, z, A, q⟩ := F; exact ⟨k, z, A.keep K r, q⟩
theorem Longs.other {h' : Heap} {sl : Nat} {v : Value} {a b : Addr} {vs : List Int64} (F : Longs Z h a vs) (W : Wr h h' b sl v) (r : a ≠ b) : Longs Z h' a vs := by obtain ⟨k, z, A, q⟩ := F; exact ⟨k, z, A.other W r, q⟩
theorem Longs.len {a : Addr} {vs : List Int64} (F : Longs Z h a vs) : (vs.length : Int) < 2147483648 := by obtain ⟨k, z, A, q⟩ := F; rw [← q]; exact (rng32 z).2
theorem Longs.at {a : Addr} {vs : List Int64} (F : Longs Z h a vs) {j : Int32} {x : Int64} (hj : 0 ≤ j.toInt) (hx : vs[j.toInt.toNat]? = some x) : ∃ cl, Arr Z h a cl .long ∧ ¬ (j < 0 ∨ cl.slots.size ≤ j.toNatClampNeg) ∧ cl.slots[j.toNatClampNeg]? = some (.long x) ∧ fits .long (.long x) = true := by
  obtain ⟨k, z, ⟨cl, A, q1, S, N, H, G⟩, hz⟩ := F
  have hi := inb hj S hz (lt_of_some hx)
  have hi2 : j.toNatClampNeg < cl.slots.size := Nat.lt_of_not_le fun y => hi (Or.inr y)
  have e1 := H _ hi2
  have e2 := G _ hi2
  rw [nat_clamp, getD_map _ _ _ _ hx] at e1 e2
  exact ⟨cl, A, hi, e1, e2⟩
theorem Longs.put {h' : Heap} {a : Addr} {vs : List Int64} (F : Longs Z h a vs) {j : Int32} {x : Int64} (hj : 0 ≤ j.toInt) (hl : j.toInt < vs.length) (hf : fits .long (.long x) = true) : ∃ cl, Arr Z h a cl .long ∧ ¬ (j < 0 ∨ cl.slots.size ≤ j.toNatClampNeg) ∧ (Wr h h' a j.toNatClampNeg (.long x) → Longs Z h' a (vs.set j.toInt.toNat x)) := by
  obtain ⟨k, z, ⟨cl, A, q1, S, N, H, G⟩, hz⟩ := F
  have hl2 : j.toInt.toNat < vs.length := by omega
  refine ⟨cl, A, inb hj S hz hl2, fun W => ⟨k, z, ?_, ?_⟩⟩
  · have r := Arv.set A q1 S N H G hf W j.toInt.toNat rfl (by rw [List.length_map]; exact hl2)
    rw [List.map_set]; exact r
  · rw [List.length_set]; exact hz
theorem G.iaload (C : Cx p s m meth c Z y bytes maxL ret) {a : Addr} {j : Int32} {x : Int32} {vs : List Int32} (F : Ints Z h a .int vs) (hj : 0 ≤ j.toInt) (hx : vs[j.toInt.toNat]? = some x) (hd : decode bytes pc = .ok (.iaload, 1)) (hn : pc + 1 = n) (k : Go p l e R s m args below meth c n0 Q cells slots h (mkF m n Ls (.int x :: st))) : Go p l e R s m args below meth c n0 Q cells slots h (mkF m pc Ls (.int j :: .ref a :: st)) := by
  subst hn
  obtain ⟨cl, A, h1, h2, -⟩ := F.at hj hx
  exact Go.via (fun T locs X q t r => X.iaload C.x (j := j) (v := .int x) (by rw [q]; exact A.1) (State.isArrayOf_alike C.z.alike A.2.1) A.2.2 h1 h2 (g := mkF m pc Ls (.int j :: .ref a :: st)) rfl rfl (hb C.by hd) t r) k
theorem G.laload (C : Cx p s m meth c Z y bytes maxL ret) {a : Addr} {j : Int32} {x : Int64} {vs : List Int64} (F : Longs Z h a vs) (hj : 0 ≤ j.toInt) (hx : vs[j.toInt.toNat]? = some x) (hd : decode bytes pc = .ok (.laload, 1)) (hn : pc + 1 = n) (k : Go p l e R s m args below meth c n0 Q cells slots h (mkF m n Ls (.long x :: st))) : Go p l e R s m args below meth c n0 Q cells slots h (mkF m pc Ls (.int j :: .ref a :: st)) := by
  subst hn
  obtain ⟨cl, A, h1, h2, -⟩ := F.at hj hx
  exact Go.via (fun T locs X q t r => X.laload C.x (j := j) (v := .long x) (by rw [q]; exact A.1) (State.isArrayOf_alike C.z.alike A.2.1) A.2.2 h1 h2 (g := mkF m pc Ls (.int j :: .ref a :: st)) rfl rfl (hb C.by hd) t r) k
theorem G.caload (C : Cx p s m meth c Z y bytes maxL ret) {a : Addr} {j : Int32} {x : Int32} {vs : List Int32} (F : Ints Z h a .char vs) (hj : 0 ≤ j.toInt) (hx : vs[j.toInt.toNat]? = some x) (hd : decode bytes pc = .ok (.caload, 1)) (hn : pc + 1 = n) (k : Go p l e R s m args below meth c n0 Q cells slots h (mkF m n Ls (.int x :: st))) : Go p l e R s m args below meth c n0 Q cells slots h (mkF m pc Ls (.int j :: .ref a :: st)) := by
  subst hn
  obtain ⟨cl, A, h1, h2, -⟩ := F.at hj hx
  exact Go.via (fun T locs X q t r => X.caload C.x (j := j) (v := .int x) (by rw [q]; exact A.1) (State.isArrayOf_alike C.z.alike A.2.1) A.2.2 h1 h2 (g := mkF m pc Ls (.int j :: .ref a :: st)) rfl rfl (hb C.by hd) t r) k
theorem G.baload (C : Cx p s m meth c Z y bytes maxL ret) {a : Addr} {j : Int32} {x : Int32} {vs : List Int32} (F : Ints Z h a .byte vs) (hj : 0 ≤ j.toInt) (hx : vs[j.toInt.toNat]? = some x) (hd : decode bytes pc = .ok (.baload, 1)) (hn : pc + 1 = n) (k : Go p l e R s m args below meth c n0 Q cells slots h (mkF m n Ls (.int x :: st))) : Go p l e R s m args below meth c n0 Q cells slots h (mkF m pc Ls (.int j :: .ref a :: st)) := by
  subst hn
  obtain ⟨cl, A, h1, h2, -⟩ := F.at hj hx
  exact Go.via (fun T locs X q t r => X.baloadBytes C.x (j := j) (v := .int x) (by rw [q]; exact A.1) (State.isArrayOf_alike C.z.alike A.2.1) A.2.2 h1 h2 (g := mkF m pc Ls (.int j :: .ref a :: st)) rfl rfl (hb C.by hd) t r) k
theorem G.baloadZ (C : Cx p s m meth c Z y bytes maxL ret) {a : Addr} {j : Int32} {x : Int32} {vs : List Int32} (F : Ints Z h a .boolean vs) (hj : 0 ≤ j.toInt) (hx : vs[j.toInt.toNat]? = some x) (hd : decode bytes pc = .ok (.baload, 1)) (hn : pc + 1 = n) (k : Go p l e R s m args below meth c n0 Q cells slots h (mkF m n Ls (.int x :: st))) : Go p l e R s m args below meth c n0 Q cells slots h (mkF m pc Ls (.int j :: .ref a :: st)) := by
  subst hn
  obtain ⟨cl, A, h1, h2, -⟩ := F.at hj hx
  exact Go.via (fun T locs X q t r => X.baloadBooleans C.x (j := j) (v := .int x) (by rw [q]; exact A.1) (State.isArrayOf_alike C.z.alike A.2.1) A.2.2 h1 h2 (g := mkF m pc Ls (.int j :: .ref a :: st)) rfl rfl (hb C.by hd) t r) k
theorem G.iastore (C : Cx p s m meth c Z y bytes maxL ret) {a : Addr} {j : Int32} {x : Int32} {vs : List Int32} (F : Ints Z h a .int vs) (hj : 0 ≤ j.toInt) (hl : j.toInt < vs.length) (g : n0 ≤ a) (hd : decode bytes pc = .ok (.iastore, 1)) (hn : pc + 1 = n) (k : ∀ h', Keep h h' [a] → (∃ w, Wr h h' a j.toNatClampNeg w) → Ints Z h' a .int (vs.set j.toInt.toNat x) → Go p l e R s m args below meth c n0 Q cells slots h' (mkF m n Ls (st))) : Go p l e R s m args below meth c n0 Q cells slots h (mkF m pc Ls (.int x :: .int j :: .ref a :: st)) := fun T locs X N q => by
  subst hn
  obtain ⟨cl, A, h1, -⟩ := F.put (h' := h) hj hl (x := x) rfl
  obtain ⟨T', h', X', e', W, st'⟩ := stI X C.x C.z q A (j := j) h1 (g := mkF m pc Ls (.int x :: .int j :: .ref a :: st)) rfl rfl (hb C.by hd)
  obtain ⟨cl2, A2, -, h3⟩ := F.put (h' := h') hj hl (x := x) rfl
  obtain ⟨t, o, s1, r⟩ := k h' (Keep.of_wr W) ⟨_, W⟩ (h3 W) T' _ X' (Fr.snoc X' N g) e'
  exact ⟨t, o, st' t s1, r⟩
theorem G.lastore (C : Cx p s m meth c Z y bytes maxL ret) {a : Addr} {j : Int32} {x : Int64} {vs : List Int64} (F : Longs Z h a vs) (hj : 0 ≤ j.toInt) (hl : j.toInt < vs.length) (g : n0 ≤ a) (hd : decode bytes pc = .ok (.lastore, 1)) (hn : pc + 1 = n) (k : ∀ h', Keep h h' [a] → (∃ w, Wr h h' a j.toNatClampNeg w) → Longs Z h' a (vs.set j.toInt.toNat x) → Go p l e R s m args below meth c n0 Q cells slots h' (mkF m n Ls (st))) : Go p l e R s m args below meth c n0 Q cells slots h (mkF m pc Ls (.long x :: .int j :: .ref a :: st)) := fun T locs X N q => by
  subst hn
  obtain ⟨cl, A, h1, -⟩ := F.put (h' := h) hj hl (x := x) rfl
  obtain ⟨T', h', X', e', W, st'⟩ := stJ X C.x C.z q A (j := j) h1 (g := mkF m pc Ls (.long x :: .int j :: .ref a :: st)) rfl rfl (hb C.by hd)
  obtain ⟨cl2, A2, -, h3⟩ := F.put (h' := h') hj hl (x := x) rfl
  obtain ⟨t, o, s1, r⟩ := k h' (Keep.of_wr W) ⟨_, W⟩ (h3 W) T' _ X' (Fr.snoc X' N g) e'
  exact ⟨t, o, st' t s1, r⟩
theorem G.castore (C : Cx p s m meth c Z y bytes maxL ret) {a : Addr} {j : Int32} {x : Int32} {vs : List Int32} (F : Ints Z h a .char vs) (hj : 0 ≤ j.toInt) (hl : j.toInt < vs.length) (g : n0 ≤ a) (hd : decode bytes pc = .ok (.castore, 1)) (hn : pc + 1 = n) (k : ∀ h', Keep h h' [a] → (∃ w, Wr h h' a j.toNatClampNeg w) → Ints Z h' a .char (vs.set j.toInt.toNat (nar .char x)) → Go p l e R s m args below meth c n0 Q cells slots h' (mkF m n Ls (st))) : Go p l e R s m args below meth c n0 Q cells slots h (mkF m pc Ls (.int x :: .int j :: .ref a :: st)) := fun T locs X N q => by
  subst hn
  obtain ⟨cl, A, h1, -⟩ := F.put (h' := h) hj hl (x := (nar .char x)) (fits_nar_char x)
  obtain ⟨T', h', X', e', W, st'⟩ := stC X C.x C.z q A (j := j) h1 (g := mkF m pc Ls (.int x :: .int j :: .ref a :: st)) rfl rfl (hb C.by hd)
  obtain ⟨cl2, A2, -, h3⟩ := F.put (h' := h') hj hl (x := (nar .char x)) (fits_nar_char x)
  obtain ⟨t, o, s1, r⟩ := k h' (Keep.of_wr W) ⟨_, W⟩ (h3 W) T' _ X' (Fr.snoc X' N g) e'
  exact ⟨t, o, st' t s1, r⟩
theorem G.bastore (C : Cx p s m meth c Z y bytes maxL ret) {a : Addr} {j : Int32} {x : Int32} {vs : List Int32} (F : Ints Z h a .byte vs) (hj : 0 ≤ j.toInt) (hl : j.toInt < vs.length) (g : n0 ≤ a) (hd : decode bytes pc = .ok (.bastore, 1)) (hn : pc + 1 = n) (k : ∀ h', Keep h h' [a] → (∃ w, Wr h h' a j.toNatClampNeg w) → Ints Z h' a .byte (vs.set j.toInt.toNat (nar .byte x)) → Go p l e R s m args below meth c n0 Q cells slots h' (mkF m n Ls (st))) : Go p l e R s m args below meth c n0 Q cells slots h (mkF m pc Ls (.int x :: .int j :: .ref a :: st)) := fun T locs X N q => by
  subst hn
  obtain ⟨cl, A, h1, -⟩ := F.put (h' := h) hj hl (x := (nar .byte x)) (fits_nar_byte x)
  obtain ⟨T', h', X', e', W, st'⟩ := stB X C.x C.z q A (j := j) h1 (g := mkF m pc Ls (.int x :: .int j :: .ref a :: st)) rfl rfl (hb C.by hd)
  obtain ⟨cl2, A2, -, h3⟩ := F.put (h' := h') hj hl (x := (nar .byte x)) (fits_nar_byte x)
  obtain ⟨t, o, s1, r⟩ := k h' (Keep.of_wr W) ⟨_, W⟩ (h3 W) T' _ X' (Fr.snoc X' N g) e'
  exact ⟨t, o, st' t s1, r⟩
theorem G.bastoreZ (C : Cx p s m meth c Z y bytes maxL ret) {a : Addr} {j : Int32} {x : Int32} {vs : List Int32} (F : Ints Z h a .boolean vs) (hj : 0 ≤ j.toInt) (hl : j.toInt < vs.length) (g : n0 ≤ a) (hd : decode bytes pc = .ok (.bastore, 1)) (hn : pc + 1 = n) (k : ∀ h', Keep h h' [a] → (∃ w, Wr h h' a j.toNatClampNeg w) → Ints Z h' a .boolean (vs.set j.toInt.toNat (nar .boolean x)) → Go p l e R s m args below meth c n0 Q cells slots h' (mkF m n Ls (st))) : Go p l e R s m args below meth c n0 Q cells slots h (mkF m pc Ls (.int x :: .int j :: .ref a :: st)) := fun T locs X N q => by
  subst hn
  obtain ⟨cl, A, h1, -⟩ := F.put (h' := h) hj hl (x := (nar .boolean x)) (fits_nar_bool x)
  obtain ⟨T', h', X', e', W, st'⟩ := stZ X C.x C.z q A (j := j) h1 (g := mkF m pc Ls (.int x :: .int j :: .ref a :: st)) rfl rfl (hb C.by hd)
  obtain ⟨cl2, A2, -, h3⟩ := F.put (h' := h') hj hl (x := (nar .boolean x)) (fits_nar_bool x)
  obtain ⟨t, o, s1, r⟩ := k h' (Keep.of_wr W) ⟨_, W⟩ (h3 W) T' _ X' (Fr.snoc X' N g) e'
  exact ⟨t, o, st' t s1, r⟩
theorem len32 {z : Int32} {k : Nat} (hz : z.toInt = k) : z = Int32.ofNat k := by
  have h2 := (rng32 z).2
  exact Int32.toInt_inj.mp (by rw [Int32.toInt_ofNat_of_lt (by omega)]; exact hz)
theorem G.arraylengthI (C : Cx p s m meth c Z y bytes maxL ret) {a : Addr} {ty : FieldType} {vs : List Int32} {len : Int32} (F : Ints Z h a ty vs) (hlen : len.toInt = vs.length) (hd : decode bytes pc = .ok (.arraylength, 1)) (hn : pc + 1 = n) (k : Go p l e R s m args below meth c n0 Q cells slots h (mkF m n Ls (.int len :: st))) : Go p l e R s m args below meth c n0 Q cells slots h (mkF m pc Ls (.ref a :: st)) := by
  subst hn
  obtain ⟨k', z, ⟨cl, A, q1, S, N, H, G⟩, hz⟩ := F
  have e1 : cl.slots.size.toInt32 = len := (len_of S N).trans (Int32.toInt_inj.mp (hz.trans hlen.symm))
  exact Go.via (fun T locs X q t r => X.arraylength C.x (by rw [q]; exact A.1) (State.isArrayOf_alike C.z.alike A.2.1) (g := mkF m pc Ls (.ref a :: st)) rfl rfl (hb C.by hd) t (by rw [e1]; exact r)) k
theorem G.arraylengthL (C : Cx p s m meth c Z y bytes maxL ret) {a : Addr} {vs : List Int64} {len : Int32} (F : Longs Z h a vs) (hlen : len.toInt = vs.length) (hd : decode bytes pc = .ok (.arraylength, 1)) (hn : pc + 1 = n) (k : Go p l e R s m args below meth c n0 Q cells slots h (mkF m n Ls (.int len :: st))) : Go p l e R s m args below meth c n0 Q cells slots h (mkF m pc Ls (.ref a :: st)) := by
  subst hn
  obtain ⟨k', z, ⟨cl, A, q1, S, N, H, G⟩, hz⟩ := F
  have e1 : cl.slots.size.toInt32 = len := (len_of S N).trans (Int32.toInt_inj.mp (hz.trans hlen.symm))
  exact Go.via (fun T locs X q t r => X.arraylength C.x (by rw [q]; exact A.1) (State.isArrayOf_alike C.z.alike A.2.1) (g := mkF m pc Ls (.ref a :: st)) rfl rfl (hb C.by hd) t (by rw [e1]; exact r)) k
theorem G.newarray (C : Cx p s m meth c Z y bytes maxL ret) {aty : ArrayType} {ty : FieldType} {len : Int32} {cap c' s' : Nat} (w : (Jvm.Cond.arrayClass ty).before a0 Z = true) (hty : newarray.typeOf aty = ty) (hdv : defaultValue ty = .int 0) (hlen : 0 ≤ len.toInt) (hcap : len.toInt ≤ cap) (hbig : cap * 8 ≤ 536870912) (hd : decode bytes pc = .ok (.newarray aty, 2)) (hn : pc + 2 = n) (hc' : cells + 1 = c') (hs' : slots + cap = s') (hc : c' ≤ R.cells) (hs : s' ≤ R.slots)
    (k : ∀ h' b, b = h.size → Ext h h' → Ints Z h' b ty (List.replicate len.toInt.toNat 0) → Go p l e R s m args below meth c n0 Q c' s' h' (mkF m n Ls (.ref b :: st))) : Go p l e R s m args below meth c n0 Q cells slots h (mkF m pc Ls (.int len :: st)) := fun T locs X N q => by
  subst hn hc' hs' hty
  obtain ⟨T', h', cA, X', e', E, A, st'⟩ := newP X C.x C.z w q (g := mkF m pc Ls (.int len :: st)) rfl (hb C.by hd) rfl (not_neg hlen) (cap := cap) (by rw [nat_clamp]; omega) hbig hc hs
  have V := (Arv.new A (not_neg hlen))
  rw [hdv] at V
  have V2 := V.pad (pad_rep [] _ len.toInt.toNat)
  rw [List.nil_append, ← List.map_replicate (f := Value.int)] at V2
  obtain ⟨t, o, s1, r⟩ := k h' _ rfl E ⟨cA, len, V2, by rw [List.length_replicate]; omega⟩ T' _ X' N e'
  exact ⟨t, o, st' t s1, r⟩
theorem G.newarrayJ (C : Cx p s m meth c Z y bytes maxL ret) {aty : ArrayType} {ty : FieldType} {len : Int32} {cap c' s' : Nat} (w : (Jvm.Cond.arrayClass ty).before a0 Z = true) (hty : newarray.typeOf aty = ty) (hdv : defaultValue ty = .long 0) (hJ : ty = .long) (hlen : 0 ≤ len.toInt) (hcap : len.toInt ≤ cap) (hbig : cap * 8 ≤ 536870912) (hd : decode bytes pc = .ok (.newarray aty, 2)) (hn : pc + 2 = n) (hc' : cells + 1 = c') (hs' : slots + cap = s') (hc : c' ≤ R.cells) (hs : s' ≤ R.slots)
    (k : ∀ h' b, b = h.size → Ext h h' → Longs Z h' b (List.replicate len.toInt.toNat 0) → Go p l e R s m args below meth c n0 Q c' s' h' (mkF m n Ls (.ref b :: st))) : Go p l e R s m args below meth c n0 Q cells slots h (mkF m pc Ls (.int len :: st)) := fun T locs X N q => by
  subst hn hc' hs' hty
  obtain ⟨T', h', cA, X', e', E, A, st'⟩ := newP X C.x C.z w q (g := mkF m pc Ls (.int len :: st)) rfl (hb C.by hd) rfl (not_neg hlen) (cap := cap) (by rw [nat_clamp]; omega) hbig hc hs
  have V := (Arv.new A (not_neg hlen))
  rw [hdv] at V
  have V2 := V.pad (pad_rep [] _ len.toInt.toNat)
  rw [List.nil_append, ← List.map_replicate (f := Value.long), hJ] at V2
  obtain ⟨t, o, s1, r⟩ := k h' _ rfl E ⟨cA, len, V2, by rw [List.length_replicate]; omega⟩ T' _ X' N e'
  exact ⟨t, o, st' t s1, r⟩
theorem getD_at {α : Type} {vs : List α} {i : Nat} {d : α} (h : i < vs.length) : vs[i]? = some (vs.getD i d) := by
  rw [List.getD_eq_getElem?_getD, List.getElem?_eq_getElem h]; rfl
def Refs (Z : State) (h : Heap) (a : Addr) (ty : FieldType) (vs : List Value) : Prop := ∃ k z, Arv Z h a k ty z vs .null ∧ z.toInt = vs.length
theorem Refs.lt {a : Addr} {ty : FieldType} {vs : List Value} (F : Refs Z h a ty vs) : a < h.size := by obtain ⟨k, z, A, -⟩ := F; exact A.lt
theorem Refs.keep {h' : Heap} {ws : List Addr} {a : Addr} {ty : FieldType} {vs : List Value} (F : Refs Z h a ty vs) (K : Keep h h' ws) (r : a ∉ ws) : Refs Z h' a ty vs := by obtain ⟨k, z, A, q⟩ := F; exact ⟨k, z, A.keep K r, q⟩
theorem Refs.at {a : Addr} {ty : FieldType} {vs : List Value} (F : Refs Z h a ty vs) {j : Int32} {x : Value} (hj : 0 ≤ j.toInt) (hx : vs[j.toInt.toNat]? = some x) : ∃ cl, Arr Z h a cl ty ∧ ¬ (j < 0 ∨ cl.slots.size ≤ j.toNatClampNeg) ∧ cl.slots[j.toNatClampNeg]? = some x := by
  obtain ⟨k, z, ⟨cl, A, q1, S, N, H, G⟩, hz⟩ := F
  have hi := inb hj S hz (lt_of_some hx)
  have hi2 : j.toNatClampNeg < cl.slots.size := Nat.lt_of_not_le fun y => hi (Or.inr y)
  have e1 := H _ hi2
  rw [nat_clamp, List.getD_eq_getElem?_getD, hx] at e1
  exact ⟨cl, A, hi, e1⟩
theorem G.aaload (C : Cx p s m meth c Z y bytes maxL ret) {a : Addr} {j : Int32} {x : Value} {ty : FieldType} {vs : List Value} (F : Refs Z h a ty vs) (hty : ty.isReference = true) (hj : 0 ≤ j.toInt) (hx : vs[j.toInt.toNat]? = some x) (hd : decode bytes pc = .ok (.aaload, 1)) (hn : pc + 1 = n) (k : Go p l e R s m args below meth c n0 Q cells slots h (mkF m n Ls (x :: st))) : Go p l e R s m args below meth c n0 Q cells slots h (mkF m pc Ls (.int j :: .ref a :: st)) := by
  subst hn
  obtain ⟨cl, A, h1, h2⟩ := F.at hj hx
  exact Go.via (fun T locs X q t r => X.aaload C.x (j := j) (v := x) (by rw [q]; exact A.1) (State.isArrayOf_alike C.z.alike A.2.1) hty A.2.2 h1 h2 (g := mkF m pc Ls (.int j :: .ref a :: st)) rfl rfl (hb C.by hd) t r) k
theorem G.arraylengthR (C : Cx p s m meth c Z y bytes maxL ret) {a : Addr} {ty : FieldType} {vs : List Value} {len : Int32} (F : Refs Z h a ty vs) (hlen : len.toInt = vs.length) (hd : decode bytes pc = .ok (.arraylength, 1)) (hn : pc + 1 = n) (k : Go p l e R s m args below meth c n0 Q cells slots h (mkF m n Ls (.int len :: st))) : Go p l e R s m args below meth c n0 Q cells slots h (mkF m pc Ls (.ref a :: st)) := by
  subst hn
  obtain ⟨k', z, ⟨cl, A, q1, S, N, H, G⟩, hz⟩ := F
  have e1 : cl.slots.size.toInt32 = len := (len_of S N).trans (Int32.toInt_inj.mp (hz.trans hlen.symm))
  exact Go.via (fun T locs X q t r => X.arraylength C.x (by rw [q]; exact A.1) (State.isArrayOf_alike C.z.alike A.2.1) (g := mkF m pc Ls (.ref a :: st)) rfl rfl (hb C.by hd) t (by rw [e1]; exact r)) k
theorem eqv_r {Z : State} {args : Array Value} {X F : Term} {idx : List Nat} {y : Addr} (hF : F.eval args Z none idx Z = some (.ref y)) (h : (Jvm.Cond.eq X F).value args Z none Z idx = some true) : X.eval args Z none idx Z = some (.ref y) := by
  obtain ⟨x, y', e1, e2, k1, k2⟩ := cmp_v (Or.inl h)
  cases hF.symm.trans e2
  have hx : x.isRef = true := k2.2
  have := gotT (eq_R e1 hF hx rfl) h
  rw [e1, this]
theorem len_q {Z : State} {args : Array Value} {t : Term} {a : Addr} {cl : Cell} {y : Int32} (ht : t.eval args Z none [] Z = some (.ref a)) (ha : Z.arrayAt? a = some cl) (h : (Term.length t).eval args Z none [] Z = some (.int y)) : cl.slots.size < 2 ^ 31 ∧ cl.slots.size.toInt32 = y := by
  simp [Term.eval, ht, ha] at h
  exact h
theorem Refs.start {s : State} {a : Addr} {cl : Cell} {ty : FieldType} {z : Int32} {vs : List Value} (hf : Fit s) (A : Arr s s.heap a cl ty) (q : cl.slots.size < 2 ^ 31 ∧ cl.slots.size.toInt32 = z) (hz : z.toInt = vs.length) (H : HasL cl 0 vs) : Refs s s.heap a ty vs :=
  ⟨cl.cls, z, Arv.start hf A q.1 q.2 (not_neg (by omega)) (by rw [nat_clamp]; omega) H, hz⟩
theorem Ints.start {s : State} {a : Addr} {cl : Cell} {ty : FieldType} {z : Int32} {vs : List Int32} (hf : Fit s) (A : Arr s s.heap a cl ty) (q : cl.slots.size < 2 ^ 31 ∧ cl.slots.size.toInt32 = z) (hz : z.toInt = vs.length) (H : HasL cl 0 (vs.map Value.int)) : Ints s s.heap a ty vs :=
  ⟨cl.cls, z, Arv.start hf A q.1 q.2 (not_neg (by omega)) (by rw [nat_clamp, List.length_map]; omega) H, hz⟩
theorem us_all (vs : List Int32) : ((List.range vs.length).map fun i => (vs.map Value.int).getD (0 + i) (.int 0)) = vs.map Value.int := by
  apply List.ext_getElem (by simp)
  intro i h1 h2
  simp at h1
  simp [h1]
theorem G.arraycopy0 (C : Cx p s m meth c Z y bytes maxL ret) {index W : Nat} {ty : FieldType} {a b : Addr} {vs vd : List Int32} {nn : Int32} (w1 : (Jvm.Cond.methodLink y.cls index Jvm.Stand.acN).before a0 Z = true) (w2 : (Jvm.Cond.native Jvm.Stand.acN).before a0 Z = true) (w3 : (Jvm.Cond.static Jvm.Stand.acN).before a0 Z = true) (w4 : (Jvm.Cond.initialized "java/lang/System").before a0 Z = true) (A : Ints Z h a ty vs) (B : Ints Z h b ty vd) (hp : refKind ty = false) (h3 : nn.toInt = vs.length) (h5 : vs.length ≤ vd.length) (g : n0 ≤ b)
    (hd : decode bytes pc = .ok (.invokestatic index, 3)) (hsz : Ls.size = maxL) (hf : 1 ≤ R.frames) (hW : (st.map fun v => v.category).sum = W) (hlo : W + (nativeFrameWords "java/lang/System" "arraycopy" 5 + 11) ≤ R.locals) (hn : pc + 3 = n) (k : ∀ h', Keep h h' [b] → Ints Z h' b ty (vs ++ vd.drop vs.length) → Go p l e R s m args below meth c n0 Q cells slots h' (mkF m n Ls (st))) : Go p l e R s m args below meth c n0 Q cells slots h (mkF m pc Ls (.int nn :: .int 0 :: .ref b :: .int 0 :: .ref a :: st)) := fun T locs X N q => by
  subst hn hW
  obtain ⟨k1, z1, A1, e1⟩ := A
  obtain ⟨k2, z2, B1, e2⟩ := B
  have hnn : nn.toNatClampNeg = vs.length := by rw [nat_clamp, h3]; rfl
  have z1n : z1.toNatClampNeg = vs.length := by rw [nat_clamp, e1]; rfl
  have z2n : z2.toNatClampNeg = vd.length := by rw [nat_clamp, e2]; rfl
  obtain ⟨T', h', L, X', e', NL, K, V, st'⟩ := cpA X C.x C.z C.own w1 w2 w3 w4 q (us := vs.map Value.int) A1 B1 (Or.inl ⟨rfl, hp⟩) (sp := 0) (dp := 0) (nn := nn) (by decide) (by decide) (not_neg (by omega)) (by rw [hnn, z1n]; show 0 + _ ≤ _; omega) (by rw [hnn, z2n]; show 0 + _ ≤ _; omega) (by rw [hnn]; exact (us_all vs).symm) (by rw [hnn, List.length_map]; show 0 + _ ≤ _; omega) N g (g := mkF m pc Ls (.int nn :: .int 0 :: .ref b :: .int 0 :: .ref a :: st)) rfl (hsz.trans C.ml.symm) rfl (hb C.by hd) hf (W := (st.map fun v => v.category).sum) (by show 2 * 0 + _ ≤ _; omega) hlo
  rw [hnn, show (0 : Int32).toNatClampNeg = 0 from rfl, List.take_zero, List.nil_append, Nat.zero_add, ← List.map_drop, ← List.map_append] at V
  obtain ⟨t, o, s1, r⟩ := k h' K ⟨k2, z2, V, by rw [e2, List.length_append, List.length_drop]; omega⟩ T' L X' NL e'
  exact ⟨t, o, st' t s1, r⟩
theorem kext {h' : Heap} (E : Ext h h') : Keep h h' [] := (Keep.refl h []).ext E
theorem Keep.tr {h' h'' : Heap} {ws ws' : List Addr} (K : Keep h h' ws) (K' : Keep h' h'' ws') (q : ∀ x ∈ ws', x ∈ ws ∨ h.size ≤ x) : Keep h h'' ws := K.trans K' q
end
end Jvm.Own
namespace Jvm.Pilot.@@N@@
open Jvm Jvm.ClassFile Sem Op Lib Jvm.Free Jvm.Stand Jvm.LawKit Jvm.RoadKit Jvm.Own Bundle Jvm.Pilot.@@N@@.Jvm.D
abbrev ush (x y : Int32) : Int32 := (x.toUInt32 >>> (y &&& 31).toUInt32).toInt32
def HX : List Int32 := [48, 49, 50, 51, 52, 53, 54, 55, 56, 57, 97, 98, 99, 100, 101, 102]
abbrev dig (n : Int32) : Int32 := if n.toInt < 10 then ((48 : Int32) + n).toInt8.toInt32 else (((97 : Int32) + n) - (10 : Int32)).toInt8.toInt32
abbrev hxh (e : Int32) : Int32 := nar .byte (HX.getD (((e >>> ((4 : Int32) &&& 31)) &&& (15 : Int32)).toInt.toNat) 0)
abbrev hxl (e : Int32) : Int32 := nar .byte (HX.getD ((e &&& (15 : Int32)).toInt.toNat) 0)
theorem khi : ∀ n : Fin 256, hxh ((Int32.ofNat n.val).toInt8.toInt32) = dig (ush (Int32.ofNat n.val) 4) := by decide +kernel
theorem klo : ∀ n : Fin 256, hxl ((Int32.ofNat n.val).toInt8.toInt32) = dig (Int32.ofNat n.val &&& 15) := by decide +kernel
theorem lowb (y : Int32) : ∃ n : Fin 256, y &&& (255 : Int32) = Int32.ofNat n.val ∧ nar .byte (y.toInt8.toInt32) = (Int32.ofNat n.val).toInt8.toInt32 := by
  have h := c_and y 255 (by decide)
  rw [show (255 : Int32).toInt = 255 from rfl] at h
  have e1 : y &&& (255 : Int32) = Int32.ofNat (y &&& (255 : Int32)).toInt.toNat := by
    apply Int32.toInt_inj.mp
    rw [Int32.toInt_ofNat_of_lt (by omega)]; omega
  refine ⟨⟨(y &&& (255 : Int32)).toInt.toNat, by omega⟩, e1, ?_⟩
  show nar .byte (y.toInt8.toInt32) = (Int32.ofNat (y &&& (255 : Int32)).toInt.toNat).toInt8.toInt32
  rw [← e1]
  apply Int32.toInt_inj.mp
  have q1 := c_i2b (y.toInt8.toInt32)
  have q2 := c_i2b y
  have q3 := c_i2b (y &&& 255)
  have q4 : (y &&& (255 : Int32)).toInt = y.toInt % ((2 ^ 8 : Nat) : Int) := c_mask y 255 8 (by decide) (by decide)
  show (y.toInt8.toInt32.toInt8.toInt32).toInt = _
  omega
theorem hexhi (y : Int32) : hxh (nar .byte (y.toInt8.toInt32)) = dig (ush (y &&& 255) 4) := by
  obtain ⟨n, e1, e2⟩ := lowb y
  rw [e1, e2]; exact khi n
theorem hexlo (y : Int32) : hxl (nar .byte (y.toInt8.toInt32)) = dig ((y &&& 255) &&& 15) := by
  obtain ⟨n, e1, e2⟩ := lowb y
  rw [e1, e2]; exact klo n
def Wd (fs : List Int32) (S O q : Nat) : Int32 := if (q - O) % 2 = 0 then hxh (fs.getD (S + (q - O) / 2) 0) else hxl (fs.getD (S + (q - O) / 2) 0)
theorem set2 {ts : List Int32} {p q : Nat} {x y : Int32} (h : p + 1 < ts.length) : ((ts.set p x).set (p + 1) y).getD q 0 = if q = p then x else if q = p + 1 then y else ts.getD q 0 := by
  simp only [List.getD_eq_getElem?_getD]
  by_cases e1 : q = p
  · subst e1
    rw [List.getElem?_set_ne (by omega), List.getElem?_set_self (by omega), if_pos rfl]; rfl
  · rw [if_neg e1]
    by_cases e2 : q = p + 1
    · subst e2
      rw [List.getElem?_set_self (by rw [List.length_set]; exact h), if_pos rfl]; rfl
    · rw [List.getElem?_set_ne (by omega), List.getElem?_set_ne (by omega), if_neg e2]
theorem wstep {ts ts0 fs : List Int32} {S O u : Nat} (hl : O + 2 * u + 1 < ts.length) (j : ∀ q, ts.getD q 0 = if O ≤ q ∧ q < O + 2 * u then Wd fs S O q else ts0.getD q 0) :
    ∀ q, ((ts.set (O + 2 * u) (hxh (fs.getD (S + u) 0))).set (O + 2 * u + 1) (hxl (fs.getD (S + u) 0))).getD q 0 = if O ≤ q ∧ q < O + 2 * (u + 1) then Wd fs S O q else ts0.getD q 0 := by
  intro q
  rw [set2 hl, j q]
  by_cases e1 : q = O + 2 * u
  · rw [if_pos e1, if_pos (by omega), Wd, if_pos (by omega), show S + (q - O) / 2 = S + u by omega]
  · rw [if_neg e1]
    by_cases e2 : q = O + 2 * u + 1
    · rw [if_pos e2, if_pos (by omega), Wd, if_neg (by omega), show S + (q - O) / 2 = S + u by omega]
    · rw [if_neg e2]
      by_cases e3 : O ≤ q ∧ q < O + 2 * u
      · rw [if_pos e3, if_pos (by omega)]
      · rw [if_neg e3, if_neg (by omega)]
abbrev fillI (f p : Int32) : Int32 := ((ush f ((p &&& (3 : Int32)) * (8 : Int32))) + p).toInt8.toInt32
def expI (p a s w o f : Int32) : Int32 := if p.toInt < o.toInt ∨ (o + (2 : Int32) * w).toInt ≤ p.toInt then fillI f p else if (p - o) &&& (1 : Int32) = 0 then dig (ush ((ush a ((8 : Int32) * (s + (p - o) / (2 : Int32)))) &&& (255 : Int32)) 4) else dig (((ush a ((8 : Int32) * (s + (p - o) / (2 : Int32)))) &&& (255 : Int32)) &&& (15 : Int32))
theorem ush0 (x : Int32) : ush x 0 = x := by
  show (x.toUInt32 >>> (0 : UInt32)).toInt32 = x
  simp
theorem nar_b (x : Int32) : nar .byte x.toInt8.toInt32 = x.toInt8.toInt32 := by simp [nar]
theorem frb {a : Int32} {d : Nat} (hd : d < 4) : ([nar .byte (a.toInt8.toInt32), nar .byte ((ush a 8).toInt8.toInt32), nar .byte ((ush a 16).toInt8.toInt32), nar .byte ((ush a 24).toInt8.toInt32)] : List Int32).getD d 0 = nar .byte ((ush a (Int32.ofNat (8 * d))).toInt8.toInt32) := by
  match d, hd with
  | 0, _ => rw [show Int32.ofNat (8 * 0) = 0 from rfl, ush0]; rfl
  | 1, _ => rfl
  | 2, _ => rfl
  | 3, _ => rfl
theorem odd1 {k : Int32} {n : Nat} (h : k.toInt = n) : (k &&& (1 : Int32) = 0) ↔ n % 2 = 0 := by
  have q : (k &&& (1 : Int32)).toInt = k.toInt % ((2 ^ 1 : Nat) : Int) := c_mask k 1 1 (by decide) (by decide)
  have e : (k &&& (1 : Int32) = 0) ↔ (k &&& (1 : Int32)).toInt = 0 := ⟨fun h => by rw [h]; rfl, fun h => Int32.toInt_inj.mp h⟩
  rw [e]; omega
theorem fin_q {ts' ts : List Int32} {a s w o f p : Int32} {q S O : Nat} (hp : p.toInt = q) (hq : q < 10) (hS : s.toInt = S) (hO : o.toInt = O) (hw : 0 ≤ w.toInt) (h1 : S + w.toInt ≤ 4) (h2 : O + 2 * w.toInt ≤ 10) (hts : ts.getD q 0 = nar .byte (fillI f p))
    (H : ts'.getD q 0 = if O ≤ q ∧ (q : Int) < O + 2 * w.toInt then Wd [nar .byte (a.toInt8.toInt32), nar .byte ((ush a 8).toInt8.toInt32), nar .byte ((ush a 16).toInt8.toInt32), nar .byte ((ush a 24).toInt8.toInt32)] S O q else ts.getD q 0) : ts'.getD q 0 = expI p a s w o f := by
  have m1 := c_imul 2 w
  have m2 := rng32 (2 * w)
  have m3 := c_iadd o (2 * w)
  have m4 := rng32 (o + 2 * w)
  rw [show (2 : Int32).toInt = 2 from rfl] at m1
  have m5 : (o + (2 : Int32) * w).toInt = O + 2 * w.toInt := by omega
  clear m1 m2 m3 m4
  rw [H]
  unfold expI
  by_cases c : O ≤ q ∧ (q : Int) < O + 2 * w.toInt
  · rw [if_pos c, if_neg (by omega)]
    have k1 := c_isub p o
    have k2 := rng32 (p - o)
    have k3 : (p - o).toInt = ((q - O : Nat) : Int) := by omega
    have k4 := (c_idiv (p - o) 2 2 (by decide) (by decide)).1 (by omega)
    have k5 := c_iadd s ((p - o) / 2)
    have k6 := rng32 (s + (p - o) / 2)
    have k7 := c_imul 8 (s + (p - o) / 2)
    have k8 := rng32 (8 * (s + (p - o) / 2))
    rw [show (8 : Int32).toInt = 8 from rfl] at k7
    have k9 : (8 : Int32) * (s + (p - o) / (2 : Int32)) = Int32.ofNat (8 * (S + (q - O) / 2)) := by
      apply Int32.toInt_inj.mp
      rw [Int32.toInt_ofNat_of_lt (by omega)]; omega
    rw [k9]
    unfold Wd
    rw [frb (by omega)]
    by_cases e : (q - O) % 2 = 0
    · rw [if_pos e, if_pos ((odd1 k3).mpr e)]; exact hexhi _
    · rw [if_neg e, if_neg (fun h => e ((odd1 k3).mp h))]; exact hexlo _
  · rw [if_neg c, if_pos (by omega), hts, nar_b]
theorem d1_0 : decode method_3_code 0 = .ok (.iload_n 0, 1) := by decide +kernel
theorem d1_1 : decode method_3_code 1 = .ok (.iload_n 1, 1) := by decide +kernel
theorem d1_2 : decode method_3_code 2 = .ok (.iconst 3, 1) := by decide +kernel
theorem d1_3 : decode method_3_code 3 = .ok (.iand, 1) := by decide +kernel
theorem d1_4 : decode method_3_code 4 = .ok (.bipush 8, 2) := by decide +kernel
theorem d1_6 : decode method_3_code 6 = .ok (.imul, 1) := by decide +kernel
theorem d1_7 : decode method_3_code 7 = .ok (.iushr, 1) := by decide +kernel
theorem d1_8 : decode method_3_code 8 = .ok (.iload_n 1, 1) := by decide +kernel
theorem d1_9 : decode method_3_code 9 = .ok (.iadd, 1) := by decide +kernel
theorem d1_10 : decode method_3_code 10 = .ok (.i2b, 1) := by decide +kernel
theorem d1_11 : decode method_3_code 11 = .ok (.ireturn, 1) := by decide +kernel
theorem pn0 : plainName "com/example/parley/parley/KeySetWriteHexPinLaw" = true := by first | (simp [plainName, overriddenIn]; done) | decide +kernel
theorem ef1 (m : MethodId) (f : Int32) (ps0 : Int32) : entryFrame m #[(.int f), (.int ps0)] 2 = mkF m 0 #[.val (.int f), .val (.int ps0)] [] := by first | (simp [entryFrame, mkF, argsToLocals, Value.category]; done) | rfl
abbrev Q_fill (Z : State) (h0 : Heap) (n0 : Nat) (f : Int32) (ps0 : Int32) : Option Value → Heap → Prop := fun v h' => v = some (.int (fillI f ps0)) ∧ h0 = h'
abbrev R_fill : Room := { frames := 0, cells := 0, slots := 0, locals := 0 }
set_option maxRecDepth 65536 in
set_option maxHeartbeats 40000000 in
theorem m_fill (l : Launch) (Z : State) (a0 : Array Value) (hw : ∀ d ∈ tables_1, d.before a0 Z = true) (f : Int32) (ps0 : Int32) (h0 : Heap) (n0 : Nat) (Z0 : n0 ≤ h0.size)  : Met l Z (⟨"com/example/parley/parley/KeySetWriteHexPinLaw", "fill", "(II)B"⟩ : MethodName) method_3_code 2 (some .byte) R_fill #[(.int f), (.int ps0)] h0 n0 (Q_fill Z h0 n0 f ps0) := by
  refine Met.of (plainFor_of_name pn0) (fun m => ef1 m f ps0) ?_
  intro p e s m args below meth c C
  refine G.iloadN C d1_0 rfl (n := 1) rfl ?_
  refine G.iloadN C d1_1 rfl (n := 2) rfl ?_
  refine G.iconst C (v := (3 : Int32)) d1_2 (by decide) (n := 3) rfl ?_
  refine G.iand C d1_3 (n := 4) rfl ?_
  refine G.bipush C (v := (8 : Int32)) d1_4 (by decide) (n := 6) rfl ?_
  refine G.imul C d1_6 (n := 7) rfl ?_
  refine G.iushr C d1_7 (n := 8) rfl ?_
  refine G.iloadN C d1_8 rfl (n := 9) rfl ?_
  refine G.iadd C d1_9 (n := 10) rfl ?_
  refine G.i2b C d1_10 (n := 11) rfl ?_
  refine G.ireturn C d1_11 (Jvm.Free.XT.narrow_b _) (by simp) (by decide) (by decide) ?_
  exact ⟨rfl, rfl⟩
theorem d3_0 : decode method_4_code 0 = .ok (.iload_n 0, 1) := by decide +kernel
theorem d3_1 : decode method_4_code 1 = .ok (.iload 4, 2) := by decide +kernel
theorem d3_3 : decode method_4_code 3 = .ok (.if_icmp .lt 13, 3) := by decide +kernel
theorem d3_6 : decode method_4_code 6 = .ok (.iload_n 0, 1) := by decide +kernel
theorem d3_7 : decode method_4_code 7 = .ok (.iload 4, 2) := by decide +kernel
theorem d3_9 : decode method_4_code 9 = .ok (.iconst 2, 1) := by decide +kernel
theorem d3_10 : decode method_4_code 10 = .ok (.iload_n 3, 1) := by decide +kernel
theorem d3_11 : decode method_4_code 11 = .ok (.imul, 1) := by decide +kernel
theorem d3_12 : decode method_4_code 12 = .ok (.iadd, 1) := by decide +kernel
theorem d3_13 : decode method_4_code 13 = .ok (.if_icmp .lt 10, 3) := by decide +kernel
theorem d3_16 : decode method_4_code 16 = .ok (.iload 5, 2) := by decide +kernel
theorem d3_18 : decode method_4_code 18 = .ok (.iload_n 0, 1) := by decide +kernel
theorem d3_19 : decode method_4_code 19 = .ok (.invokestatic 8, 3) := by decide +kernel
theorem d3_22 : decode method_4_code 22 = .ok (.ireturn, 1) := by decide +kernel
theorem d3_23 : decode method_4_code 23 = .ok (.iload_n 0, 1) := by decide +kernel
theorem d3_24 : decode method_4_code 24 = .ok (.iload 4, 2) := by decide +kernel
theorem d3_26 : decode method_4_code 26 = .ok (.isub, 1) := by decide +kernel
theorem d3_27 : decode method_4_code 27 = .ok (.istore 6, 2) := by decide +kernel
theorem d3_29 : decode method_4_code 29 = .ok (.iload_n 1, 1) := by decide +kernel
theorem d3_30 : decode method_4_code 30 = .ok (.bipush 8, 2) := by decide +kernel
theorem d3_32 : decode method_4_code 32 = .ok (.iload_n 2, 1) := by decide +kernel
theorem d3_33 : decode method_4_code 33 = .ok (.iload 6, 2) := by decide +kernel
theorem d3_35 : decode method_4_code 35 = .ok (.iconst 2, 1) := by decide +kernel
theorem d3_36 : decode method_4_code 36 = .ok (.idiv, 1) := by decide +kernel
theorem d3_37 : decode method_4_code 37 = .ok (.iadd, 1) := by decide +kernel
theorem d3_38 : decode method_4_code 38 = .ok (.imul, 1) := by decide +kernel
theorem d3_39 : decode method_4_code 39 = .ok (.iushr, 1) := by decide +kernel
theorem d3_40 : decode method_4_code 40 = .ok (.sipush 255, 3) := by decide +kernel
theorem d3_43 : decode method_4_code 43 = .ok (.iand, 1) := by decide +kernel
theorem d3_44 : decode method_4_code 44 = .ok (.istore 7, 2) := by decide +kernel
theorem d3_46 : decode method_4_code 46 = .ok (.iload 6, 2) := by decide +kernel
theorem d3_48 : decode method_4_code 48 = .ok (.iconst 1, 1) := by decide +kernel
theorem d3_49 : decode method_4_code 49 = .ok (.iand, 1) := by decide +kernel
theorem d3_50 : decode method_4_code 50 = .ok (.ifCond .ne 12, 3) := by decide +kernel
theorem d3_53 : decode method_4_code 53 = .ok (.iload 7, 2) := by decide +kernel
theorem d3_55 : decode method_4_code 55 = .ok (.iconst 4, 1) := by decide +kernel
theorem d3_56 : decode method_4_code 56 = .ok (.iushr, 1) := by decide +kernel
theorem d3_57 : decode method_4_code 57 = .ok (.istore 8, 2) := by decide +kernel
theorem d3_59 : decode method_4_code 59 = .ok (.goto 10, 3) := by decide +kernel
theorem d3_62 : decode method_4_code 62 = .ok (.iload 7, 2) := by decide +kernel
theorem d3_64 : decode method_4_code 64 = .ok (.bipush 15, 2) := by decide +kernel
theorem d3_66 : decode method_4_code 66 = .ok (.iand, 1) := by decide +kernel
theorem d3_67 : decode method_4_code 67 = .ok (.istore 8, 2) := by decide +kernel
theorem d3_69 : decode method_4_code 69 = .ok (.iload 8, 2) := by decide +kernel
theorem d3_71 : decode method_4_code 71 = .ok (.bipush 10, 2) := by decide +kernel
theorem d3_73 : decode method_4_code 73 = .ok (.if_icmp .ge 10, 3) := by decide +kernel
theorem d3_76 : decode method_4_code 76 = .ok (.bipush 48, 2) := by decide +kernel
theorem d3_78 : decode method_4_code 78 = .ok (.iload 8, 2) := by decide +kernel
theorem d3_80 : decode method_4_code 80 = .ok (.iadd, 1) := by decide +kernel
theorem d3_81 : decode method_4_code 81 = .ok (.i2b, 1) := by decide +kernel
theorem d3_82 : decode method_4_code 82 = .ok (.ireturn, 1) := by decide +kernel
theorem d3_83 : decode method_4_code 83 = .ok (.bipush 97, 2) := by decide +kernel
theorem d3_85 : decode method_4_code 85 = .ok (.iload 8, 2) := by decide +kernel
theorem d3_87 : decode method_4_code 87 = .ok (.iadd, 1) := by decide +kernel
theorem d3_88 : decode method_4_code 88 = .ok (.bipush 10, 2) := by decide +kernel
theorem d3_90 : decode method_4_code 90 = .ok (.isub, 1) := by decide +kernel
theorem d3_91 : decode method_4_code 91 = .ok (.i2b, 1) := by decide +kernel
theorem d3_92 : decode method_4_code 92 = .ok (.ireturn, 1) := by decide +kernel
theorem pd0 : parseMethodDescriptor "(II)B" = some ⟨[.int, .int], some .byte⟩ := by decide +kernel
theorem ef2 (m : MethodId) (ps0 : Int32) (a : Int32) (s0 : Int32) (w0 : Int32) (o : Int32) (f : Int32) : entryFrame m #[(.int ps0), (.int a), (.int s0), (.int w0), (.int o), (.int f)] 9 = mkF m 0 #[.val (.int ps0), .val (.int a), .val (.int s0), .val (.int w0), .val (.int o), .val (.int f), .unset, .unset, .unset] [] := by first | (simp [entryFrame, mkF, argsToLocals, Value.category]; done) | rfl
abbrev Q_expected (Z : State) (h0 : Heap) (n0 : Nat) (ps0 : Int32) (a : Int32) (s0 : Int32) (w0 : Int32) (o : Int32) (f : Int32) : Option Value → Heap → Prop := fun v h' => v = some (.int (expI ps0 a s0 w0 o f)) ∧ h0 = h'
abbrev R_expected : Room := { frames := 1, cells := 0, slots := 0, locals := 13 }
set_option maxRecDepth 65536 in
set_option maxHeartbeats 40000000 in
theorem m_expected (l : Launch) (Z : State) (a0 : Array Value) (hw : ∀ d ∈ tables_1, d.before a0 Z = true) (ps0 : Int32) (a : Int32) (s0 : Int32) (w0 : Int32) (o : Int32) (f : Int32) (h0 : Heap) (n0 : Nat) (Z0 : n0 ≤ h0.size)  : Met l Z (⟨"com/example/parley/parley/KeySetWriteHexPinLaw", "expected", "(IIIIII)B"⟩ : MethodName) method_4_code 9 (some .byte) R_expected #[(.int ps0), (.int a), (.int s0), (.int w0), (.int o), (.int f)] h0 n0 (Q_expected Z h0 n0 ps0 a s0 w0 o f) := by
  refine Met.of (plainFor_of_name pn0) (fun m => ef2 m ps0 a s0 w0 o f) ?_
  intro p e s m args below meth c C
  refine G.iloadN C d3_0 rfl (n := 1) rfl ?_
  refine G.iload C d3_1 rfl (n := 3) rfl ?_
  refine G.icmp_lt C (A := ps0.toInt) (B := o.toInt) rfl rfl d3_3 (by decide) (by decide) (n := 6) (n' := 16) rfl (fun c3_1 => ?_) (fun c3_1 => ?_)
  · refine G.iload C d3_16 rfl (n := 18) rfl ?_
    refine G.iloadN C d3_18 rfl (n := 19) rfl ?_
    refine G.callS C (argsL := [(.int f), (.int ps0)]) (yc := (⟨"com/example/parley/parley/KeySetWriteHexPinLaw", "fill", "(II)B"⟩ : MethodName)) (wd hw 2 rfl) (wd hw 3 rfl) (wd hw 4 rfl) (wd hw 5 rfl) (by decide) (m_fill l Z a0 hw f ps0 h0 n0 Z0) rfl (by decide) (W := 0) rfl (by decide) (c' := 0) (s' := 0) rfl rfl (by decide) (by decide) d3_19 (n := 22) rfl pd0 rfl rfl ?_
    rintro _ _ ⟨rfl, rfl⟩
    refine G.ireturn C d3_22 (Jvm.Free.XT.narrow_b _) (by simp) (by decide) (by decide) ?_
    exact ⟨by rw [expI, if_pos (by omega)], rfl⟩
  · refine G.iloadN C d3_6 rfl (n := 7) rfl ?_
    refine G.iload C d3_7 rfl (n := 9) rfl ?_
    refine G.iconst C (v := (2 : Int32)) d3_9 (by decide) (n := 10) rfl ?_
    refine G.iloadN C d3_10 rfl (n := 11) rfl ?_
    refine G.imul C d3_11 (n := 12) rfl ?_
    refine G.iadd C d3_12 (n := 13) rfl ?_
    refine G.icmp_lt C (A := ps0.toInt) (B := (o + ((2 : Int32) * w0)).toInt) rfl rfl d3_13 (by decide) (by decide) (n := 16) (n' := 23) rfl (fun c13_4 => ?_) (fun c13_4 => ?_)
    · refine G.iloadN C d3_23 rfl (n := 24) rfl ?_
      refine G.iload C d3_24 rfl (n := 26) rfl ?_
      refine G.isub C d3_26 (n := 27) rfl ?_
      refine G.istoreZ C d3_27 (l' := fun z => #[.val (.int ps0), .val (.int a), .val (.int s0), .val (.int w0), .val (.int o), .val (.int f), .val (.int z), .unset, .unset]) (fun _ => rfl) (n := 29) rfl ?_
      intro v5 hv5
      refine G.iloadN C d3_29 rfl (n := 30) rfl ?_
      refine G.bipush C (v := (8 : Int32)) d3_30 (by decide) (n := 32) rfl ?_
      refine G.iloadN C d3_32 rfl (n := 33) rfl ?_
      refine G.iload C d3_33 rfl (n := 35) rfl ?_
      refine G.iconst C (v := (2 : Int32)) d3_35 (by decide) (n := 36) rfl ?_
      refine G.idiv C d3_36 (by decide) (n := 37) rfl ?_
      refine G.iadd C d3_37 (n := 38) rfl ?_
      refine G.imul C d3_38 (n := 39) rfl ?_
      refine G.iushr C d3_39 (n := 40) rfl ?_
      refine G.sipush C (v := (255 : Int32)) d3_40 (by decide) (n := 43) rfl ?_
      refine G.iand C d3_43 (n := 44) rfl ?_
      refine G.istoreZ C d3_44 (l' := fun z => #[.val (.int ps0), .val (.int a), .val (.int s0), .val (.int w0), .val (.int o), .val (.int f), .val (.int v5), .val (.int z), .unset]) (fun _ => rfl) (n := 46) rfl ?_
      intro v6 hv6
      refine G.iload C d3_46 rfl (n := 48) rfl ?_
      refine G.iconst C (v := (1 : Int32)) d3_48 (by decide) (n := 49) rfl ?_
      refine G.iand C d3_49 (n := 50) rfl ?_
      refine G.if_ne C (A := (v5 &&& (1 : Int32)).toInt) rfl d3_50 (by decide) (by decide) (n := 53) (n' := 62) rfl (fun c50_7 c50_7i => ?_) (fun c50_7 c50_7i => ?_)
      · refine G.iload C d3_62 rfl (n := 64) rfl ?_
        refine G.bipush C (v := (15 : Int32)) d3_64 (by decide) (n := 66) rfl ?_
        refine G.iand C d3_66 (n := 67) rfl ?_
        refine G.istoreZ C d3_67 (l' := fun z => #[.val (.int ps0), .val (.int a), .val (.int s0), .val (.int w0), .val (.int o), .val (.int f), .val (.int v5), .val (.int v6), .val (.int z)]) (fun _ => rfl) (n := 69) rfl ?_
        intro v8 hv8
        refine G.iload C d3_69 rfl (n := 71) rfl ?_
        refine G.bipush C (v := (10 : Int32)) d3_71 (by decide) (n := 73) rfl ?_
        refine G.icmp_ge C (A := v8.toInt) (B := 10) rfl (by decide) d3_73 (by decide) (by decide) (n := 76) (n' := 83) rfl (fun c73_9 => ?_) (fun c73_9 => ?_)
        · refine G.bipush C (v := (97 : Int32)) d3_83 (by decide) (n := 85) rfl ?_
          refine G.iload C d3_85 rfl (n := 87) rfl ?_
          refine G.iadd C d3_87 (n := 88) rfl ?_
          refine G.bipush C (v := (10 : Int32)) d3_88 (by decide) (n := 90) rfl ?_
          refine G.isub C d3_90 (n := 91) rfl ?_
          refine G.i2b C d3_91 (n := 92) rfl ?_
          refine G.ireturn C d3_92 (Jvm.Free.XT.narrow_b _) (by simp) (by decide) (by decide) ?_
          refine ⟨congrArg (fun z => some (Value.int z)) ?_, rfl⟩
          have o1 := c50_7
          have g1 := c73_9
          rw [hv8, hv6, hv5] at g1
          rw [hv8, hv6, hv5]
          rw [hv5] at o1
          rw [expI, if_neg (by omega), if_neg o1, dig, if_neg (Int.not_lt.mpr g1)]
        · refine G.bipush C (v := (48 : Int32)) d3_76 (by decide) (n := 78) rfl ?_
          refine G.iload C d3_78 rfl (n := 80) rfl ?_
          refine G.iadd C d3_80 (n := 81) rfl ?_
          refine G.i2b C d3_81 (n := 82) rfl ?_
          refine G.ireturn C d3_82 (Jvm.Free.XT.narrow_b _) (by simp) (by decide) (by decide) ?_
          refine ⟨congrArg (fun z => some (Value.int z)) ?_, rfl⟩
          have o1 := c50_7
          have g1 := c73_9
          rw [hv8, hv6, hv5] at g1
          rw [hv8, hv6, hv5]
          rw [hv5] at o1
          rw [expI, if_neg (by omega), if_neg o1, dig, if_pos (by omega)]
      · refine G.iload C d3_53 rfl (n := 55) rfl ?_
        refine G.iconst C (v := (4 : Int32)) d3_55 (by decide) (n := 56) rfl ?_
        refine G.iushr C d3_56 (n := 57) rfl ?_
        refine G.istoreZ C d3_57 (l' := fun z => #[.val (.int ps0), .val (.int a), .val (.int s0), .val (.int w0), .val (.int o), .val (.int f), .val (.int v5), .val (.int v6), .val (.int z)]) (fun _ => rfl) (n := 59) rfl ?_
        intro v10 hv10
        refine G.goto C d3_59 (by decide) (n := 69) (by decide) ?_
        refine G.iload C d3_69 rfl (n := 71) rfl ?_
        refine G.bipush C (v := (10 : Int32)) d3_71 (by decide) (n := 73) rfl ?_
        refine G.icmp_ge C (A := v10.toInt) (B := 10) rfl (by decide) d3_73 (by decide) (by decide) (n := 76) (n' := 83) rfl (fun c73_11 => ?_) (fun c73_11 => ?_)
        · refine G.bipush C (v := (97 : Int32)) d3_83 (by decide) (n := 85) rfl ?_
          refine G.iload C d3_85 rfl (n := 87) rfl ?_
          refine G.iadd C d3_87 (n := 88) rfl ?_
          refine G.bipush C (v := (10 : Int32)) d3_88 (by decide) (n := 90) rfl ?_
          refine G.isub C d3_90 (n := 91) rfl ?_
          refine G.i2b C d3_91 (n := 92) rfl ?_
          refine G.ireturn C d3_92 (Jvm.Free.XT.narrow_b _) (by simp) (by decide) (by decide) ?_
          refine ⟨congrArg (fun z => some (Value.int z)) ?_, rfl⟩
          have o1 := c50_7
          have g1 := c73_11
          rw [hv10, hv6, hv5] at g1
          rw [hv10, hv6, hv5]
          rw [hv5] at o1
          rw [expI, if_neg (by omega), if_pos o1, dig, if_neg (Int.not_lt.mpr g1)]
        · refine G.bipush C (v := (48 : Int32)) d3_76 (by decide) (n := 78) rfl ?_
          refine G.iload C d3_78 rfl (n := 80) rfl ?_
          refine G.iadd C d3_80 (n := 81) rfl ?_
          refine G.i2b C d3_81 (n := 82) rfl ?_
          refine G.ireturn C d3_82 (Jvm.Free.XT.narrow_b _) (by simp) (by decide) (by decide) ?_
          refine ⟨congrArg (fun z => some (Value.int z)) ?_, rfl⟩
          have o1 := c50_7
          have g1 := c73_11
          rw [hv10, hv6, hv5] at g1
          rw [hv10, hv6, hv5]
          rw [hv5] at o1
          rw [expI, if_neg (by omega), if_pos o1, dig, if_pos (by omega)]
    · refine G.iload C d3_16 rfl (n := 18) rfl ?_
      refine G.iloadN C d3_18 rfl (n := 19) rfl ?_
      refine G.callS C (argsL := [(.int f), (.int ps0)]) (yc := (⟨"com/example/parley/parley/KeySetWriteHexPinLaw", "fill", "(II)B"⟩ : MethodName)) (wd hw 2 rfl) (wd hw 3 rfl) (wd hw 4 rfl) (wd hw 5 rfl) (by decide) (m_fill l Z a0 hw f ps0 h0 n0 Z0) rfl (by decide) (W := 0) rfl (by decide) (c' := 0) (s' := 0) rfl rfl (by decide) (by decide) d3_19 (n := 22) rfl pd0 rfl rfl ?_
      rintro _ _ ⟨rfl, rfl⟩
      refine G.ireturn C d3_22 (Jvm.Free.XT.narrow_b _) (by simp) (by decide) (by decide) ?_
      exact ⟨by rw [expI, if_pos (by omega)], rfl⟩
theorem ixk {i k : Int32} {K : Int} (hk : k.toInt = K) (h0 : 0 ≤ i.toInt) (hK : 0 ≤ K) (h1 : i.toInt + K < 2147483648) : (i + k).toInt = i.toInt + K := by
  have q1 := c_iadd i k
  have q2 := rng32 (i + k)
  omega
theorem and15 (x : Int32) : 0 ≤ (x &&& (15 : Int32)).toInt ∧ (x &&& (15 : Int32)).toInt.toNat < HX.length := by
  have q := c_and x 15 (by decide)
  rw [show (15 : Int32).toInt = 15 from rfl] at q
  exact ⟨q.1, by show _ < 16; omega⟩
theorem d2_0 : decode prog_13_method_46_code 0 = .ok (.iload_n 1, 1) := by decide +kernel
theorem d2_1 : decode prog_13_method_46_code 1 = .ok (.istore 5, 2) := by decide +kernel
theorem d2_3 : decode prog_13_method_46_code 3 = .ok (.iload_n 1, 1) := by decide +kernel
theorem d2_4 : decode prog_13_method_46_code 4 = .ok (.iload_n 2, 1) := by decide +kernel
theorem d2_5 : decode prog_13_method_46_code 5 = .ok (.iadd, 1) := by decide +kernel
theorem d2_6 : decode prog_13_method_46_code 6 = .ok (.istore 6, 2) := by decide +kernel
theorem d2_8 : decode prog_13_method_46_code 8 = .ok (.iload 5, 2) := by decide +kernel
theorem d2_10 : decode prog_13_method_46_code 10 = .ok (.iload 6, 2) := by decide +kernel
theorem d2_12 : decode prog_13_method_46_code 12 = .ok (.if_icmp .ge 47, 3) := by decide +kernel
theorem d2_15 : decode prog_13_method_46_code 15 = .ok (.aload_n 3, 1) := by decide +kernel
theorem d2_16 : decode prog_13_method_46_code 16 = .ok (.iload 4, 2) := by decide +kernel
theorem d2_18 : decode prog_13_method_46_code 18 = .ok (.iinc 4 1, 3) := by decide +kernel
theorem d2_21 : decode prog_13_method_46_code 21 = .ok (.getstatic 288, 3) := by decide +kernel
theorem d2_24 : decode prog_13_method_46_code 24 = .ok (.aload_n 0, 1) := by decide +kernel
theorem d2_25 : decode prog_13_method_46_code 25 = .ok (.iload 5, 2) := by decide +kernel
theorem d2_27 : decode prog_13_method_46_code 27 = .ok (.baload, 1) := by decide +kernel
theorem d2_28 : decode prog_13_method_46_code 28 = .ok (.iconst 4, 1) := by decide +kernel
theorem d2_29 : decode prog_13_method_46_code 29 = .ok (.ishr, 1) := by decide +kernel
theorem d2_30 : decode prog_13_method_46_code 30 = .ok (.bipush 15, 2) := by decide +kernel
theorem d2_32 : decode prog_13_method_46_code 32 = .ok (.iand, 1) := by decide +kernel
theorem d2_33 : decode prog_13_method_46_code 33 = .ok (.baload, 1) := by decide +kernel
theorem d2_34 : decode prog_13_method_46_code 34 = .ok (.bastore, 1) := by decide +kernel
theorem d2_35 : decode prog_13_method_46_code 35 = .ok (.aload_n 3, 1) := by decide +kernel
theorem d2_36 : decode prog_13_method_46_code 36 = .ok (.iload 4, 2) := by decide +kernel
theorem d2_38 : decode prog_13_method_46_code 38 = .ok (.iinc 4 1, 3) := by decide +kernel
theorem d2_41 : decode prog_13_method_46_code 41 = .ok (.getstatic 288, 3) := by decide +kernel
theorem d2_44 : decode prog_13_method_46_code 44 = .ok (.aload_n 0, 1) := by decide +kernel
theorem d2_45 : decode prog_13_method_46_code 45 = .ok (.iload 5, 2) := by decide +kernel
theorem d2_47 : decode prog_13_method_46_code 47 = .ok (.baload, 1) := by decide +kernel
theorem d2_48 : decode prog_13_method_46_code 48 = .ok (.bipush 15, 2) := by decide +kernel
theorem d2_50 : decode prog_13_method_46_code 50 = .ok (.iand, 1) := by decide +kernel
theorem d2_51 : decode prog_13_method_46_code 51 = .ok (.baload, 1) := by decide +kernel
theorem d2_52 : decode prog_13_method_46_code 52 = .ok (.bastore, 1) := by decide +kernel
theorem d2_53 : decode prog_13_method_46_code 53 = .ok (.iinc 5 1, 3) := by decide +kernel
theorem d2_56 : decode prog_13_method_46_code 56 = .ok (.goto (-48), 3) := by decide +kernel
theorem d2_59 : decode prog_13_method_46_code 59 = .ok (.return_, 1) := by decide +kernel
theorem pn1 : plainName "com/example/parley/parley/KeySet" = true := by first | (simp [plainName, overriddenIn]; done) | decide +kernel
theorem ef3 (m : MethodId) (a : Addr) (s0 : Int32) (w0 : Int32) (b : Addr) (o : Int32) : entryFrame m #[(.ref a), (.int s0), (.int w0), (.ref b), (.int o)] 7 = mkF m 0 #[.val (.ref a), .val (.int s0), .val (.int w0), .val (.ref b), .val (.int o), .unset, .unset] [] := by first | (simp [entryFrame, mkF, argsToLocals, Value.category]; done) | rfl
abbrev Q_hex (Z : State) (h0 : Heap) (n0 : Nat) (a : Addr) (s0 : Int32) (w0 : Int32) (b : Addr) (o : Int32) (fs : List Int32) (ts : List Int32) (hx : Addr) : Option Value → Heap → Prop := fun v h' => v = none ∧ Keep h0 h' [b] ∧ ∃ us, Ints Z h' b .byte us ∧ us.length = 10 ∧ ∀ q : Nat, us.getD q 0 = if o.toInt.toNat ≤ q ∧ (q : Int) < o.toInt.toNat + 2 * w0.toInt then Wd fs s0.toInt.toNat o.toInt.toNat q else ts.getD q 0
abbrev R_hex : Room := { frames := 0, cells := 0, slots := 0, locals := 0 }
set_option maxRecDepth 65536 in
set_option maxHeartbeats 40000000 in
theorem m_hex (l : Launch) (Z : State) (a0 : Array Value) (hw : ∀ d ∈ tables_1, d.before a0 Z = true) (a : Addr) (s0 : Int32) (w0 : Int32) (b : Addr) (o : Int32) (fs : List Int32) (ts : List Int32) (hx : Addr) (h0 : Heap) (n0 : Nat) (Z0 : n0 ≤ h0.size) (OLD0 : Old Z n0 h0) (SH : Sta Z Z.heap "com/example/parley/parley/KeySet" "HEX_DIGITS" "[B" (.ref hx)) (HXA : Ints Z Z.heap hx .byte HX) (O_a : Ints Z h0 a .byte fs) (O_b : Ints Z h0 b .byte ts) (ne_ab : a ≠ b) (g_b : n0 ≤ b) (q_f : fs.length = 4) (q_t : ts.length = 10) (q_s : 0 ≤ s0.toInt) (q_w : 0 ≤ w0.toInt) (q_1 : s0.toInt + w0.toInt ≤ 4) (q_o : 0 ≤ o.toInt) (q_2 : o.toInt + 2 * w0.toInt ≤ 10) : Met l Z (⟨"com/example/parley/parley/KeySet", "writeHex", "([BII[BI)V"⟩ : MethodName) prog_13_method_46_code 7 none R_hex #[(.ref a), (.int s0), (.int w0), (.ref b), (.int o)] h0 n0 (Q_hex Z h0 n0 a s0 w0 b o fs ts hx) := by
  refine Met.of (plainFor_of_name pn1) (fun m => ef3 m a s0 w0 b o) ?_
  intro p e s m args below meth c C
  refine G.iloadN C d2_0 rfl (n := 1) rfl ?_
  refine G.istore C d2_1 (l' := #[.val (.ref a), .val (.int s0), .val (.int w0), .val (.ref b), .val (.int o), .val (.int s0), .unset]) rfl (n := 3) rfl ?_
  refine G.iloadN C d2_3 rfl (n := 4) rfl ?_
  refine G.iloadN C d2_4 rfl (n := 5) rfl ?_
  refine G.iadd C d2_5 (n := 6) rfl ?_
  refine G.istoreZ C d2_6 (l' := fun z => #[.val (.ref a), .val (.int s0), .val (.int w0), .val (.ref b), .val (.int o), .val (.int s0), .val (.int z)]) (fun _ => rfl) (n := 8) rfl ?_
  intro v1 hv1
  have qE : v1.toInt = s0.toInt + w0.toInt := by rw [hv1]; exact ixk rfl q_s q_w (by omega)
  have loop2 : ∀ k : Nat, ∀ (i : Int32) (j : Int32) (u : Nat) (us : List Int32) (hL : Heap), (Ints Z hL a .byte fs) → (Ints Z hL b .byte us) → (Old Z n0 hL) → (n0 ≤ hL.size) → (Keep h0 hL [b]) → (i.toInt = s0.toInt + (u : Int)) → (j.toInt = o.toInt + 2 * (u : Int)) → ((u : Int) + (k : Int) = w0.toInt) → (us.length = 10) → (∀ q, us.getD q 0 = if o.toInt.toNat ≤ q ∧ q < o.toInt.toNat + 2 * u then Wd fs s0.toInt.toNat o.toInt.toNat q else ts.getD q 0) → Go p l e R_hex s m args below meth c n0 (Q_hex Z h0 n0 a s0 w0 b o fs ts hx) 0 0 hL (mkF m 8 #[.val (.ref a), .val (.int s0), .val (.int w0), .val (.ref b), .val (.int j), .val (.int i), .val (.int v1)] []) := by
    intro k
    induction k with
    | zero =>
      intro i j u us hL J3 J4 OL5 Z6 K7 j1 j2 j3 j4 j5
      refine G.iload C d2_8 rfl (n := 10) rfl ?_
      refine G.iload C d2_10 rfl (n := 12) rfl ?_
      refine G.icmp_ge C (A := i.toInt) (B := v1.toInt) rfl rfl d2_12 (by decide) (by decide) (n := 15) (n' := 59) rfl (fun c12_8 => ?_) (fun c12_8 => ?_)
      rotate_left
      · exact absurd c12_8 (by omega)
      refine G.return_ C d2_59 (by decide) (by decide) ?_
      exact ⟨rfl, K7, us, J4, j4, fun q => by rw [j5 q]; split <;> split <;> first | rfl | (exfalso; omega)⟩
    | succ k ih =>
      intro i j u us hL J3 J4 OL5 Z6 K7 j1 j2 j3 j4 j5
      refine G.iload C d2_8 rfl (n := 10) rfl ?_
      refine G.iload C d2_10 rfl (n := 12) rfl ?_
      refine G.icmp_ge C (A := i.toInt) (B := v1.toInt) rfl rfl d2_12 (by decide) (by decide) (n := 15) (n' := 59) rfl (fun c12_9 => ?_) (fun c12_9 => ?_)
      · exact absurd c12_9 (by omega)
      refine G.aloadN C d2_15 rfl rfl (n := 16) rfl ?_
      refine G.iload C d2_16 rfl (n := 18) rfl ?_
      refine G.iincZ C (v := (1 : Int32)) d2_18 (by decide) rfl (l' := fun z => #[.val (.ref a), .val (.int s0), .val (.int w0), .val (.ref b), .val (.int z), .val (.int i), .val (.int v1)]) (fun _ => rfl) (n := 21) rfl ?_
      intro v10 hv10
      refine G.getstatic C (host := "") (Or.inl (wd hw 13 rfl)) Via.refl (SH.ext OL5.2) d2_21 (n := 24) rfl ?_
      refine G.aloadN C d2_24 rfl rfl (n := 25) rfl ?_
      refine G.iload C d2_25 rfl (n := 27) rfl ?_
      have ei27 : i.toInt.toNat = s0.toInt.toNat + u := by omega
      refine G.baload C (x := (fs.getD (s0.toInt.toNat + u) 0)) J3 (by omega) (by rw [ei27]; exact getD_at (by omega)) d2_27 (n := 28) rfl ?_
      refine G.iconst C (v := (4 : Int32)) d2_28 (by decide) (n := 29) rfl ?_
      refine G.ishr C d2_29 (n := 30) rfl ?_
      refine G.bipush C (v := (15 : Int32)) d2_30 (by decide) (n := 32) rfl ?_
      refine G.iand C d2_32 (n := 33) rfl ?_
      refine G.baload C (x := (HX.getD (((fs.getD (s0.toInt.toNat + u) 0) >>> ((4 : Int32) &&& 31)) &&& (15 : Int32)).toInt.toNat 0)) (HXA.ext OL5.2) (and15 _).1 (getD_at (and15 _).2) d2_33 (n := 34) rfl ?_
      have ej : j.toInt.toNat = o.toInt.toNat + 2 * u := by omega
      refine G.bastore C J4 (by omega) (by rw [j4]; omega) g_b d2_34 (n := 35) rfl ?_
      intro h11 K12 W13 O14
      have O15 : Ints Z h11 b .byte (us.set (o.toInt.toNat + 2 * u) (hxh (fs.getD (s0.toInt.toNat + u) 0))) := by have A := O14; rw [ej] at A; exact A
      have O16 := J3.keep K12 (ninS ne_ab nin0)
      have OL17 := OL5.keep K12 (allS g_b all0)
      have Z18 : n0 ≤ h11.size := Nat.le_trans Z6 K12.1
      have K19 : Keep h0 h11 [b] := Keep.tr K7 K12 (allS (Or.inl (List.mem_of_getElem? (i := 0) rfl)) all0)
      refine G.aloadN C d2_35 rfl rfl (n := 36) rfl ?_
      refine G.iload C d2_36 rfl (n := 38) rfl ?_
      refine G.iincZ C (v := (1 : Int32)) d2_38 (by decide) rfl (l' := fun z => #[.val (.ref a), .val (.int s0), .val (.int w0), .val (.ref b), .val (.int z), .val (.int i), .val (.int v1)]) (fun _ => rfl) (n := 41) rfl ?_
      intro v20 hv20
      refine G.getstatic C (host := "") (Or.inl (wd hw 13 rfl)) Via.refl (SH.ext OL17.2) d2_41 (n := 44) rfl ?_
      refine G.aloadN C d2_44 rfl rfl (n := 45) rfl ?_
      refine G.iload C d2_45 rfl (n := 47) rfl ?_
      have ei47 : i.toInt.toNat = s0.toInt.toNat + u := by omega
      refine G.baload C (x := (fs.getD (s0.toInt.toNat + u) 0)) O16 (by omega) (by rw [ei47]; exact getD_at (by omega)) d2_47 (n := 48) rfl ?_
      refine G.bipush C (v := (15 : Int32)) d2_48 (by decide) (n := 50) rfl ?_
      refine G.iand C d2_50 (n := 51) rfl ?_
      refine G.baload C (x := (HX.getD ((fs.getD (s0.toInt.toNat + u) 0) &&& (15 : Int32)).toInt.toNat 0)) (HXA.ext OL17.2) (and15 _).1 (getD_at (and15 _).2) d2_51 (n := 52) rfl ?_
      have e_j1 : v10.toInt = j.toInt + 1 := by rw [hv10]; exact ixk (by decide) (by omega) (by decide) (by omega)
      have ej2 : v10.toInt.toNat = o.toInt.toNat + 2 * u + 1 := by omega
      refine G.bastore C O15 (by omega) (by rw [List.length_set, j4]; omega) g_b d2_52 (n := 53) rfl ?_
      intro h21 K22 W23 O24
      have O25 : Ints Z h21 b .byte ((us.set (o.toInt.toNat + 2 * u) (hxh (fs.getD (s0.toInt.toNat + u) 0))).set (o.toInt.toNat + 2 * u + 1) (hxl (fs.getD (s0.toInt.toNat + u) 0))) := by have A := O24; rw [ej2] at A; exact A
      have O26 := O16.keep K22 (ninS ne_ab nin0)
      have OL27 := OL17.keep K22 (allS g_b all0)
      have Z28 : n0 ≤ h21.size := Nat.le_trans Z18 K22.1
      have K29 : Keep h0 h21 [b] := Keep.tr K19 K22 (allS (Or.inl (List.mem_of_getElem? (i := 0) rfl)) all0)
      refine G.iincZ C (v := (1 : Int32)) d2_53 (by decide) rfl (l' := fun z => #[.val (.ref a), .val (.int s0), .val (.int w0), .val (.ref b), .val (.int v20), .val (.int z), .val (.int v1)]) (fun _ => rfl) (n := 56) rfl ?_
      intro v30 hv30
      refine G.goto C d2_56 (by decide) (n := 8) (by decide) ?_
      exact ih v30 v20 (u + 1) ((us.set (o.toInt.toNat + 2 * u) (hxh (fs.getD (s0.toInt.toNat + u) 0))).set (o.toInt.toNat + 2 * u + 1) (hxl (fs.getD (s0.toInt.toNat + u) 0))) h21 O26 O25 OL27 Z28 K29 (by rw [hv30, ixk (K := 1) (by decide) (by omega) (by decide) (by omega)]; omega) (by rw [hv20, ixk (K := 1) (by decide) (by omega) (by decide) (by omega), e_j1]; omega) (by omega) (by rw [List.length_set, List.length_set]; exact j4) (wstep (by omega) j5)
  exact loop2 w0.toInt.toNat s0 o 0 ts h0 O_a O_b OLD0 Z0 (Keep.refl h0 _) (by omega) (by omega) (by omega) q_t (fun q => by rw [if_neg (by omega)])
theorem rem_v {x d : Int32} (hd : 0 < d.toInt) : 0 ≤ ((x &&& (2147483647 : Int32)) % d).toInt ∧ ((x &&& (2147483647 : Int32)) % d).toInt < d.toInt := by
  have q := (c_iremV (x &&& 2147483647) d).1 (c_and x 2147483647 (by decide)).1 hd
  exact ⟨q.1, q.2.1⟩
theorem nz_pos {d : Int32} (hd : 0 < d.toInt) : d ≠ 0 := fun h => by rw [h] at hd; exact absurd hd (by decide)
theorem subk {x y : Int32} {K : Int} (hx : x.toInt = K) (h0 : 0 ≤ y.toInt) (h1 : 0 ≤ K) : (x - y).toInt = K - y.toInt := by
  have q1 := c_isub x y
  have q2 := rng32 (x - y)
  have q3 := rng32 x
  have q4 := rng32 y
  omega
theorem mul2 {x : Int32} (h0 : 0 ≤ x.toInt) (h1 : x.toInt ≤ 4) : ((2 : Int32) * x).toInt = 2 * x.toInt := by
  have q1 := c_imul 2 x
  have q2 := rng32 (2 * x)
  rw [show (2 : Int32).toInt = 2 from rfl] at q1
  omega
theorem pd1 : parseMethodDescriptor "([BII[BI)V" = some ⟨[(.array .byte), .int, .int, (.array .byte), .int], none⟩ := by decide +kernel
theorem pd2 : parseMethodDescriptor "(IIIIII)B" = some ⟨[.int, .int, .int, .int, .int, .int], some .byte⟩ := by decide +kernel
theorem ef4 (m : MethodId) (i0 : Int32) (i1 : Int32) (i2 : Int32) (i3 : Int32) (i4 : Int32) : entryFrame m #[(.int i0), (.int i1), (.int i2), (.int i3), (.int i4)] 10 = mkF m 0 #[.val (.int i0), .val (.int i1), .val (.int i2), .val (.int i3), .val (.int i4), .unset, .unset, .unset, .unset, .unset] [] := by first | (simp [entryFrame, mkF, argsToLocals, Value.category]; done) | rfl
abbrev Q_law (Z : State) (h0 : Heap) (n0 : Nat) (i0 : Int32) (i1 : Int32) (i2 : Int32) (i3 : Int32) (i4 : Int32) (hx : Addr) : Option Value → Heap → Prop := fun v h' => v = some (.int 1)
set_option maxRecDepth 65536 in
set_option maxHeartbeats 40000000 in
theorem m_law (l : Launch) (Z : State) (a0 : Array Value) (hw : ∀ d ∈ tables_1, d.before a0 Z = true) (i0 : Int32) (i1 : Int32) (i2 : Int32) (i3 : Int32) (i4 : Int32) (hx : Addr) (h0 : Heap) (n0 : Nat) (Z0 : n0 ≤ h0.size) (OLD0 : Old Z n0 h0) (SH : Sta Z Z.heap "com/example/parley/parley/KeySet" "HEX_DIGITS" "[B" (.ref hx)) (HXA : Ints Z Z.heap hx .byte HX) : Met l Z (⟨"com/example/parley/parley/KeySetWriteHexPinLaw", "law", "(IIIII)Z"⟩ : MethodName) code 10 (some .boolean) room_1 #[(.int i0), (.int i1), (.int i2), (.int i3), (.int i4)] h0 n0 (Q_law Z h0 n0 i0 i1 i2 i3 i4 hx) := by
  refine Met.of (plainFor_of_name pn0) (fun m => ef4 m i0 i1 i2 i3 i4) ?_
  intro p e s m args below meth c C
  refine G.iconst C (v := (4 : Int32)) at_0 (by decide) (n := 1) rfl ?_
  refine G.newarray C (ty := .byte) (cap := 4) (wd hw 0 rfl) rfl rfl (by decide) (by decide) (by decide) at_1 (n := 3) rfl (c' := 1) (s' := 4) rfl rfl (by decide) (by decide) ?_
  intro h1 b2 q3 E4 O5
  have O6 : Ints Z h1 b2 .byte [0, 0, 0, 0] := O5
  have g7 : n0 ≤ b2 := Nat.le_trans Z0 (Nat.le_of_eq q3.symm)
  have K8 := kext E4
  have OL9 := OLD0.keep K8 all0
  have Z10 : n0 ≤ h1.size := Nat.le_trans Z0 K8.1
  refine G.astore C at_3 rfl (l' := #[.val (.int i0), .val (.int i1), .val (.int i2), .val (.int i3), .val (.int i4), .val (.ref b2), .unset, .unset, .unset, .unset]) rfl (n := 5) rfl ?_
  refine G.aload C at_5 rfl rfl (n := 7) rfl ?_
  refine G.iconst C (v := (0 : Int32)) at_7 (by decide) (n := 8) rfl ?_
  refine G.iloadN C at_8 rfl (n := 9) rfl ?_
  refine G.i2b C at_9 (n := 10) rfl ?_
  refine G.bastore C O6 (by decide) (show (0 : Int32).toInt < ((4 : Nat) : Int) by decide) g7 at_10 (n := 11) rfl ?_
  intro h11 K12 W13 O14
  have O15 : Ints Z h11 b2 .byte [(nar .byte (i0.toInt8.toInt32)), 0, 0, 0] := O14
  have OL16 := OL9.keep K12 (allS g7 all0)
  have Z17 : n0 ≤ h11.size := Nat.le_trans Z10 K12.1
  refine G.aload C at_11 rfl rfl (n := 13) rfl ?_
  refine G.iconst C (v := (1 : Int32)) at_13 (by decide) (n := 14) rfl ?_
  refine G.iloadN C at_14 rfl (n := 15) rfl ?_
  refine G.bipush C (v := (8 : Int32)) at_15 (by decide) (n := 17) rfl ?_
  refine G.iushr C at_17 (n := 18) rfl ?_
  refine G.i2b C at_18 (n := 19) rfl ?_
  refine G.bastore C O15 (by decide) (show (1 : Int32).toInt < ((4 : Nat) : Int) by decide) g7 at_19 (n := 20) rfl ?_
  intro h18 K19 W20 O21
  have O22 : Ints Z h18 b2 .byte [(nar .byte (i0.toInt8.toInt32)), (nar .byte (((i0.toUInt32 >>> ((8 : Int32) &&& 31).toUInt32).toInt32).toInt8.toInt32)), 0, 0] := O21
  have OL23 := OL16.keep K19 (allS g7 all0)
  have Z24 : n0 ≤ h18.size := Nat.le_trans Z17 K19.1
  refine G.aload C at_20 rfl rfl (n := 22) rfl ?_
  refine G.iconst C (v := (2 : Int32)) at_22 (by decide) (n := 23) rfl ?_
  refine G.iloadN C at_23 rfl (n := 24) rfl ?_
  refine G.bipush C (v := (16 : Int32)) at_24 (by decide) (n := 26) rfl ?_
  refine G.iushr C at_26 (n := 27) rfl ?_
  refine G.i2b C at_27 (n := 28) rfl ?_
  refine G.bastore C O22 (by decide) (show (2 : Int32).toInt < ((4 : Nat) : Int) by decide) g7 at_28 (n := 29) rfl ?_
  intro h25 K26 W27 O28
  have O29 : Ints Z h25 b2 .byte [(nar .byte (i0.toInt8.toInt32)), (nar .byte (((i0.toUInt32 >>> ((8 : Int32) &&& 31).toUInt32).toInt32).toInt8.toInt32)), (nar .byte (((i0.toUInt32 >>> ((16 : Int32) &&& 31).toUInt32).toInt32).toInt8.toInt32)), 0] := O28
  have OL30 := OL23.keep K26 (allS g7 all0)
  have Z31 : n0 ≤ h25.size := Nat.le_trans Z24 K26.1
  refine G.aload C at_29 rfl rfl (n := 31) rfl ?_
  refine G.iconst C (v := (3 : Int32)) at_31 (by decide) (n := 32) rfl ?_
  refine G.iloadN C at_32 rfl (n := 33) rfl ?_
  refine G.bipush C (v := (24 : Int32)) at_33 (by decide) (n := 35) rfl ?_
  refine G.iushr C at_35 (n := 36) rfl ?_
  refine G.i2b C at_36 (n := 37) rfl ?_
  refine G.bastore C O29 (by decide) (show (3 : Int32).toInt < ((4 : Nat) : Int) by decide) g7 at_37 (n := 38) rfl ?_
  intro h32 K33 W34 O35
  have O36 : Ints Z h32 b2 .byte [(nar .byte (i0.toInt8.toInt32)), (nar .byte (((i0.toUInt32 >>> ((8 : Int32) &&& 31).toUInt32).toInt32).toInt8.toInt32)), (nar .byte (((i0.toUInt32 >>> ((16 : Int32) &&& 31).toUInt32).toInt32).toInt8.toInt32)), (nar .byte (((i0.toUInt32 >>> ((24 : Int32) &&& 31).toUInt32).toInt32).toInt8.toInt32))] := O35
  have OL37 := OL30.keep K33 (allS g7 all0)
  have Z38 : n0 ≤ h32.size := Nat.le_trans Z31 K33.1
  refine G.iloadN C at_38 rfl (n := 39) rfl ?_
  refine G.ldc C (v := (2147483647 : Int32)) (wd hw 1 rfl) at_39 (n := 41) rfl ?_
  refine G.iand C at_41 (n := 42) rfl ?_
  refine G.iconst C (v := (5 : Int32)) at_42 (by decide) (n := 43) rfl ?_
  refine G.irem C at_43 (by decide) (n := 44) rfl ?_
  refine G.istoreZ C at_44 (l' := fun z => #[.val (.int i0), .val (.int i1), .val (.int i2), .val (.int i3), .val (.int i4), .val (.ref b2), .val (.int z), .unset, .unset, .unset]) (fun _ => rfl) (n := 46) rfl ?_
  intro v39 hv39
  have qs : 0 ≤ v39.toInt ∧ v39.toInt < 5 := by rw [hv39]; exact rem_v (d := 5) (by decide)
  have q5 : ((5 : Int32) - v39).toInt = 5 - v39.toInt := subk (by decide) qs.1 (by decide)
  refine G.iloadN C at_46 rfl (n := 47) rfl ?_
  refine G.ldc C (v := (2147483647 : Int32)) (wd hw 1 rfl) at_47 (n := 49) rfl ?_
  refine G.iand C at_49 (n := 50) rfl ?_
  refine G.iconst C (v := (5 : Int32)) at_50 (by decide) (n := 51) rfl ?_
  refine G.iload C at_51 rfl (n := 53) rfl ?_
  refine G.isub C at_53 (n := 54) rfl ?_
  refine G.irem C at_54 (nz_pos (by omega)) (n := 55) rfl ?_
  refine G.istoreZ C at_55 (l' := fun z => #[.val (.int i0), .val (.int i1), .val (.int i2), .val (.int i3), .val (.int i4), .val (.ref b2), .val (.int v39), .val (.int z), .unset, .unset]) (fun _ => rfl) (n := 57) rfl ?_
  intro v40 hv40
  have qw : 0 ≤ v40.toInt ∧ v40.toInt < ((5 : Int32) - v39).toInt := by rw [hv40]; exact rem_v (by omega)
  have q2w := mul2 (x := v40) qw.1 (by omega)
  have q11 : ((11 : Int32) - ((2 : Int32) * v40)).toInt = 11 - ((2 : Int32) * v40).toInt := subk (by decide) (by omega) (by decide)
  refine G.iloadN C at_57 rfl (n := 58) rfl ?_
  refine G.ldc C (v := (2147483647 : Int32)) (wd hw 1 rfl) at_58 (n := 60) rfl ?_
  refine G.iand C at_60 (n := 61) rfl ?_
  refine G.bipush C (v := (11 : Int32)) at_61 (by decide) (n := 63) rfl ?_
  refine G.iconst C (v := (2 : Int32)) at_63 (by decide) (n := 64) rfl ?_
  refine G.iload C at_64 rfl (n := 66) rfl ?_
  refine G.imul C at_66 (n := 67) rfl ?_
  refine G.isub C at_67 (n := 68) rfl ?_
  refine G.irem C at_68 (nz_pos (by omega)) (n := 69) rfl ?_
  refine G.istoreZ C at_69 (l' := fun z => #[.val (.int i0), .val (.int i1), .val (.int i2), .val (.int i3), .val (.int i4), .val (.ref b2), .val (.int v39), .val (.int v40), .val (.int z), .unset]) (fun _ => rfl) (n := 71) rfl ?_
  intro v41 hv41
  have qo : 0 ≤ v41.toInt ∧ v41.toInt < ((11 : Int32) - ((2 : Int32) * v40)).toInt := by rw [hv41]; exact rem_v (by omega)
  refine G.bipush C (v := (10 : Int32)) at_71 (by decide) (n := 73) rfl ?_
  refine G.newarray C (ty := .byte) (cap := 10) (wd hw 0 rfl) rfl rfl (by decide) (by decide) (by decide) at_73 (n := 75) rfl (c' := 2) (s' := 14) rfl rfl (by decide) (by decide) ?_
  intro h42 b43 q44 E45 O46
  have O47 : Ints Z h42 b43 .byte [0, 0, 0, 0, 0, 0, 0, 0, 0, 0] := O46
  have ne48 : b2 ≠ b43 := Nat.ne_of_lt (Nat.lt_of_lt_of_le O36.lt (Nat.le_of_eq q44.symm))
  have g49 : n0 ≤ b43 := Nat.le_trans Z38 (Nat.le_of_eq q44.symm)
  have K50 := kext E45
  have O51 := O36.keep K50 nin0
  have OL52 := OL37.keep K50 all0
  have Z53 : n0 ≤ h42.size := Nat.le_trans Z38 K50.1
  refine G.astore C at_75 rfl (l' := #[.val (.int i0), .val (.int i1), .val (.int i2), .val (.int i3), .val (.int i4), .val (.ref b2), .val (.int v39), .val (.int v40), .val (.int v41), .val (.ref b43)]) rfl (n := 77) rfl ?_
  refine G.aload C at_77 rfl rfl (n := 79) rfl ?_
  refine G.iconst C (v := (0 : Int32)) at_79 (by decide) (n := 80) rfl ?_
  refine G.iload C at_80 rfl (n := 82) rfl ?_
  refine G.iconst C (v := (0 : Int32)) at_82 (by decide) (n := 83) rfl ?_
  refine G.callS C (argsL := [(.int i4), (.int (0 : Int32))]) (yc := (⟨"com/example/parley/parley/KeySetWriteHexPinLaw", "fill", "(II)B"⟩ : MethodName)) (wd hw 2 rfl) (wd hw 3 rfl) (wd hw 4 rfl) (wd hw 5 rfl) (by decide) (m_fill l Z a0 hw i4 (0 : Int32) h42 n0 Z53) rfl (by decide) (W := 2) rfl (by decide) (c' := 2) (s' := 14) rfl rfl (by decide) (by decide) at_83 (n := 86) rfl pd0 rfl rfl ?_
  rintro _ _ ⟨rfl, rfl⟩
  refine G.bastore C O47 (by decide) (show (0 : Int32).toInt < ((10 : Nat) : Int) by decide) g49 at_86 (n := 87) rfl ?_
  intro h56 K57 W58 O59
  have O60 : Ints Z h56 b43 .byte [(nar .byte (fillI i4 (0 : Int32))), 0, 0, 0, 0, 0, 0, 0, 0, 0] := O59
  have O61 := O51.keep K57 (ninS ne48 nin0)
  have OL62 := OL52.keep K57 (allS g49 all0)
  have Z63 : n0 ≤ h56.size := Nat.le_trans Z53 K57.1
  refine G.aload C at_87 rfl rfl (n := 89) rfl ?_
  refine G.iconst C (v := (1 : Int32)) at_89 (by decide) (n := 90) rfl ?_
  refine G.iload C at_90 rfl (n := 92) rfl ?_
  refine G.iconst C (v := (1 : Int32)) at_92 (by decide) (n := 93) rfl ?_
  refine G.callS C (argsL := [(.int i4), (.int (1 : Int32))]) (yc := (⟨"com/example/parley/parley/KeySetWriteHexPinLaw", "fill", "(II)B"⟩ : MethodName)) (wd hw 2 rfl) (wd hw 3 rfl) (wd hw 4 rfl) (wd hw 5 rfl) (by decide) (m_fill l Z a0 hw i4 (1 : Int32) h56 n0 Z63) rfl (by decide) (W := 2) rfl (by decide) (c' := 2) (s' := 14) rfl rfl (by decide) (by decide) at_93 (n := 96) rfl pd0 rfl rfl ?_
  rintro _ _ ⟨rfl, rfl⟩
  refine G.bastore C O60 (by decide) (show (1 : Int32).toInt < ((10 : Nat) : Int) by decide) g49 at_96 (n := 97) rfl ?_
  intro h66 K67 W68 O69
  have O70 : Ints Z h66 b43 .byte [(nar .byte (fillI i4 (0 : Int32))), (nar .byte (fillI i4 (1 : Int32))), 0, 0, 0, 0, 0, 0, 0, 0] := O69
  have O71 := O61.keep K67 (ninS ne48 nin0)
  have OL72 := OL62.keep K67 (allS g49 all0)
  have Z73 : n0 ≤ h66.size := Nat.le_trans Z63 K67.1
  refine G.aload C at_97 rfl rfl (n := 99) rfl ?_
  refine G.iconst C (v := (2 : Int32)) at_99 (by decide) (n := 100) rfl ?_
  refine G.iload C at_100 rfl (n := 102) rfl ?_
  refine G.iconst C (v := (2 : Int32)) at_102 (by decide) (n := 103) rfl ?_
  refine G.callS C (argsL := [(.int i4), (.int (2 : Int32))]) (yc := (⟨"com/example/parley/parley/KeySetWriteHexPinLaw", "fill", "(II)B"⟩ : MethodName)) (wd hw 2 rfl) (wd hw 3 rfl) (wd hw 4 rfl) (wd hw 5 rfl) (by decide) (m_fill l Z a0 hw i4 (2 : Int32) h66 n0 Z73) rfl (by decide) (W := 2) rfl (by decide) (c' := 2) (s' := 14) rfl rfl (by decide) (by decide) at_103 (n := 106) rfl pd0 rfl rfl ?_
  rintro _ _ ⟨rfl, rfl⟩
  refine G.bastore C O70 (by decide) (show (2 : Int32).toInt < ((10 : Nat) : Int) by decide) g49 at_106 (n := 107) rfl ?_
  intro h76 K77 W78 O79
  have O80 : Ints Z h76 b43 .byte [(nar .byte (fillI i4 (0 : Int32))), (nar .byte (fillI i4 (1 : Int32))), (nar .byte (fillI i4 (2 : Int32))), 0, 0, 0, 0, 0, 0, 0] := O79
  have O81 := O71.keep K77 (ninS ne48 nin0)
  have OL82 := OL72.keep K77 (allS g49 all0)
  have Z83 : n0 ≤ h76.size := Nat.le_trans Z73 K77.1
  refine G.aload C at_107 rfl rfl (n := 109) rfl ?_
  refine G.iconst C (v := (3 : Int32)) at_109 (by decide) (n := 110) rfl ?_
  refine G.iload C at_110 rfl (n := 112) rfl ?_
  refine G.iconst C (v := (3 : Int32)) at_112 (by decide) (n := 113) rfl ?_
  refine G.callS C (argsL := [(.int i4), (.int (3 : Int32))]) (yc := (⟨"com/example/parley/parley/KeySetWriteHexPinLaw", "fill", "(II)B"⟩ : MethodName)) (wd hw 2 rfl) (wd hw 3 rfl) (wd hw 4 rfl) (wd hw 5 rfl) (by decide) (m_fill l Z a0 hw i4 (3 : Int32) h76 n0 Z83) rfl (by decide) (W := 2) rfl (by decide) (c' := 2) (s' := 14) rfl rfl (by decide) (by decide) at_113 (n := 116) rfl pd0 rfl rfl ?_
  rintro _ _ ⟨rfl, rfl⟩
  refine G.bastore C O80 (by decide) (show (3 : Int32).toInt < ((10 : Nat) : Int) by decide) g49 at_116 (n := 117) rfl ?_
  intro h86 K87 W88 O89
  have O90 : Ints Z h86 b43 .byte [(nar .byte (fillI i4 (0 : Int32))), (nar .byte (fillI i4 (1 : Int32))), (nar .byte (fillI i4 (2 : Int32))), (nar .byte (fillI i4 (3 : Int32))), 0, 0, 0, 0, 0, 0] := O89
  have O91 := O81.keep K87 (ninS ne48 nin0)
  have OL92 := OL82.keep K87 (allS g49 all0)
  have Z93 : n0 ≤ h86.size := Nat.le_trans Z83 K87.1
  refine G.aload C at_117 rfl rfl (n := 119) rfl ?_
  refine G.iconst C (v := (4 : Int32)) at_119 (by decide) (n := 120) rfl ?_
  refine G.iload C at_120 rfl (n := 122) rfl ?_
  refine G.iconst C (v := (4 : Int32)) at_122 (by decide) (n := 123) rfl ?_
  refine G.callS C (argsL := [(.int i4), (.int (4 : Int32))]) (yc := (⟨"com/example/parley/parley/KeySetWriteHexPinLaw", "fill", "(II)B"⟩ : MethodName)) (wd hw 2 rfl) (wd hw 3 rfl) (wd hw 4 rfl) (wd hw 5 rfl) (by decide) (m_fill l Z a0 hw i4 (4 : Int32) h86 n0 Z93) rfl (by decide) (W := 2) rfl (by decide) (c' := 2) (s' := 14) rfl rfl (by decide) (by decide) at_123 (n := 126) rfl pd0 rfl rfl ?_
  rintro _ _ ⟨rfl, rfl⟩
  refine G.bastore C O90 (by decide) (show (4 : Int32).toInt < ((10 : Nat) : Int) by decide) g49 at_126 (n := 127) rfl ?_
  intro h96 K97 W98 O99
  have O100 : Ints Z h96 b43 .byte [(nar .byte (fillI i4 (0 : Int32))), (nar .byte (fillI i4 (1 : Int32))), (nar .byte (fillI i4 (2 : Int32))), (nar .byte (fillI i4 (3 : Int32))), (nar .byte (fillI i4 (4 : Int32))), 0, 0, 0, 0, 0] := O99
  have O101 := O91.keep K97 (ninS ne48 nin0)
  have OL102 := OL92.keep K97 (allS g49 all0)
  have Z103 : n0 ≤ h96.size := Nat.le_trans Z93 K97.1
  refine G.aload C at_127 rfl rfl (n := 129) rfl ?_
  refine G.iconst C (v := (5 : Int32)) at_129 (by decide) (n := 130) rfl ?_
  refine G.iload C at_130 rfl (n := 132) rfl ?_
  refine G.iconst C (v := (5 : Int32)) at_132 (by decide) (n := 133) rfl ?_
  refine G.callS C (argsL := [(.int i4), (.int (5 : Int32))]) (yc := (⟨"com/example/parley/parley/KeySetWriteHexPinLaw", "fill", "(II)B"⟩ : MethodName)) (wd hw 2 rfl) (wd hw 3 rfl) (wd hw 4 rfl) (wd hw 5 rfl) (by decide) (m_fill l Z a0 hw i4 (5 : Int32) h96 n0 Z103) rfl (by decide) (W := 2) rfl (by decide) (c' := 2) (s' := 14) rfl rfl (by decide) (by decide) at_133 (n := 136) rfl pd0 rfl rfl ?_
  rintro _ _ ⟨rfl, rfl⟩
  refine G.bastore C O100 (by decide) (show (5 : Int32).toInt < ((10 : Nat) : Int) by decide) g49 at_136 (n := 137) rfl ?_
  intro h106 K107 W108 O109
  have O110 : Ints Z h106 b43 .byte [(nar .byte (fillI i4 (0 : Int32))), (nar .byte (fillI i4 (1 : Int32))), (nar .byte (fillI i4 (2 : Int32))), (nar .byte (fillI i4 (3 : Int32))), (nar .byte (fillI i4 (4 : Int32))), (nar .byte (fillI i4 (5 : Int32))), 0, 0, 0, 0] := O109
  have O111 := O101.keep K107 (ninS ne48 nin0)
  have OL112 := OL102.keep K107 (allS g49 all0)
  have Z113 : n0 ≤ h106.size := Nat.le_trans Z103 K107.1
  refine G.aload C at_137 rfl rfl (n := 139) rfl ?_
  refine G.bipush C (v := (6 : Int32)) at_139 (by decide) (n := 141) rfl ?_
  refine G.iload C at_141 rfl (n := 143) rfl ?_
  refine G.bipush C (v := (6 : Int32)) at_143 (by decide) (n := 145) rfl ?_
  refine G.callS C (argsL := [(.int i4), (.int (6 : Int32))]) (yc := (⟨"com/example/parley/parley/KeySetWriteHexPinLaw", "fill", "(II)B"⟩ : MethodName)) (wd hw 2 rfl) (wd hw 3 rfl) (wd hw 4 rfl) (wd hw 5 rfl) (by decide) (m_fill l Z a0 hw i4 (6 : Int32) h106 n0 Z113) rfl (by decide) (W := 2) rfl (by decide) (c' := 2) (s' := 14) rfl rfl (by decide) (by decide) at_145 (n := 148) rfl pd0 rfl rfl ?_
  rintro _ _ ⟨rfl, rfl⟩
  refine G.bastore C O110 (by decide) (show (6 : Int32).toInt < ((10 : Nat) : Int) by decide) g49 at_148 (n := 149) rfl ?_
  intro h116 K117 W118 O119
  have O120 : Ints Z h116 b43 .byte [(nar .byte (fillI i4 (0 : Int32))), (nar .byte (fillI i4 (1 : Int32))), (nar .byte (fillI i4 (2 : Int32))), (nar .byte (fillI i4 (3 : Int32))), (nar .byte (fillI i4 (4 : Int32))), (nar .byte (fillI i4 (5 : Int32))), (nar .byte (fillI i4 (6 : Int32))), 0, 0, 0] := O119
  have O121 := O111.keep K117 (ninS ne48 nin0)
  have OL122 := OL112.keep K117 (allS g49 all0)
  have Z123 : n0 ≤ h116.size := Nat.le_trans Z113 K117.1
  refine G.aload C at_149 rfl rfl (n := 151) rfl ?_
  refine G.bipush C (v := (7 : Int32)) at_151 (by decide) (n := 153) rfl ?_
  refine G.iload C at_153 rfl (n := 155) rfl ?_
  refine G.bipush C (v := (7 : Int32)) at_155 (by decide) (n := 157) rfl ?_
  refine G.callS C (argsL := [(.int i4), (.int (7 : Int32))]) (yc := (⟨"com/example/parley/parley/KeySetWriteHexPinLaw", "fill", "(II)B"⟩ : MethodName)) (wd hw 2 rfl) (wd hw 3 rfl) (wd hw 4 rfl) (wd hw 5 rfl) (by decide) (m_fill l Z a0 hw i4 (7 : Int32) h116 n0 Z123) rfl (by decide) (W := 2) rfl (by decide) (c' := 2) (s' := 14) rfl rfl (by decide) (by decide) at_157 (n := 160) rfl pd0 rfl rfl ?_
  rintro _ _ ⟨rfl, rfl⟩
  refine G.bastore C O120 (by decide) (show (7 : Int32).toInt < ((10 : Nat) : Int) by decide) g49 at_160 (n := 161) rfl ?_
  intro h126 K127 W128 O129
  have O130 : Ints Z h126 b43 .byte [(nar .byte (fillI i4 (0 : Int32))), (nar .byte (fillI i4 (1 : Int32))), (nar .byte (fillI i4 (2 : Int32))), (nar .byte (fillI i4 (3 : Int32))), (nar .byte (fillI i4 (4 : Int32))), (nar .byte (fillI i4 (5 : Int32))), (nar .byte (fillI i4 (6 : Int32))), (nar .byte (fillI i4 (7 : Int32))), 0, 0] := O129
  have O131 := O121.keep K127 (ninS ne48 nin0)
  have OL132 := OL122.keep K127 (allS g49 all0)
  have Z133 : n0 ≤ h126.size := Nat.le_trans Z123 K127.1
  refine G.aload C at_161 rfl rfl (n := 163) rfl ?_
  refine G.bipush C (v := (8 : Int32)) at_163 (by decide) (n := 165) rfl ?_
  refine G.iload C at_165 rfl (n := 167) rfl ?_
  refine G.bipush C (v := (8 : Int32)) at_167 (by decide) (n := 169) rfl ?_
  refine G.callS C (argsL := [(.int i4), (.int (8 : Int32))]) (yc := (⟨"com/example/parley/parley/KeySetWriteHexPinLaw", "fill", "(II)B"⟩ : MethodName)) (wd hw 2 rfl) (wd hw 3 rfl) (wd hw 4 rfl) (wd hw 5 rfl) (by decide) (m_fill l Z a0 hw i4 (8 : Int32) h126 n0 Z133) rfl (by decide) (W := 2) rfl (by decide) (c' := 2) (s' := 14) rfl rfl (by decide) (by decide) at_169 (n := 172) rfl pd0 rfl rfl ?_
  rintro _ _ ⟨rfl, rfl⟩
  refine G.bastore C O130 (by decide) (show (8 : Int32).toInt < ((10 : Nat) : Int) by decide) g49 at_172 (n := 173) rfl ?_
  intro h136 K137 W138 O139
  have O140 : Ints Z h136 b43 .byte [(nar .byte (fillI i4 (0 : Int32))), (nar .byte (fillI i4 (1 : Int32))), (nar .byte (fillI i4 (2 : Int32))), (nar .byte (fillI i4 (3 : Int32))), (nar .byte (fillI i4 (4 : Int32))), (nar .byte (fillI i4 (5 : Int32))), (nar .byte (fillI i4 (6 : Int32))), (nar .byte (fillI i4 (7 : Int32))), (nar .byte (fillI i4 (8 : Int32))), 0] := O139
  have O141 := O131.keep K137 (ninS ne48 nin0)
  have OL142 := OL132.keep K137 (allS g49 all0)
  have Z143 : n0 ≤ h136.size := Nat.le_trans Z133 K137.1
  refine G.aload C at_173 rfl rfl (n := 175) rfl ?_
  refine G.bipush C (v := (9 : Int32)) at_175 (by decide) (n := 177) rfl ?_
  refine G.iload C at_177 rfl (n := 179) rfl ?_
  refine G.bipush C (v := (9 : Int32)) at_179 (by decide) (n := 181) rfl ?_
  refine G.callS C (argsL := [(.int i4), (.int (9 : Int32))]) (yc := (⟨"com/example/parley/parley/KeySetWriteHexPinLaw", "fill", "(II)B"⟩ : MethodName)) (wd hw 2 rfl) (wd hw 3 rfl) (wd hw 4 rfl) (wd hw 5 rfl) (by decide) (m_fill l Z a0 hw i4 (9 : Int32) h136 n0 Z143) rfl (by decide) (W := 2) rfl (by decide) (c' := 2) (s' := 14) rfl rfl (by decide) (by decide) at_181 (n := 184) rfl pd0 rfl rfl ?_
  rintro _ _ ⟨rfl, rfl⟩
  refine G.bastore C O140 (by decide) (show (9 : Int32).toInt < ((10 : Nat) : Int) by decide) g49 at_184 (n := 185) rfl ?_
  intro h146 K147 W148 O149
  have O150 : Ints Z h146 b43 .byte [(nar .byte (fillI i4 (0 : Int32))), (nar .byte (fillI i4 (1 : Int32))), (nar .byte (fillI i4 (2 : Int32))), (nar .byte (fillI i4 (3 : Int32))), (nar .byte (fillI i4 (4 : Int32))), (nar .byte (fillI i4 (5 : Int32))), (nar .byte (fillI i4 (6 : Int32))), (nar .byte (fillI i4 (7 : Int32))), (nar .byte (fillI i4 (8 : Int32))), (nar .byte (fillI i4 (9 : Int32)))] := O149
  have O151 := O141.keep K147 (ninS ne48 nin0)
  have OL152 := OL142.keep K147 (allS g49 all0)
  have Z153 : n0 ≤ h146.size := Nat.le_trans Z143 K147.1
  refine G.aload C at_185 rfl rfl (n := 187) rfl ?_
  refine G.iload C at_187 rfl (n := 189) rfl ?_
  refine G.iload C at_189 rfl (n := 191) rfl ?_
  refine G.aload C at_191 rfl rfl (n := 193) rfl ?_
  refine G.iload C at_193 rfl (n := 195) rfl ?_
  refine G.callS C (argsL := [(.ref b2), (.int v39), (.int v40), (.ref b43), (.int v41)]) (yc := (⟨"com/example/parley/parley/KeySet", "writeHex", "([BII[BI)V"⟩ : MethodName)) (wd hw 6 rfl) (wd hw 7 rfl) (wd hw 8 rfl) (wd hw 9 rfl) (by decide) (m_hex l Z a0 hw b2 v39 v40 b43 v41 [(nar .byte (i0.toInt8.toInt32)), (nar .byte (((i0.toUInt32 >>> ((8 : Int32) &&& 31).toUInt32).toInt32).toInt8.toInt32)), (nar .byte (((i0.toUInt32 >>> ((16 : Int32) &&& 31).toUInt32).toInt32).toInt8.toInt32)), (nar .byte (((i0.toUInt32 >>> ((24 : Int32) &&& 31).toUInt32).toInt32).toInt8.toInt32))] [(nar .byte (fillI i4 (0 : Int32))), (nar .byte (fillI i4 (1 : Int32))), (nar .byte (fillI i4 (2 : Int32))), (nar .byte (fillI i4 (3 : Int32))), (nar .byte (fillI i4 (4 : Int32))), (nar .byte (fillI i4 (5 : Int32))), (nar .byte (fillI i4 (6 : Int32))), (nar .byte (fillI i4 (7 : Int32))), (nar .byte (fillI i4 (8 : Int32))), (nar .byte (fillI i4 (9 : Int32)))] hx h146 n0 Z153 OL152 SH HXA O151 O150 ne48 g49 rfl rfl qs.1 qw.1 (by omega) qo.1 (by omega)) rfl (by decide) (W := 0) rfl (by decide) (c' := 2) (s' := 14) rfl rfl (by decide) (by decide) at_195 (n := 198) rfl pd1 rfl rfl ?_
  rintro _ h157 ⟨rfl, K154, us, O155, Hl, Hq⟩
  have O158 := O151.keep K154 (ninS ne48 nin0)
  have OL159 := OL152.keep K154 (allS g49 all0)
  have Z160 : n0 ≤ h157.size := Nat.le_trans Z153 K154.1
  refine G.aload C at_198 rfl rfl (n := 200) rfl ?_
  refine G.iconst C (v := (0 : Int32)) at_200 (by decide) (n := 201) rfl ?_
  refine G.baload C (x := (us.getD 0 0)) O155 (by decide) (getD_at (by rw [Hl]; decide)) at_201 (n := 202) rfl ?_
  refine G.iconst C (v := (0 : Int32)) at_202 (by decide) (n := 203) rfl ?_
  refine G.iloadN C at_203 rfl (n := 204) rfl ?_
  refine G.iload C at_204 rfl (n := 206) rfl ?_
  refine G.iload C at_206 rfl (n := 208) rfl ?_
  refine G.iload C at_208 rfl (n := 210) rfl ?_
  refine G.iload C at_210 rfl (n := 212) rfl ?_
  refine G.callS C (argsL := [(.int (0 : Int32)), (.int i0), (.int v39), (.int v40), (.int v41), (.int i4)]) (yc := (⟨"com/example/parley/parley/KeySetWriteHexPinLaw", "expected", "(IIIIII)B"⟩ : MethodName)) (wd hw 10 rfl) (wd hw 11 rfl) (wd hw 4 rfl) (wd hw 12 rfl) (by decide) (m_expected l Z a0 hw (0 : Int32) i0 v39 v40 v41 i4 h157 n0 Z160) rfl (by decide) (W := 1) rfl (by decide) (c' := 2) (s' := 14) rfl rfl (by decide) (by decide) at_212 (n := 215) rfl pd2 rfl rfl ?_
  rintro _ _ ⟨rfl, rfl⟩
  refine G.icmp_ne C (A := (us.getD 0 0).toInt) (B := (expI (0 : Int32) i0 v39 v40 v41 i4).toInt) rfl rfl at_215 (by decide) (by decide) (n := 218) (n' := 410) rfl (fun c215_163 c215_163i => ?_) (fun c215_163 c215_163i => ?_)
  · exact absurd (fin_q (S := v39.toInt.toNat) (O := v41.toInt.toNat) rfl (by decide) (by omega) (by omega) qw.1 (by omega) (by omega) rfl (Hq 0)) c215_163
  refine G.aload C at_218 rfl rfl (n := 220) rfl ?_
  refine G.iconst C (v := (1 : Int32)) at_220 (by decide) (n := 221) rfl ?_
  refine G.baload C (x := (us.getD 1 0)) O155 (by decide) (getD_at (by rw [Hl]; decide)) at_221 (n := 222) rfl ?_
  refine G.iconst C (v := (1 : Int32)) at_222 (by decide) (n := 223) rfl ?_
  refine G.iloadN C at_223 rfl (n := 224) rfl ?_
  refine G.iload C at_224 rfl (n := 226) rfl ?_
  refine G.iload C at_226 rfl (n := 228) rfl ?_
  refine G.iload C at_228 rfl (n := 230) rfl ?_
  refine G.iload C at_230 rfl (n := 232) rfl ?_
  refine G.callS C (argsL := [(.int (1 : Int32)), (.int i0), (.int v39), (.int v40), (.int v41), (.int i4)]) (yc := (⟨"com/example/parley/parley/KeySetWriteHexPinLaw", "expected", "(IIIIII)B"⟩ : MethodName)) (wd hw 10 rfl) (wd hw 11 rfl) (wd hw 4 rfl) (wd hw 12 rfl) (by decide) (m_expected l Z a0 hw (1 : Int32) i0 v39 v40 v41 i4 h157 n0 Z160) rfl (by decide) (W := 1) rfl (by decide) (c' := 2) (s' := 14) rfl rfl (by decide) (by decide) at_232 (n := 235) rfl pd2 rfl rfl ?_
  rintro _ _ ⟨rfl, rfl⟩
  refine G.icmp_ne C (A := (us.getD 1 0).toInt) (B := (expI (1 : Int32) i0 v39 v40 v41 i4).toInt) rfl rfl at_235 (by decide) (by decide) (n := 238) (n' := 410) rfl (fun c235_166 c235_166i => ?_) (fun c235_166 c235_166i => ?_)
  · exact absurd (fin_q (S := v39.toInt.toNat) (O := v41.toInt.toNat) rfl (by decide) (by omega) (by omega) qw.1 (by omega) (by omega) rfl (Hq 1)) c235_166
  refine G.aload C at_238 rfl rfl (n := 240) rfl ?_
  refine G.iconst C (v := (2 : Int32)) at_240 (by decide) (n := 241) rfl ?_
  refine G.baload C (x := (us.getD 2 0)) O155 (by decide) (getD_at (by rw [Hl]; decide)) at_241 (n := 242) rfl ?_
  refine G.iconst C (v := (2 : Int32)) at_242 (by decide) (n := 243) rfl ?_
  refine G.iloadN C at_243 rfl (n := 244) rfl ?_
  refine G.iload C at_244 rfl (n := 246) rfl ?_
  refine G.iload C at_246 rfl (n := 248) rfl ?_
  refine G.iload C at_248 rfl (n := 250) rfl ?_
  refine G.iload C at_250 rfl (n := 252) rfl ?_
  refine G.callS C (argsL := [(.int (2 : Int32)), (.int i0), (.int v39), (.int v40), (.int v41), (.int i4)]) (yc := (⟨"com/example/parley/parley/KeySetWriteHexPinLaw", "expected", "(IIIIII)B"⟩ : MethodName)) (wd hw 10 rfl) (wd hw 11 rfl) (wd hw 4 rfl) (wd hw 12 rfl) (by decide) (m_expected l Z a0 hw (2 : Int32) i0 v39 v40 v41 i4 h157 n0 Z160) rfl (by decide) (W := 1) rfl (by decide) (c' := 2) (s' := 14) rfl rfl (by decide) (by decide) at_252 (n := 255) rfl pd2 rfl rfl ?_
  rintro _ _ ⟨rfl, rfl⟩
  refine G.icmp_ne C (A := (us.getD 2 0).toInt) (B := (expI (2 : Int32) i0 v39 v40 v41 i4).toInt) rfl rfl at_255 (by decide) (by decide) (n := 258) (n' := 410) rfl (fun c255_169 c255_169i => ?_) (fun c255_169 c255_169i => ?_)
  · exact absurd (fin_q (S := v39.toInt.toNat) (O := v41.toInt.toNat) rfl (by decide) (by omega) (by omega) qw.1 (by omega) (by omega) rfl (Hq 2)) c255_169
  refine G.aload C at_258 rfl rfl (n := 260) rfl ?_
  refine G.iconst C (v := (3 : Int32)) at_260 (by decide) (n := 261) rfl ?_
  refine G.baload C (x := (us.getD 3 0)) O155 (by decide) (getD_at (by rw [Hl]; decide)) at_261 (n := 262) rfl ?_
  refine G.iconst C (v := (3 : Int32)) at_262 (by decide) (n := 263) rfl ?_
  refine G.iloadN C at_263 rfl (n := 264) rfl ?_
  refine G.iload C at_264 rfl (n := 266) rfl ?_
  refine G.iload C at_266 rfl (n := 268) rfl ?_
  refine G.iload C at_268 rfl (n := 270) rfl ?_
  refine G.iload C at_270 rfl (n := 272) rfl ?_
  refine G.callS C (argsL := [(.int (3 : Int32)), (.int i0), (.int v39), (.int v40), (.int v41), (.int i4)]) (yc := (⟨"com/example/parley/parley/KeySetWriteHexPinLaw", "expected", "(IIIIII)B"⟩ : MethodName)) (wd hw 10 rfl) (wd hw 11 rfl) (wd hw 4 rfl) (wd hw 12 rfl) (by decide) (m_expected l Z a0 hw (3 : Int32) i0 v39 v40 v41 i4 h157 n0 Z160) rfl (by decide) (W := 1) rfl (by decide) (c' := 2) (s' := 14) rfl rfl (by decide) (by decide) at_272 (n := 275) rfl pd2 rfl rfl ?_
  rintro _ _ ⟨rfl, rfl⟩
  refine G.icmp_ne C (A := (us.getD 3 0).toInt) (B := (expI (3 : Int32) i0 v39 v40 v41 i4).toInt) rfl rfl at_275 (by decide) (by decide) (n := 278) (n' := 410) rfl (fun c275_172 c275_172i => ?_) (fun c275_172 c275_172i => ?_)
  · exact absurd (fin_q (S := v39.toInt.toNat) (O := v41.toInt.toNat) rfl (by decide) (by omega) (by omega) qw.1 (by omega) (by omega) rfl (Hq 3)) c275_172
  refine G.aload C at_278 rfl rfl (n := 280) rfl ?_
  refine G.iconst C (v := (4 : Int32)) at_280 (by decide) (n := 281) rfl ?_
  refine G.baload C (x := (us.getD 4 0)) O155 (by decide) (getD_at (by rw [Hl]; decide)) at_281 (n := 282) rfl ?_
  refine G.iconst C (v := (4 : Int32)) at_282 (by decide) (n := 283) rfl ?_
  refine G.iloadN C at_283 rfl (n := 284) rfl ?_
  refine G.iload C at_284 rfl (n := 286) rfl ?_
  refine G.iload C at_286 rfl (n := 288) rfl ?_
  refine G.iload C at_288 rfl (n := 290) rfl ?_
  refine G.iload C at_290 rfl (n := 292) rfl ?_
  refine G.callS C (argsL := [(.int (4 : Int32)), (.int i0), (.int v39), (.int v40), (.int v41), (.int i4)]) (yc := (⟨"com/example/parley/parley/KeySetWriteHexPinLaw", "expected", "(IIIIII)B"⟩ : MethodName)) (wd hw 10 rfl) (wd hw 11 rfl) (wd hw 4 rfl) (wd hw 12 rfl) (by decide) (m_expected l Z a0 hw (4 : Int32) i0 v39 v40 v41 i4 h157 n0 Z160) rfl (by decide) (W := 1) rfl (by decide) (c' := 2) (s' := 14) rfl rfl (by decide) (by decide) at_292 (n := 295) rfl pd2 rfl rfl ?_
  rintro _ _ ⟨rfl, rfl⟩
  refine G.icmp_ne C (A := (us.getD 4 0).toInt) (B := (expI (4 : Int32) i0 v39 v40 v41 i4).toInt) rfl rfl at_295 (by decide) (by decide) (n := 298) (n' := 410) rfl (fun c295_175 c295_175i => ?_) (fun c295_175 c295_175i => ?_)
  · exact absurd (fin_q (S := v39.toInt.toNat) (O := v41.toInt.toNat) rfl (by decide) (by omega) (by omega) qw.1 (by omega) (by omega) rfl (Hq 4)) c295_175
  refine G.aload C at_298 rfl rfl (n := 300) rfl ?_
  refine G.iconst C (v := (5 : Int32)) at_300 (by decide) (n := 301) rfl ?_
  refine G.baload C (x := (us.getD 5 0)) O155 (by decide) (getD_at (by rw [Hl]; decide)) at_301 (n := 302) rfl ?_
  refine G.iconst C (v := (5 : Int32)) at_302 (by decide) (n := 303) rfl ?_
  refine G.iloadN C at_303 rfl (n := 304) rfl ?_
  refine G.iload C at_304 rfl (n := 306) rfl ?_
  refine G.iload C at_306 rfl (n := 308) rfl ?_
  refine G.iload C at_308 rfl (n := 310) rfl ?_
  refine G.iload C at_310 rfl (n := 312) rfl ?_
  refine G.callS C (argsL := [(.int (5 : Int32)), (.int i0), (.int v39), (.int v40), (.int v41), (.int i4)]) (yc := (⟨"com/example/parley/parley/KeySetWriteHexPinLaw", "expected", "(IIIIII)B"⟩ : MethodName)) (wd hw 10 rfl) (wd hw 11 rfl) (wd hw 4 rfl) (wd hw 12 rfl) (by decide) (m_expected l Z a0 hw (5 : Int32) i0 v39 v40 v41 i4 h157 n0 Z160) rfl (by decide) (W := 1) rfl (by decide) (c' := 2) (s' := 14) rfl rfl (by decide) (by decide) at_312 (n := 315) rfl pd2 rfl rfl ?_
  rintro _ _ ⟨rfl, rfl⟩
  refine G.icmp_ne C (A := (us.getD 5 0).toInt) (B := (expI (5 : Int32) i0 v39 v40 v41 i4).toInt) rfl rfl at_315 (by decide) (by decide) (n := 318) (n' := 410) rfl (fun c315_178 c315_178i => ?_) (fun c315_178 c315_178i => ?_)
  · exact absurd (fin_q (S := v39.toInt.toNat) (O := v41.toInt.toNat) rfl (by decide) (by omega) (by omega) qw.1 (by omega) (by omega) rfl (Hq 5)) c315_178
  refine G.aload C at_318 rfl rfl (n := 320) rfl ?_
  refine G.bipush C (v := (6 : Int32)) at_320 (by decide) (n := 322) rfl ?_
  refine G.baload C (x := (us.getD 6 0)) O155 (by decide) (getD_at (by rw [Hl]; decide)) at_322 (n := 323) rfl ?_
  refine G.bipush C (v := (6 : Int32)) at_323 (by decide) (n := 325) rfl ?_
  refine G.iloadN C at_325 rfl (n := 326) rfl ?_
  refine G.iload C at_326 rfl (n := 328) rfl ?_
  refine G.iload C at_328 rfl (n := 330) rfl ?_
  refine G.iload C at_330 rfl (n := 332) rfl ?_
  refine G.iload C at_332 rfl (n := 334) rfl ?_
  refine G.callS C (argsL := [(.int (6 : Int32)), (.int i0), (.int v39), (.int v40), (.int v41), (.int i4)]) (yc := (⟨"com/example/parley/parley/KeySetWriteHexPinLaw", "expected", "(IIIIII)B"⟩ : MethodName)) (wd hw 10 rfl) (wd hw 11 rfl) (wd hw 4 rfl) (wd hw 12 rfl) (by decide) (m_expected l Z a0 hw (6 : Int32) i0 v39 v40 v41 i4 h157 n0 Z160) rfl (by decide) (W := 1) rfl (by decide) (c' := 2) (s' := 14) rfl rfl (by decide) (by decide) at_334 (n := 337) rfl pd2 rfl rfl ?_
  rintro _ _ ⟨rfl, rfl⟩
  refine G.icmp_ne C (A := (us.getD 6 0).toInt) (B := (expI (6 : Int32) i0 v39 v40 v41 i4).toInt) rfl rfl at_337 (by decide) (by decide) (n := 340) (n' := 410) rfl (fun c337_181 c337_181i => ?_) (fun c337_181 c337_181i => ?_)
  · exact absurd (fin_q (S := v39.toInt.toNat) (O := v41.toInt.toNat) rfl (by decide) (by omega) (by omega) qw.1 (by omega) (by omega) rfl (Hq 6)) c337_181
  refine G.aload C at_340 rfl rfl (n := 342) rfl ?_
  refine G.bipush C (v := (7 : Int32)) at_342 (by decide) (n := 344) rfl ?_
  refine G.baload C (x := (us.getD 7 0)) O155 (by decide) (getD_at (by rw [Hl]; decide)) at_344 (n := 345) rfl ?_
  refine G.bipush C (v := (7 : Int32)) at_345 (by decide) (n := 347) rfl ?_
  refine G.iloadN C at_347 rfl (n := 348) rfl ?_
  refine G.iload C at_348 rfl (n := 350) rfl ?_
  refine G.iload C at_350 rfl (n := 352) rfl ?_
  refine G.iload C at_352 rfl (n := 354) rfl ?_
  refine G.iload C at_354 rfl (n := 356) rfl ?_
  refine G.callS C (argsL := [(.int (7 : Int32)), (.int i0), (.int v39), (.int v40), (.int v41), (.int i4)]) (yc := (⟨"com/example/parley/parley/KeySetWriteHexPinLaw", "expected", "(IIIIII)B"⟩ : MethodName)) (wd hw 10 rfl) (wd hw 11 rfl) (wd hw 4 rfl) (wd hw 12 rfl) (by decide) (m_expected l Z a0 hw (7 : Int32) i0 v39 v40 v41 i4 h157 n0 Z160) rfl (by decide) (W := 1) rfl (by decide) (c' := 2) (s' := 14) rfl rfl (by decide) (by decide) at_356 (n := 359) rfl pd2 rfl rfl ?_
  rintro _ _ ⟨rfl, rfl⟩
  refine G.icmp_ne C (A := (us.getD 7 0).toInt) (B := (expI (7 : Int32) i0 v39 v40 v41 i4).toInt) rfl rfl at_359 (by decide) (by decide) (n := 362) (n' := 410) rfl (fun c359_184 c359_184i => ?_) (fun c359_184 c359_184i => ?_)
  · exact absurd (fin_q (S := v39.toInt.toNat) (O := v41.toInt.toNat) rfl (by decide) (by omega) (by omega) qw.1 (by omega) (by omega) rfl (Hq 7)) c359_184
  refine G.aload C at_362 rfl rfl (n := 364) rfl ?_
  refine G.bipush C (v := (8 : Int32)) at_364 (by decide) (n := 366) rfl ?_
  refine G.baload C (x := (us.getD 8 0)) O155 (by decide) (getD_at (by rw [Hl]; decide)) at_366 (n := 367) rfl ?_
  refine G.bipush C (v := (8 : Int32)) at_367 (by decide) (n := 369) rfl ?_
  refine G.iloadN C at_369 rfl (n := 370) rfl ?_
  refine G.iload C at_370 rfl (n := 372) rfl ?_
  refine G.iload C at_372 rfl (n := 374) rfl ?_
  refine G.iload C at_374 rfl (n := 376) rfl ?_
  refine G.iload C at_376 rfl (n := 378) rfl ?_
  refine G.callS C (argsL := [(.int (8 : Int32)), (.int i0), (.int v39), (.int v40), (.int v41), (.int i4)]) (yc := (⟨"com/example/parley/parley/KeySetWriteHexPinLaw", "expected", "(IIIIII)B"⟩ : MethodName)) (wd hw 10 rfl) (wd hw 11 rfl) (wd hw 4 rfl) (wd hw 12 rfl) (by decide) (m_expected l Z a0 hw (8 : Int32) i0 v39 v40 v41 i4 h157 n0 Z160) rfl (by decide) (W := 1) rfl (by decide) (c' := 2) (s' := 14) rfl rfl (by decide) (by decide) at_378 (n := 381) rfl pd2 rfl rfl ?_
  rintro _ _ ⟨rfl, rfl⟩
  refine G.icmp_ne C (A := (us.getD 8 0).toInt) (B := (expI (8 : Int32) i0 v39 v40 v41 i4).toInt) rfl rfl at_381 (by decide) (by decide) (n := 384) (n' := 410) rfl (fun c381_187 c381_187i => ?_) (fun c381_187 c381_187i => ?_)
  · exact absurd (fin_q (S := v39.toInt.toNat) (O := v41.toInt.toNat) rfl (by decide) (by omega) (by omega) qw.1 (by omega) (by omega) rfl (Hq 8)) c381_187
  refine G.aload C at_384 rfl rfl (n := 386) rfl ?_
  refine G.bipush C (v := (9 : Int32)) at_386 (by decide) (n := 388) rfl ?_
  refine G.baload C (x := (us.getD 9 0)) O155 (by decide) (getD_at (by rw [Hl]; decide)) at_388 (n := 389) rfl ?_
  refine G.bipush C (v := (9 : Int32)) at_389 (by decide) (n := 391) rfl ?_
  refine G.iloadN C at_391 rfl (n := 392) rfl ?_
  refine G.iload C at_392 rfl (n := 394) rfl ?_
  refine G.iload C at_394 rfl (n := 396) rfl ?_
  refine G.iload C at_396 rfl (n := 398) rfl ?_
  refine G.iload C at_398 rfl (n := 400) rfl ?_
  refine G.callS C (argsL := [(.int (9 : Int32)), (.int i0), (.int v39), (.int v40), (.int v41), (.int i4)]) (yc := (⟨"com/example/parley/parley/KeySetWriteHexPinLaw", "expected", "(IIIIII)B"⟩ : MethodName)) (wd hw 10 rfl) (wd hw 11 rfl) (wd hw 4 rfl) (wd hw 12 rfl) (by decide) (m_expected l Z a0 hw (9 : Int32) i0 v39 v40 v41 i4 h157 n0 Z160) rfl (by decide) (W := 1) rfl (by decide) (c' := 2) (s' := 14) rfl rfl (by decide) (by decide) at_400 (n := 403) rfl pd2 rfl rfl ?_
  rintro _ _ ⟨rfl, rfl⟩
  refine G.icmp_ne C (A := (us.getD 9 0).toInt) (B := (expI (9 : Int32) i0 v39 v40 v41 i4).toInt) rfl rfl at_403 (by decide) (by decide) (n := 406) (n' := 410) rfl (fun c403_190 c403_190i => ?_) (fun c403_190 c403_190i => ?_)
  · exact absurd (fin_q (S := v39.toInt.toNat) (O := v41.toInt.toNat) rfl (by decide) (by omega) (by omega) qw.1 (by omega) (by omega) rfl (Hq 9)) c403_190
  refine G.iconst C (v := (1 : Int32)) at_406 (by decide) (n := 407) rfl ?_
  refine G.goto C at_407 (by decide) (n := 411) (by decide) ?_
  refine G.ireturn C at_411 (rfl) (by simp) (by decide) (by decide) ?_
  exact rfl
theorem size16 {cl : Cell} (q : cl.slots.size < 2 ^ 31 ∧ cl.slots.size.toInt32 = 16) : cl.slots.size = 16 := by
  have h := congrArg Int32.toInt q.2
  rw [show cl.slots.size.toInt32.toInt = cl.slots.size from Int32.toInt_ofNat_of_lt q.1, show (16 : Int32).toInt = 16 from rfl] at h
  omega
theorem hex_at {s : State} {args : Array Value} {t : Term} {a : Addr} {cl : Cell} {G : Jvm.Cond} {P : Prop} [Decidable P] {k : Nat} {D : Int64} (hf : Fit s) (et : ∀ idx, t.eval args s none idx s = some (.ref a)) (A : Arr s s.heap a cl .byte) (hz : cl.slots.size = 16) (hk : k < 16)
    (h : (Jvm.Cond.all t (Jvm.Cond.or G (Jvm.Cond.eq (Term.op1 .i2l (Term.elem t (Term.index 0))) (Term.op2 .ladd (Term.op1 .i2l (Term.index 0)) (Term.long D))))).value args s none s [] = some true)
    (hG : G.value args s none s [k] = some (decide P)) (hP : ¬ P) : ∃ x : Int32, cl.slots[k]? = some (.int x) ∧ x.toInt64 = (Int32.ofNat k).toInt64 + D := by
  have e1 := Cond.all_elim (et []) (A.fin (Vm.Alike.refl _)) h k (by omega)
  have hj : (Int32.ofNat k).toInt = k := Int32.toInt_ofNat_of_lt (by omega)
  have hjn : (Int32.ofNat k).toNatClampNeg = k := by rw [nat_clamp, hj]; rfl
  have nn : ¬ (Int32.ofNat k) < 0 := not_neg (by omega)
  obtain ⟨v, hv, hfit⟩ := elem_fit hf A (j := Int32.ofNat k) (by rw [hjn]; exact fun q => q.elim nn (by omega))
  obtain ⟨x, rfl⟩ := fit_I hfit (by simp)
  rw [hjn] at hv
  refine ⟨x, hv, ?_⟩
  have i1 : (Term.index 0).eval args s none [k] s = some (.int (Int32.ofNat k)) := by
    have := idx_at (args := args) (s := s) (first := s) (o := none) nn
    rw [hjn] at this; exact this
  have i2 : (Term.elem t (Term.index 0)).eval args s none [k] s = some (.int x) := by
    rw [elem_f (et _) i1 (A.fin (Vm.Alike.refl _)) nn, hjn]; exact hv
  have d1 : (Jvm.Cond.eq (Term.op1 .i2l (Term.elem t (Term.index 0))) (Term.op2 .ladd (Term.op1 .i2l (Term.index 0)) (Term.long D))).value args s none s [k] = some (decide (x.toInt64 = (Int32.ofNat k).toInt64 + D)) := by
    refine eq_L (i2l_at i2) ?_
    rw [op2_f (i2l_at i1) (long_at D)]; rfl
  exact (or_e2 hG d1 e1).resolve_left hP
theorem i64_eq {x : Int32} {k D L : Nat} (hk : k < 16) (hD : D < 1000) (hL : L = k + D) (h : x.toInt64 = (Int32.ofNat k).toInt64 + Int64.ofNat D) : x = Int32.ofNat L := by
  apply Int32.toInt_inj.mp
  have h2 := congrArg Int64.toInt h
  have q1 := c_ladd (Int32.ofNat k).toInt64 (Int64.ofNat D)
  have q2 := rng64 ((Int32.ofNat k).toInt64 + Int64.ofNat D)
  rw [c_i2l] at h2
  rw [c_i2l, Int32.toInt_ofNat_of_lt (by omega), Int64.toInt_ofNat_of_lt (by omega)] at q1
  rw [Int32.toInt_ofNat_of_lt (by omega)]
  omega
theorem hex_lo {s : State} {args : Array Value} {n d C0 : String} {a : Addr} {cl : Cell} (hf : Fit s) (ea : (Term.static C0 n d).eval args s none [] s = some (.ref a)) (A : Arr s s.heap a cl .byte) (hz : cl.slots.size = 16)
    (h : (Jvm.Cond.all (Term.static C0 n d) (Jvm.Cond.or (Jvm.Cond.le (Term.int 10) (Term.index 0)) (Jvm.Cond.eq (Term.op1 .i2l (Term.elem (Term.static C0 n d) (Term.index 0))) (Term.op2 .ladd (Term.op1 .i2l (Term.index 0)) (Term.long 48))))).value args s none s [] = some true) (k : Nat) (hk : k < 10) : cl.slots[k]? = some (.int (Int32.ofNat (k + 48))) := by
  have hj : (Int32.ofNat k).toInt = k := Int32.toInt_ofNat_of_lt (by omega)
  have hjn : (Int32.ofNat k).toNatClampNeg = k := by rw [nat_clamp, hj]; rfl
  have i1 : (Term.index 0).eval args s none [k] s = some (.int (Int32.ofNat k)) := by
    have := idx_at (args := args) (s := s) (first := s) (o := none) (not_neg (j := Int32.ofNat k) (by omega))
    rw [hjn] at this; exact this
  obtain ⟨x, h1, h2⟩ := hex_at hf (fun idx => ea) A hz (by omega) h (Cond.le_ints (Term.int_eval 10) i1) (by rw [le_i, hj]; rw [show (10 : Int32).toInt = 10 from rfl]; omega)
  rw [h1, i64_eq (D := 48) (by omega) (by decide) rfl h2]
theorem hex_hi {s : State} {args : Array Value} {n d C0 : String} {a : Addr} {cl : Cell} (hf : Fit s) (ea : (Term.static C0 n d).eval args s none [] s = some (.ref a)) (A : Arr s s.heap a cl .byte) (hz : cl.slots.size = 16)
    (h : (Jvm.Cond.all (Term.static C0 n d) (Jvm.Cond.or (Jvm.Cond.lt (Term.index 0) (Term.int 10)) (Jvm.Cond.eq (Term.op1 .i2l (Term.elem (Term.static C0 n d) (Term.index 0))) (Term.op2 .ladd (Term.op1 .i2l (Term.index 0)) (Term.long 87))))).value args s none s [] = some true) (k : Nat) (hk : k < 16) (hk2 : 10 ≤ k) : cl.slots[k]? = some (.int (Int32.ofNat (k + 87))) := by
  have hj : (Int32.ofNat k).toInt = k := Int32.toInt_ofNat_of_lt (by omega)
  have hjn : (Int32.ofNat k).toNatClampNeg = k := by rw [nat_clamp, hj]; rfl
  have i1 : (Term.index 0).eval args s none [k] s = some (.int (Int32.ofNat k)) := by
    have := idx_at (args := args) (s := s) (first := s) (o := none) (not_neg (j := Int32.ofNat k) (by omega))
    rw [hjn] at this; exact this
  obtain ⟨x, h1, h2⟩ := hex_at hf (fun idx => ea) A hz (by omega) h (Cond.lt_ints i1 (Term.int_eval 10)) (by rw [lt_i, hj]; rw [show (10 : Int32).toInt = 10 from rfl]; omega)
  rw [h1, i64_eq (D := 87) (by omega) (by decide) rfl h2]
set_option maxRecDepth 65536 in
set_option maxHeartbeats 40000000 in
theorem comes_1 {Post : Tables → Env → Array Value → State → Outcome → State → Prop} (hpost : ∀ tb e args s v u, (limb_1_1.after args s (.returned v) u = true ∧ limb_1_2.after args s (.returned v) u = true ∧ True) → FrameEnd s (.returned v) u (Jvm.fieldLocs frame_1_writes args s ++ Jvm.arrayLocs frame_1_arrays args s ++ Jvm.staticLocs frame_1_statics s) 16 128 → Post tb e args s (.returned v) u) :
    ArmFor flags0 classFile x code maxLocals ret World_1 tables_1 room_1 Calls_1 rest_1 Pre_1 Post := by
  intro l hfl _ _ p e ha hc hk s m args below hf hA hF happ hP
  obtain ⟨hcalls, hrest, hpre⟩ := hP
  obtain ⟨-, -, -, hnamed, -, -, -, hat⟩ := (Spec.applies_iff hf).mp happ
  obtain ⟨hg, hn⟩ := and_e (Cond.before_iff.mp (show (Jvm.Cond.and given_1 narrow_1).before args s = true from hpre))
  obtain ⟨k1, k2⟩ := and_e hg
  obtain ⟨w0, w1, w2, w3, w4, rfl⟩ : ∃ w0 w1 w2 w3 w4 : Value, args = #[w0, w1, w2, w3, w4] := by
    have hs : args.size = 5 := by simpa [Cond.value, given_1] using k1
    obtain ⟨L⟩ := args
    match L, hs with
    | [w0, w1, w2, w3, w4], _ => exact ⟨w0, w1, w2, w3, w4, rfl⟩
  have hw := fun d (hd : d ∈ tables_1) => atoms_spec (ws := Jvm.Cond.code x code maxLocals ret :: tables_1) hat d (List.mem_cons_of_mem _ hd)
  have hfit : Fit s := fun {y c} hc i hi => by
    obtain ⟨ha, rfl⟩ := Array.getElem?_eq_some_iff.mp hc
    have q := List.all_eq_true.mp ((Array.all_eq_true_iff_forall_mem.mp hF) _ (Array.getElem_mem ha)) i (List.mem_range.mpr hi)
    simpa [Array.getElem?_eq_getElem hi] using q
  obtain ⟨u0, k2⟩ := and_e k2
  obtain ⟨i0, e0⟩ := is_v u0
  obtain rfl : w0 = (.int i0) := Option.some.inj e0
  obtain ⟨u1, k2⟩ := and_e k2
  obtain ⟨i1, e1⟩ := is_v u1
  obtain rfl : w1 = (.int i1) := Option.some.inj e1
  obtain ⟨u2, k2⟩ := and_e k2
  obtain ⟨i2, e2⟩ := is_v u2
  obtain rfl : w2 = (.int i2) := Option.some.inj e2
  obtain ⟨u3, k2⟩ := and_e k2
  obtain ⟨i3, e3⟩ := is_v u3
  obtain rfl : w3 = (.int i3) := Option.some.inj e3
  have u4 := k2
  obtain ⟨i4, e4⟩ := is_v u4
  obtain rfl : w4 = (.int i4) := Option.some.inj e4
  obtain ⟨nA, hn⟩ := and_e hn
  obtain ⟨nL, hn⟩ := and_e hn
  obtain ⟨n1, n2⟩ := and_e hn
  obtain ⟨hx, ea⟩ := arr_v nA
  obtain ⟨cF, AF⟩ := Arr.start ea nA
  have SH := Sta.start ea (Or.inr ⟨wd hw 8 rfl, wd hw 14 rfl⟩)
  have qL := len_q ea (AF.fin (Vm.Alike.refl _)) (eqv_i (Term.int_eval 16) nL)
  have hz := size16 qL
  have T1 := hex_lo hfit ea AF hz n1
  have T2 := hex_hi hfit ea AF hz n2
  have HXA : Ints s s.heap hx .byte HX := Ints.start hfit AF qL rfl ⟨T1 0 (by decide), T1 1 (by decide), T1 2 (by decide), T1 3 (by decide), T1 4 (by decide), T1 5 (by decide), T1 6 (by decide), T1 7 (by decide), T1 8 (by decide), T1 9 (by decide), T2 10 (by decide) (by decide), T2 11 (by decide) (by decide), T2 12 (by decide) (by decide), T2 13 (by decide) (by decide), T2 14 (by decide) (by decide), T2 15 (by decide) (by decide), trivial⟩
  obtain ⟨n, o, h1, h2, h3, _, L, rfl, ⟨N, rfl⟩, hq⟩ := m_law l s _ hw i0 i1 i2 i3 i4 hx s.heap s.heap.size (Nat.le_refl _) (Old.start s) SH HXA tables_1 p e ha hc hk s m _ below hf ((Spec.applies_iff_loose hf).mp happ).1 ⟨rfl, State.Warmed39.refl s, rfl⟩ trivial
  refine ⟨n, _, h1, h2, h3, hpost _ _ _ _ _ _ ⟨Cond.after_iff.mpr rfl, Cond.after_iff.mpr (eq_i res_at (Term.int_eval (1)) rfl), trivial⟩ ⟨hq.1, hq.2.1, (hq.2.2.sift fun y hy => Or.inr (N y hy)).mono (by decide) (by decide)⟩⟩
theorem main_1_1 : Claimed_1_1 := comes_1 fun _ _ _ _ _ _ h hF => ⟨h.1, hF⟩
theorem main_1_2 : Claimed_1_2 := comes_1 fun _ _ _ _ _ _ h hF => ⟨h.2.1, hF⟩
end Jvm.Pilot.@@N@@
namespace Jvm.Pilot.@@N@@
open Jvm Jvm.ClassFile Sem Op Lib Jvm.Free Jvm.Stand Jvm.Pilot.@@N@@.Jvm.D
/-! MADE BY PROGRAM (witnessworld.py) out of the Statement's table words and the real class files: 9 classes; the members and pool entries that the words name. The judged class is class 1, her method 1. -/
namespace start1
open Jvm.ClassFile
def u (s : String) : CpInfo := .utf8 (stringToUtf16 s)
/-- a pool by its gaps: so many unusable entries, then the entry; so many at the end -/
def gap : Nat → List CpInfo → List CpInfo
  | 0, r => r
  | n + 1, r => .unusable :: gap n r
def poolList (es : List (Nat × CpInfo)) (last : Nat) : List CpInfo := es.foldr (fun e r => gap e.1 (e.2 :: r)) (gap last [])
def pool (es : List (Nat × CpInfo)) (last : Nat) : Array CpInfo := ⟨poolList es last⟩
def fileOf (pool : Array CpInfo) (this : Nat) (attrs : Array Attribute := #[]) (ms : Array MethodInfo := #[]) (fl : Nat := 33) (sup : Nat := 0) (ifs : Array Nat := #[]) (fds : Array FieldInfo := #[]) : ClassFile where
  minorVersion := 0
  majorVersion := 65
  constantPool := pool
  accessFlags := fl
  thisClass := this
  superClass := sup
  interfaces := ifs
  fields := fds
  methods := ms
  attributes := attrs
def plain (name : String) (sup : Option ClassId) : Class where
  name := name
  kind := .ordinary
  loader := none
  accessFlags := 33
  super := sup
  interfaces := #[]
  cf := none
  fields := #[]
  methods := #[]
  instanceTypes := #[]
  staticTypes := #[]
  resolved := #[]
  callSites := []
  init := .initialized
  statics := none
  mirror := none

def pool0 : Array CpInfo := pool [(5, u "<init>"), (0, u "()V"), (1, .class_ 10), (1, u "java/lang/Object")] 113

def k0m0 : Method := { name := "<init>", desc := "()V", sig := { parameters := [], returnType := none }, accessFlags := 1, code := none }
/-- java/lang/Object -/
def k0 : Class := { plain "java/lang/Object" none with
  accessFlags := 33
  interfaces := #[]
  cf := some (fileOf pool0 8 #[] #[{ accessFlags := 1, nameIndex := 5, descriptorIndex := 6, attributes := #[] }] 33 0 #[] #[])
  fields := #[]
  methods := #[k0m0]
  instanceTypes := #[]
  staticTypes := #[]
  resolved := Array.replicate 124 none
  statics := none }

def pool1 : Array CpInfo := pool [(2, .class_ 4), (1, u "java/lang/Object"), (0, u "<init>"), (0, u "()V"), (0, .integer 2147483647), (0, .methodref 9 10), (0, .class_ 11), (0, .nameAndType 12 13), (0, u "com/example/parley/parley/KeySetWriteHexPinLaw"), (0, u "fill"), (0, u "(II)B"), (0, .methodref 15 16), (0, .class_ 17), (0, .nameAndType 18 19), (0, u "com/example/parley/parley/KeySet"), (0, u "writeHex"), (0, u "([BII[BI)V"), (0, .methodref 9 21), (0, .nameAndType 22 23), (0, u "expected"), (0, u "(IIIIII)B"), (2, u "law"), (0, u "(IIIII)Z")] 5

def k1m0 : Method := { name := "<init>", desc := "()V", sig := { parameters := [], returnType := none }, accessFlags := 1, code := none }
def k1c1 : Code := { maxStack := 7, maxLocals := 10, code := code, exceptionTable := #[], attributes := #[] }
def k1m1 : Method := { name := "law", desc := "(IIIII)Z", sig := { parameters := [.int, .int, .int, .int, .int], returnType := some .boolean }, accessFlags := 9, code := some k1c1 }
def k1c2 : Code := { maxStack := 3, maxLocals := 2, code := method_3_code, exceptionTable := #[], attributes := #[] }
def k1m2 : Method := { name := "fill", desc := "(II)B", sig := { parameters := [.int, .int], returnType := some .byte }, accessFlags := 10, code := some k1c2 }
def k1c3 : Code := { maxStack := 5, maxLocals := 9, code := method_4_code, exceptionTable := #[], attributes := #[] }
def k1m3 : Method := { name := "expected", desc := "(IIIIII)B", sig := { parameters := [.int, .int, .int, .int, .int, .int], returnType := some .byte }, accessFlags := 10, code := some k1c3 }
/-- com/example/parley/parley/KeySetWriteHexPinLaw -/
def k1 : Class := { plain "com/example/parley/parley/KeySetWriteHexPinLaw" (some 0) with
  accessFlags := 49
  interfaces := #[]
  cf := some (fileOf pool1 9 #[] #[{ accessFlags := 1, nameIndex := 5, descriptorIndex := 6, attributes := #[] }, { accessFlags := 9, nameIndex := 26, descriptorIndex := 27, attributes := #[] }, { accessFlags := 10, nameIndex := 12, descriptorIndex := 13, attributes := #[] }, { accessFlags := 10, nameIndex := 22, descriptorIndex := 23, attributes := #[] }] 49 2 #[] #[])
  fields := #[]
  methods := #[k1m0, k1m1, k1m2, k1m3]
  instanceTypes := #[]
  staticTypes := #[]
  resolved := Array.replicate 33 none
  statics := none }

def pool2 : Array CpInfo := pool [(2, .class_ 4), (1, u "java/lang/Object"), (3, .class_ 10), (1, u "com/example/parley/parley/KeySet"), (0, u "width"), (0, u "I"), (2, u "packed"), (0, u "[B"), (184, .class_ 203), (1, u "com/example/parley/parley/KeySet$Batch"), (82, u "writeHex"), (0, u "([BII[BI)V"), (0, .fieldref 8 289), (0, .nameAndType 290 16), (0, u "HEX_DIGITS"), (16, u "MIN_WIDTH"), (2, u "MAX_WIDTH"), (1, u "RADIX_LEAST")] 92

def k2c0 : Code := { maxStack := 5, maxLocals := 7, code := prog_13_method_46_code, exceptionTable := #[], attributes := #[] }
def k2m0 : Method := { name := "writeHex", desc := "([BII[BI)V", sig := { parameters := [(.array .byte), .int, .int, (.array .byte), .int], returnType := none }, accessFlags := 9, code := some k2c0 }
/-- com/example/parley/parley/KeySet -/
def k2 : Class := { plain "com/example/parley/parley/KeySet" (some 0) with
  accessFlags := 49
  interfaces := #[]
  cf := some (fileOf pool2 8 #[.nestMembers #[201]] #[{ accessFlags := 9, nameIndex := 286, descriptorIndex := 287, attributes := #[] }] 49 2 #[] #[{ accessFlags := 25, nameIndex := 307, descriptorIndex := 12, attributes := #[] }, { accessFlags := 25, nameIndex := 310, descriptorIndex := 12, attributes := #[] }, { accessFlags := 26, nameIndex := 290, descriptorIndex := 16, attributes := #[] }, { accessFlags := 26, nameIndex := 312, descriptorIndex := 12, attributes := #[] }, { accessFlags := 18, nameIndex := 11, descriptorIndex := 12, attributes := #[] }, { accessFlags := 18, nameIndex := 15, descriptorIndex := 16, attributes := #[] }])
  fields := #[{ name := "MIN_WIDTH", type := .int, accessFlags := 25, slot := 0, constantValue := 0 }, { name := "MAX_WIDTH", type := .int, accessFlags := 25, slot := 1, constantValue := 0 }, { name := "HEX_DIGITS", type := (.array .byte), accessFlags := 26, slot := 2, constantValue := 0 }, { name := "RADIX_LEAST", type := .int, accessFlags := 26, slot := 3, constantValue := 0 }, { name := "width", type := .int, accessFlags := 18, slot := 0, constantValue := 0 }, { name := "packed", type := (.array .byte), accessFlags := 18, slot := 1, constantValue := 0 }]
  methods := #[k2m0]
  instanceTypes := #[.int, (.array .byte)]
  staticTypes := #[.int, .int, (.array .byte), .int]
  resolved := Array.replicate 405 none
  statics := some 0 }

def pool3 : Array CpInfo := pool [(1, u "java/lang/Cloneable"), (0, .class_ 1), (0, u "java/lang/Object"), (0, .class_ 3)] 3

/-- java/lang/Cloneable -/
def k3 : Class := { plain "java/lang/Cloneable" (some 0) with
  accessFlags := 1537
  interfaces := #[]
  cf := some (fileOf pool3 2 #[] #[] 1537 4 #[] #[])
  fields := #[]
  methods := #[]
  instanceTypes := #[]
  staticTypes := #[]
  resolved := Array.replicate 8 none
  statics := none }

def pool4 : Array CpInfo := pool [(1, u "java/io/Serializable"), (0, .class_ 1), (0, u "java/lang/Object"), (0, .class_ 3)] 3

/-- java/io/Serializable -/
def k4 : Class := { plain "java/io/Serializable" (some 0) with
  accessFlags := 1537
  interfaces := #[]
  cf := some (fileOf pool4 2 #[] #[] 1537 4 #[] #[])
  fields := #[]
  methods := #[]
  instanceTypes := #[]
  staticTypes := #[]
  resolved := Array.replicate 8 none
  statics := none }

/-- the primitive byte -/
def k5 : Class := { plain "byte" none with kind := .primitive 'B', accessFlags := 0x411 }
/-- [B -/
def k6 : Class := { plain "[B" (some 0) with kind := .array 5 .byte, interfaces := #[3, 4], accessFlags := 1041 }

/-- the primitive int -/
def k7 : Class := { plain "int" none with kind := .primitive 'I', accessFlags := 0x411 }
/-- [I -/
def k8 : Class := { plain "[I" (some 0) with kind := .array 7 .int, interfaces := #[3, 4], accessFlags := 1041 }

def heap : Heap := #[{ cls := 2, slots := #[.int 0, .int 0, .ref 1, .int 0], vm := .statics 2 },
  { cls := 6, slots := #[.int 48, .int 49, .int 50, .int 51, .int 52, .int 53, .int 54, .int 55, .int 56, .int 57, .int 97, .int 98, .int 99, .int 100, .int 101, .int 102], vm := .none }]
def classes : Array Class := #[k0, k1, k2, k3, k4, k5, k6, k7, k8]
def interned : List (Array UInt16 × Addr) := []
def slotsUsed : Nat := 20
def theMethod : MethodId := ⟨1, 1⟩
def args0 : Array Value := #[.int 5, .int 6, .int 1, .int 2, .int 3]
def aboutOver (below : List Frame) : State where
  vm := { classes := classes, interned := interned.toArray }
  heap := heap
  slotsUsed := slotsUsed
  threads := #[{ frames := .invoking theMethod args0 :: below }]
def below0 : List Frame := [.native { method := ⟨0, 0⟩, args := #[] }]
def about1 : State := aboutOver below0
def p0 : Program := .bare "" "" ""
def e0 : Env := launch0.env 0 0 0
theorem w_frames : about1.frames = Frame.invoking theMethod args0 :: below0 := rfl
set_option maxRecDepth 65536 in
theorem w_args : argsFit about1.vm theMethod args0 = true := by decide +kernel
set_option maxRecDepth 65536 in
theorem w_heap : heapFits about1 = true := by decide +kernel
set_option maxRecDepth 65536 in
theorem w_runnable : about1.curStatus? = some .runnable := by decide +kernel
set_option maxRecDepth 65536 in
theorem w_alone : about1.alone = true := by decide +kernel
set_option maxRecDepth 65536 in
theorem w_named : about1.methodNamed? x = some theMethod := by decide +kernel
set_option maxRecDepth 65536 in
theorem w_hears : about1.hears theMethod below0 = true := by decide +kernel
set_option maxRecDepth 65536 in
theorem w_ripe : about1.ripe theMethod args0 below0 = true := by decide +kernel
theorem w_running : about1.status = .running := rfl
set_option maxRecDepth 65536 in
theorem w_room : about1.hasRoom e0.platform room_1 = true :=
  launch0.hasRoom_least _ room_1 (by decide +kernel) (by decide +kernel) (by decide +kernel) (by decide +kernel) (by decide +kernel) (by decide +kernel)
theorem allAtoms_all (ts : List Jvm.Cond) (a : Array Jvm.Value) (st : Jvm.State) : (allAtoms ts).before a st = ts.all (fun c => c.before a st) := by
  induction ts with
  | nil => rfl
  | cons c t ih =>
    show (Jvm.Cond.and c (allAtoms t)).before a st = _
    rw [Jvm.Cond.before_and, ih, List.all_cons]
def words1 : List Jvm.Cond := Jvm.Cond.code x code maxLocals ret :: tables_1
/-- a 'code' word, met by the world's own term for the bytes: nothing is compared byte by byte -/
theorem code_word {y : MethodName} {bytes : ByteArray} {mx : Nat} {rt : Option FieldType} {a : Array Value} {s : State} {m : MethodId} {meth : Method} {c : Code} (h1 : s.methodNamed? y = some m) (h2 : s.vm.method? m = some meth) (h3 : meth.code = some c) (h4 : c.code = bytes)
    (h5 : (c.maxLocals == mx && c.exceptionTable.isEmpty && decide (c.maxStack ≤ mostOperands) && decide (meth.sig.returnType = rt) && !meth.locks && decide (parseMethodDescriptor y.desc = some meth.sig)) = true) : (Jvm.Cond.code y bytes mx rt).before a s = true := by
  simp only [Bool.and_eq_true, beq_iff_eq, Bool.not_eq_true', decide_eq_true_eq] at h5
  obtain ⟨⟨⟨⟨⟨g1, g2⟩, g3⟩, g4⟩, g5⟩, g6⟩ := h5
  simp [Cond.before, Cond.holds, Cond.value, h1, h2, h3, h4, g1, g2, g3, g4, g5, g6]
def isCode : Jvm.Cond → Bool
  | .code _ _ _ _ => true
  | _ => false
theorem all_split {L : List Jvm.Cond} {P : Jvm.Cond → Bool} (h1 : L.all (fun c => isCode c || P c) = true) (h2 : ∀ c ∈ L.filter isCode, P c = true) : L.all P = true := by
  refine List.all_eq_true.mpr fun c hc => ?_
  have h := List.all_eq_true.mp h1 c hc
  rcases Bool.eq_false_or_eq_true (isCode c) with hi | hi
  · exact h2 c (List.mem_filter.mpr ⟨hc, hi⟩)
  · simpa [hi] using h
set_option maxRecDepth 65536 in
theorem w_c0 : (Jvm.Cond.code x code maxLocals ret).before args0 about1 = true := code_word (m := ⟨1, 1⟩) (meth := k1m1) (c := k1c1) (by decide +kernel) rfl rfl rfl (by decide +kernel)
set_option maxRecDepth 65536 in
theorem w_c1 : (Jvm.Cond.code ({ cls := "com/example/parley/parley/KeySetWriteHexPinLaw", name := "fill", desc := "(II)B" } : Jvm.MethodName) method_3_code (2 : Nat) (Option.some Jvm.ClassFile.FieldType.byte)).before args0 about1 = true := code_word (m := ⟨1, 2⟩) (meth := k1m2) (c := k1c2) (by decide +kernel) rfl rfl rfl (by decide +kernel)
set_option maxRecDepth 65536 in
theorem w_c2 : (Jvm.Cond.code ({ cls := "com/example/parley/parley/KeySet", name := "writeHex", desc := "([BII[BI)V" } : Jvm.MethodName) prog_13_method_46_code (7 : Nat) (Option.none : Option Jvm.ClassFile.FieldType)).before args0 about1 = true := code_word (m := ⟨2, 0⟩) (meth := k2m0) (c := k2c0) (by decide +kernel) rfl rfl rfl (by decide +kernel)
set_option maxRecDepth 65536 in
theorem w_c3 : (Jvm.Cond.code ({ cls := "com/example/parley/parley/KeySetWriteHexPinLaw", name := "expected", desc := "(IIIIII)B" } : Jvm.MethodName) method_4_code (9 : Nat) (Option.some Jvm.ClassFile.FieldType.byte)).before args0 about1 = true := code_word (m := ⟨1, 3⟩) (meth := k1m3) (c := k1c3) (by decide +kernel) rfl rfl rfl (by decide +kernel)
def codes1 : List Jvm.Cond := [Jvm.Cond.code x code maxLocals ret, Jvm.Cond.code ({ cls := "com/example/parley/parley/KeySetWriteHexPinLaw", name := "fill", desc := "(II)B" } : Jvm.MethodName) method_3_code (2 : Nat) (Option.some Jvm.ClassFile.FieldType.byte), Jvm.Cond.code ({ cls := "com/example/parley/parley/KeySet", name := "writeHex", desc := "([BII[BI)V" } : Jvm.MethodName) prog_13_method_46_code (7 : Nat) (Option.none : Option Jvm.ClassFile.FieldType), Jvm.Cond.code ({ cls := "com/example/parley/parley/KeySetWriteHexPinLaw", name := "expected", desc := "(IIIIII)B" } : Jvm.MethodName) method_4_code (9 : Nat) (Option.some Jvm.ClassFile.FieldType.byte)]
set_option maxRecDepth 65536 in
theorem codes_eq : words1.filter isCode = codes1 := rfl
theorem w_codes : ∀ c ∈ words1.filter isCode, c.before args0 about1 = true := by
  rw [codes_eq]
  intro c hc
  simp only [codes1, List.mem_cons, List.not_mem_nil, or_false] at hc
  rcases hc with rfl | rfl | rfl | rfl
  · exact w_c0
  · exact w_c1
  · exact w_c2
  · exact w_c3
set_option maxRecDepth 65536 in
theorem w_t1 : words1.all (fun c => isCode c || c.before args0 about1) = true := by decide +kernel
theorem w_tables : (allAtoms (Jvm.Cond.code x code maxLocals ret :: tables_1)).before args0 about1 = true := by
  rw [allAtoms_all]
  show words1.all (fun c => c.before args0 about1) = true
  refine all_split ?_ w_codes
  rw [w_t1]
set_option maxRecDepth 65536 in
theorem w_case : (Jvm.Cond.and given_1 narrow_1).before args0 about1 = true := by decide +kernel
theorem w_applies : (headSpec (Jvm.Cond.code x code maxLocals ret :: tables_1) room_1).applies x e0.platform about1 = true :=
  (Spec.applies_iff w_frames).mpr ⟨w_running, w_runnable, w_alone, w_named, w_hears, w_ripe, w_room, w_tables⟩
theorem atStart : AtStart classFile x code maxLocals ret World_1 tables_1 room_1 Calls_1 rest_1 Pre_1 launch0 p0 e0 about1 theMethod args0 below0 :=
  ⟨lists_1, trivial, launch0.admits_env _ _ _, launch0.least_env, fairChoices_fair.cas, fairChoices_fair.clock, w_frames, w_args, w_heap, w_applies, trivial, trivial, w_case⟩
end start1
theorem witness_1 : WitnessClaimed_1 := ⟨start1.p0, start1.e0, start1.about1, start1.theMethod, start1.args0, start1.below0, start1.atStart⟩
end Jvm.Pilot.@@N@@
